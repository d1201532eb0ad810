import Derived.ChangeArms
import Derived.KernelRfl
import Derived.Lib.LaidTab
import Derived.Test.YtpnkedaceaodbaaGreatDoorRows
import Derived.Test.YtpnkedaceaodbaaGreatDoorP05
/- Part of the proof. -/
set_option linter.all false
section
namespace Go.Pi
open Go.RowKit Go.Proofs Go.Proofs.YtpnkedaceaodbaaGreatDoor
mutual
def wt : PV → Nat
 |.sl xs => wtLL xs + 1
 |_ => 1
def wtL : List PV → Nat
 |[] => 0
 |c :: cs => wt c + wtL cs
def wtLL : List (List PV) → Nat
 |[] => 0
 |x :: xs => wtL x + wtLL xs
end
theorem wtL_append (a b : List PV) : wtL (a ++ b) = wtL a + wtL b := by
 induction a with
 |nil => simp [wtL]
 |cons x a ih => simp only [List.cons_append, wtL, ih]; omega
inductive TV (P : Program) (M : Nat) : TypeId → List PV → Prop
 |bool {t : TypeId} (h : P.underlying t = some .bool) (b : Bool) : TV P M t [.bool b]
 |int {t : TypeId} {k : IntKind} (h : P.underlying t = some (.int k)) (n : Int) (hw : (Lit.int k n).wf = true) : TV P M t [.int k n]
 |float {t : TypeId} {k : FloatKind} (h : P.underlying t = some (.float k)) (n : Nat) (hw : (Lit.float k n).wf = true) : TV P M t [.flt k n]
 |string {t : TypeId} (h : P.underlying t = some .string) (s : ByteArray) (hs : s.size ≤ M) : TV P M t [.str s]
 |nils {t e : TypeId} (h : P.underlying t = some (.slice e)) : TV P M t [.nils]
 |sl {t e : TypeId} (h : P.underlying t = some (.slice e)) (xs : List (List PV)) (hl : xs.length ≤ M) (hx : ∀ x, x ∈ xs → TV P M e x) : TV P M t [.sl xs]
 |struct {t : TypeId} {fs : Array Field} (h : P.underlying t = some (.struct fs)) (xss : List (List PV)) (hl : xss.length = fs.size) (hx : ∀ (i : Nat) (f : Field) (x : List PV), fs[i]? = some f → xss[i]? = some x → TV P M f.type x) : TV P M t xss.flatten
def tiles (P : Program) : Nat → List Field → Bool
 |_, [] => true
 |o, f :: fs => f.offset == o && tiles P (o + P.cellsOf f.type) fs
def sumC (P : Program) : List Field → Nat
 |[] => 0
 |f :: fs => P.cellsOf f.type + sumC P fs
def closedT (P : Program) (TS : List TypeId) : Bool :=
 TS.all fun t => match P.underlying t with
  |some .bool | some (.int _) | some (.float _) | some .string => true
  |some (.slice e) => TS.contains e
  |some (.struct fs) => (fs.toList.all fun f => TS.contains f.type) && tiles P 0 fs.toList && P.cellsOf t == sumC P fs.toList
  |_ => false
theorem bulk_pos {H : Type} (d : DataW H) : 1 ≤ Rows.uptoBulk d := by
 cases d with
 |lit l => cases l <;> simp [Rows.uptoBulk]
 |nil => simp [Rows.uptoBulk]
 |ptr d => simp [Rows.uptoBulk]
 |slice elems spare => simp [Rows.uptoBulk]
 |agg parts => simp [Rows.uptoBulk]
 |iface t d => simp [Rows.uptoBulk]
 |map entries => simp [Rows.uptoBulk]
 |held h => simp [Rows.uptoBulk]
theorem bulk_len {H : Type} (l : List (DataW H)) : l.length ≤ Rows.uptoBulkAll l := by
 induction l with
 |nil => simp [Rows.uptoBulkAll]
 |cons x r ih => have := bulk_pos x; simp only [Rows.uptoBulkAll, List.length_cons]; omega
section
variable {H : Type} {enc : TypeId × Value → H} {P : Program} {w : World} {base : Nat} {sp : Nat → Bool} {hd : Bool} {E : Env} {M : Nat}
theorem trod_float {n : Nat} {t : TypeId} {k : FloatKind} {cs : List Value} {y : DataW H × List MemPlace} (hu : P.underlying t = some (.float k)) (h : DataW.trod enc P w base sp hd (n + 1) t cs = some y) : ∃ m, cs = [.float k m] ∧ (Lit.float k m).wf = true := by
 unfold DataW.trod at h
 rw [hu] at h
 split at h
 case h_3 k' k2 b he =>
  cases he
  by_cases hkw : k2 = k ∧ (Lit.float k b).wf = true
  ·obtain ⟨rfl, hw⟩ := hkw
   exact ⟨_, rfl, hw⟩
  ·rw [if_neg hkw] at h; cases h
 all_goals first
  |(cases h; done)
  |(rename_i he1 _; cases he1; done)
  |(rename_i he1; cases he1; done)
structure Told (E : Env) (P : Program) (M : Nat) (t : TypeId) (cs : List Value) (b : Nat) (xs : List PV) : Prop where
 len : xs.length = cs.length
 rep : ∀ (i : Nat) (c : PV) (v : Value), xs[i]? = some c → cs[i]? = some v → Rep E c v
 tv : TV P M t xs
 flat : ∀ x, x ∈ xs → x.flat = true
 deep : deepL xs = true
 wt : wtL xs ≤ b
theorem cells_at {a : Addr} {n : Nat} {cs : List Value} (h : w.cells? base a n = some cs) : cs.length = n ∧ ∀ j v, cs[j]? = some v → w.cell? (a.add j) = some v := by
 unfold World.cells? at h
 split at h
 ·refine ⟨by simpa using Lib.mapM_length h, fun j v hv => ?_⟩
  have hl := Lib.mapM_length h
  have hj : j < cs.length := (List.getElem?_eq_some_iff.1 hv).1
  obtain ⟨b, hb, hc⟩ := Lib.mapM_at h j j (by rw [List.getElem?_range]; simp at hl; omega)
  rw [hv] at hb
  cases hb
  exact hc
 ·cases h
theorem deepL_app (a b : List PV) : deepL (a ++ b) = (deepL a && deepL b) := by
 induction a with
 |nil => simp [deepL]
 |cons x a ih => simp only [List.cons_append, deepL, ih, Bool.and_assoc]
theorem tile_told {n : Nat} (TS : List TypeId) (hT : closedT P TS = true) (hE : ∀ a u, w.cell? a = some u → E.F a = some u)
  (ih : ∀ t cs y, t ∈ TS → DataW.trod enc P w base sp hd n t cs = some y → Rows.uptoBulk y.1 ≤ M → ∃ xs, Told E P M t cs (Rows.uptoBulk y.1) xs) :
  ∀ (fs : List Field) (o : Nat) (cs : List Value) (ys : List (DataW H × List MemPlace)), (∀ f, f ∈ fs → f.type ∈ TS) → tiles P o fs = true → cs.length = o + sumC P fs →
   ys.length = fs.length → (∀ (i : Nat) (f : Field), fs[i]? = some f → DataW.trod enc P w base sp hd n f.type ((cs.drop f.offset).take (P.cellsOf f.type)) = ys[i]?) → Rows.uptoBulkAll (ys.map (·.1)) ≤ M →
   ∃ xss : List (List PV), xss.length = fs.length ∧ xss.flatten.length = sumC P fs ∧ (∀ (i : Nat) (c : PV) (v : Value), xss.flatten[i]? = some c → (cs.drop o)[i]? = some v → Rep E c v) ∧
    (∀ (i : Nat) (f : Field) (x : List PV), fs[i]? = some f → xss[i]? = some x → TV P M f.type x) ∧ (∀ x, x ∈ xss.flatten → x.flat = true) ∧ deepL xss.flatten = true ∧ wtL xss.flatten ≤ Rows.uptoBulkAll (ys.map (·.1)) := by
 intro fs
 induction fs with
 |nil =>
  intro o cs ys _ _ hl _ hm _
  exact ⟨[], rfl, rfl, fun i c v h => by simp at h, fun i f x h => by simp at h, fun x hx => by simp at hx, rfl, by simp [wtL]⟩
 |cons f fs ihf =>
  intro o cs ys hin ht hl hyl hm hb
  simp only [tiles, Bool.and_eq_true, beq_iff_eq] at ht
  obtain ⟨ho, ht⟩ := ht
  obtain ⟨y, ys', rfl⟩ : ∃ y ys', ys = y :: ys' := by match ys, hyl with | y :: ys', _ => exact ⟨y, ys', rfl⟩
  have hy := hm 0 f rfl
  have hys : ∀ (i : Nat) (g : Field), fs[i]? = some g → DataW.trod enc P w base sp hd n g.type ((cs.drop g.offset).take (P.cellsOf g.type)) = ys'[i]? := fun i g hg => hm (i + 1) g hg
  simp only [List.getElem?_cons_zero] at hy
  simp only [List.map_cons, Rows.uptoBulkAll] at hb ⊢
  simp only [sumC] at hl ⊢
  rw [ho] at hy
  obtain ⟨x, hx⟩ := ih _ _ _ (hin f (by simp)) hy (by omega)
  have hcl : ((cs.drop o).take (P.cellsOf f.type)).length = P.cellsOf f.type := by simp; omega
  obtain ⟨xss, h1, h2, h3, h4, h5, h6, h7⟩ := ihf (o + P.cellsOf f.type) cs ys' (fun g hg => hin g (by simp [hg])) ht (by omega) (by simpa using hyl) hys (by omega)
  have hxl : x.length = P.cellsOf f.type := hx.len.trans hcl
  refine ⟨x :: xss, by simp [h1], by simp only [List.flatten_cons, List.length_append, hxl, h2], fun i c v hc hv => ?_, fun i g z hg hz => ?_, fun z hz => ?_, ?_, ?_⟩
  ·simp only [List.flatten_cons] at hc
   by_cases hi : i < x.length
   ·rw [List.getElem?_append_left hi] at hc
    refine hx.rep i c v hc ?_
    rw [List.getElem?_take, if_pos (by omega)]
    exact hv
   ·rw [List.getElem?_append_right (by omega)] at hc
    refine h3 (i - x.length) c v hc ?_
    rw [List.getElem?_drop] at hv ⊢
    rw [← hv]
    congr 1
    omega
  ·cases i with
   |zero => simp only [List.getElem?_cons_zero, Option.some.injEq] at hg hz; subst hg; subst hz; exact hx.tv
   |succ i => simp only [List.getElem?_cons_succ] at hg hz; exact h4 i g z hg hz
  ·simp only [List.flatten_cons, List.mem_append] at hz
   rcases hz with hz | hz
   ·exact hx.flat z hz
   ·exact h5 z hz
  ·rw [List.flatten_cons, deepL_app, hx.deep, h6]; rfl
  ·rw [List.flatten_cons, wtL_append]
   have := hx.wt
   omega
theorem choose_list {α β : Type} {p : Nat → α → β → Prop} : ∀ (l : List α), (∀ i a, l[i]? = some a → ∃ b, p i a b) → ∃ r : List β, r.length = l.length ∧ ∀ i a b, l[i]? = some a → r[i]? = some b → p i a b := by
 intro l
 induction l generalizing p with
 |nil => intro _; exact ⟨[], rfl, fun i a b h => by simp at h⟩
 |cons x l ih =>
  intro h
  obtain ⟨b, hb⟩ := h 0 x (by simp)
  obtain ⟨r, h1, h2⟩ := ih (p := fun i => p (i + 1)) (fun i a ha => h (i + 1) a (by simpa using ha))
  refine ⟨b :: r, by simp [h1], fun i a c ha hc => ?_⟩
  cases i with
  |zero => simp only [List.getElem?_cons_zero, Option.some.injEq] at ha hc; subst ha; subst hc; exact hb
  |succ i => simp only [List.getElem?_cons_succ] at ha hc; exact h2 i a c ha hc
theorem sum_le {xs : List (List PV)} {ys : List (DataW H)} (hl : xs.length = ys.length) (h : ∀ (i : Nat) (x : List PV) (y : DataW H), xs[i]? = some x → ys[i]? = some y → wtL x ≤ Rows.uptoBulk y) : wtLL xs ≤ Rows.uptoBulkAll ys := by
 induction xs generalizing ys with
 |nil => simp [wtLL]
 |cons x xs ih =>
  cases ys with
  |nil => simp at hl
  |cons y ys =>
   simp only [wtLL, Rows.uptoBulkAll]
   have h0 := h 0 x y (by simp) (by simp)
   have := ih (ys := ys) (by simpa using hl) (fun i a b ha hb => h (i + 1) a b (by simpa using ha) (by simpa using hb))
   omega
theorem part_bulk {ys : List (DataW H)} {i : Nat} {y : DataW H} (h : ys[i]? = some y) : Rows.uptoBulk y ≤ Rows.uptoBulkAll ys := by
 induction ys generalizing i with
 |nil => simp at h
 |cons x ys ih =>
  simp only [Rows.uptoBulkAll]
  cases i with
  |zero => simp only [List.getElem?_cons_zero, Option.some.injEq] at h; subst h; omega
  |succ i => have := ih (by simpa using h); omega
theorem trod_tv (TS : List TypeId) (hT : closedT P TS = true) (hE : ∀ a u, w.cell? a = some u → E.F a = some u) :
  ∀ (n : Nat) (t : TypeId) (cs : List Value) (y : DataW H × List MemPlace), t ∈ TS → DataW.trod enc P w base sp hd n t cs = some y → Rows.uptoBulk y.1 ≤ M → ∃ xs, Told E P M t cs (Rows.uptoBulk y.1) xs := by
 intro n
 induction n with
 |zero => intro t cs y _ h; simp [DataW.trod] at h
 |succ n ih =>
  intro t cs y ht h hb
  have hc := List.all_eq_true.1 hT t ht
  have one : ∀ (x : PV) (v : Value), cs = [v] → x.flat = true → deepB x = true → wt x = 1 → Rep E x v → TV P M t [x] → ∃ xs, Told E P M t cs (Rows.uptoBulk y.1) xs := by
   rintro x v rfl h1 h2 h3 h4 h5
   refine ⟨[x], rfl, fun i c u hc hu => ?_, h5, fun z hz => ?_, by simp [deepL, h2], ?_⟩
   ·cases i with
    |zero => simp only [List.getElem?_cons_zero, Option.some.injEq] at hc hu; subst hc; subst hu; exact h4
    |succ i => simp at hc
   ·simp only [List.mem_singleton] at hz; subst hz; exact h1
   ·simp only [wtL, h3]; exact bulk_pos _
  cases hu : P.underlying t with
  |none => rw [hu] at hc; cases hc
  |some u =>
   rw [hu] at hc
   cases u with
   |bool =>
    obtain ⟨b, rfl, rfl⟩ := DataW.trod_bool hu h
    exact one (.bool b) _ rfl rfl rfl rfl (.bool b) (.bool hu b)
   |int k =>
    obtain ⟨m, rfl, rfl, hw⟩ := DataW.trod_int hu h
    exact one (.int k m) _ rfl rfl rfl rfl (.int k m) (.int hu m hw)
   |float k =>
    obtain ⟨m, rfl, hw⟩ := trod_float hu h
    exact one (.flt k m) _ rfl rfl rfl rfl (.flt k m) (.float hu m hw)
   |string =>
    obtain ⟨b, rfl, rfl, hs⟩ := DataW.trod_string hu h
    simp only [Rows.uptoBulk] at hb
    have hbs : b.size + 1 ≤ M := by simpa using hb
    exact one (.str b) _ rfl rfl rfl rfl (.str b) (.string hu b (by omega))
   |slice e =>
    have he : e ∈ TS := by simpa using hc
    rcases DataW.trod_slice hu h with ⟨rfl, rfl⟩ | ⟨a, len, cap, elems, rest, m, hm, rfl, rfl, _, hlc, _, hel, hes, _⟩
    ·exact one .nils _ rfl rfl rfl rfl .nils (.nils hu)
    ·cases hm
     simp only [Rows.uptoBulk] at hb ⊢
     have hlen := bulk_len (elems.map (·.1))
     simp only [List.length_map] at hlen
     have hex : ∀ i (yy : DataW H × List MemPlace), elems[i]? = some yy → ∃ x : List PV × List Value, Told E P M e x.2 (Rows.uptoBulk yy.1) x.1 ∧ x.2.length = P.cellsOf e ∧ ∀ j v, x.2[j]? = some v → w.cell? ((a.add (i * P.cellsOf e)).add j) = some v := by
      intro i yy hi
      have hil : i < len := by rw [← hel]; exact (List.getElem?_eq_some_iff.1 hi).1
      have h1 := hes i hil
      rw [hi, Option.bind_eq_some_iff] at h1
      obtain ⟨cs1, hcs, htr⟩ := h1
      have hbi : Rows.uptoBulk yy.1 ≤ Rows.uptoBulkAll (elems.map (·.1)) := part_bulk (i := i) (by simp [hi])
      obtain ⟨x, hx⟩ := ih e cs1 yy he htr (by omega)
      obtain ⟨hl1, hc1⟩ := cells_at hcs
      exact ⟨(x, cs1), hx, hl1, hc1⟩
     obtain ⟨xs, hxl, hxs⟩ := choose_list (p := fun i yy (x : List PV × List Value) => Told E P M e x.2 (Rows.uptoBulk yy.1) x.1 ∧ x.2.length = P.cellsOf e ∧ ∀ j v, x.2[j]? = some v → w.cell? ((a.add (i * P.cellsOf e)).add j) = some v) elems hex
     have hat : ∀ i (hi : i < xs.length), ∃ yy, elems[i]? = some yy ∧ Told E P M e xs[i].2 (Rows.uptoBulk yy.1) xs[i].1 ∧ xs[i].2.length = P.cellsOf e ∧ ∀ j v, xs[i].2[j]? = some v → w.cell? ((a.add (i * P.cellsOf e)).add j) = some v := by
      intro i hi
      have hie : i < elems.length := hxl ▸ hi
      exact ⟨elems[i], by simp [hie], hxs i elems[i] xs[i] (by simp [hie]) (by simp [hi])⟩
     have hmem : ∀ x, x ∈ xs.map (·.1) → ∃ i, ∃ hi : i < xs.length, x = xs[i].1 := by
      intro x hx
      obtain ⟨z, hz, rfl⟩ := List.mem_map.1 hx
      obtain ⟨i, hi, rfl⟩ := List.getElem_of_mem hz
      exact ⟨i, hi, rfl⟩
     have hadd : ∀ i j, (a.add (i * P.cellsOf e)).add j = a.add (i * P.cellsOf e + j) := fun i j => addr_add _ _ _
     refine ⟨[.sl (xs.map (·.1))], rfl, fun i c v hc hv => ?_, .sl hu _ (by simp; omega) fun x hx => ?_, fun z hz => ?_, ?_, ?_⟩
     ·cases i with
      |succ i => simp at hc
      |zero =>
       simp only [List.getElem?_cons_zero, Option.some.injEq] at hc hv
       subst hc; subst hv
       have hl2 : (xs.map (·.1)).length = len := by rw [List.length_map, hxl, hel]
       rw [← hl2]
       refine .sl (xs.map (·.1)) a cap (P.cellsOf e) (fun i j => ((xs.map (·.2)).getD i []).getD j undef) (by rw [hl2]; exact hlc) (fun i hi => ?_) (fun x hx c hc => ?_) (fun i j hi hj => ?_) fun i hi j hj => ?_
       ·obtain ⟨yy, _, h1, h2, _⟩ := hat i (by simpa using hi)
        rw [List.getElem_map, h1.len, h2]
       ·obtain ⟨i, hi, rfl⟩ := hmem x hx
        obtain ⟨yy, _, h1, _⟩ := hat i hi
        exact h1.flat c hc
       ·have hi' : i < xs.length := by simpa using hi
        obtain ⟨yy, _, h1, h2, h3⟩ := hat i hi'
        have hjl : j < xs[i].2.length := by omega
        have e1 : ((xs.map (·.2)).getD i []).getD j undef = xs[i].2[j] := by
         simp [List.getD_eq_getElem?_getD, hi', hjl]
        rw [e1]
        refine hE _ _ ?_
        rw [← hadd]
        exact h3 j _ (by simp [hjl])
       ·have hi' : i < xs.length := by simpa using hi
        obtain ⟨yy, _, h1, h2, h3⟩ := hat i hi'
        have hjx : j < xs[i].1.length := by simpa using hj
        have hjl : j < xs[i].2.length := by rw [← h1.len]; exact hjx
        have e1 : ((xs.map (·.2)).getD i []).getD j undef = xs[i].2[j] := by
         simp [List.getD_eq_getElem?_getD, hi', hjl]
        rw [e1]
        exact h1.rep j _ _ (by simp [hjx]) (by simp [hjl])
     ·obtain ⟨i, hi, rfl⟩ := hmem x hx
      obtain ⟨yy, _, h1, _⟩ := hat i hi
      exact h1.tv
     ·simp only [List.mem_singleton] at hz; subst hz; rfl
     ·simp only [deepL, deepB, Bool.and_true]
      refine deepLL_of fun x hx => ?_
      obtain ⟨i, hi, rfl⟩ := hmem x hx
      obtain ⟨yy, _, h1, _⟩ := hat i hi
      exact h1.deep
     ·have := sum_le (xs := xs.map (·.1)) (ys := elems.map (·.1)) (by simp [hxl]) (fun i x y hx hy => by
       simp only [List.getElem?_map, Option.map_eq_some_iff] at hx hy
       obtain ⟨z, hz, rfl⟩ := hx
       obtain ⟨yy, hy, rfl⟩ := hy
       exact (hxs i yy z hy hz).1.wt)
      simp only [wtL, Go.Pi.wt]
      omega
   |struct fs =>
    simp only [Bool.and_eq_true, beq_iff_eq] at hc
    obtain ⟨⟨hin, htile⟩, hsum⟩ := hc
    obtain ⟨ys, m, hm, rfl, hcl, hyl, hys⟩ := DataW.trod_struct hu h
    cases hm
    simp only [Rows.uptoBulk] at hb ⊢
    obtain ⟨xss, h1, h2, h3, h4, h5, h6, h7⟩ := tile_told TS hT hE ih fs.toList 0 cs ys (fun f hf => by have := List.all_eq_true.1 hin f hf; simpa using this) htile (by rw [hcl, hsum, Nat.zero_add]) (by simpa using hyl)
     (fun i f hf => hys i f (by simpa using hf)) (by omega)
    refine ⟨xss.flatten, by rw [h2, hcl, hsum], fun i c v hc hv => h3 i c v hc (by simpa using hv), .struct hu xss (by simpa using h1) fun i f x hf hx => h4 i f x (by simpa using hf) hx, h5, h6, by omega⟩
   |_ => cases hc
end
end Go.Pi
end
section
namespace Go.Pi
open Go.RowKit Go.Proofs
set_option maxRecDepth 100000
section
variable {P : Program} {M : Nat} {t : TypeId} {x : List PV}
theorem tv_int {k : IntKind} (hu : P.underlying t = some (.int k)) (h : TV P M t x) : ∃ n : Int, x = [.int k n] ∧ (Lit.int k n).wf = true := by
 cases h with
 |int h n hw => rw [hu] at h; cases h; exact ⟨n, rfl, hw⟩
 |bool h | float h | string h | nils h | sl h | struct h => rw [hu] at h; cases h
theorem tv_bool (hu : P.underlying t = some .bool) (h : TV P M t x) : ∃ b : Bool, x = [.bool b] := by
 cases h with
 |bool h b => exact ⟨b, rfl⟩
 |int h | float h | string h | nils h | sl h | struct h => rw [hu] at h; cases h
theorem tv_float {k : FloatKind} (hu : P.underlying t = some (.float k)) (h : TV P M t x) : ∃ n : Nat, x = [.flt k n] ∧ (Lit.float k n).wf = true := by
 cases h with
 |float h n hw => rw [hu] at h; cases h; exact ⟨n, rfl, hw⟩
 |int h | bool h | string h | nils h | sl h | struct h => rw [hu] at h; cases h
theorem tv_string (hu : P.underlying t = some .string) (h : TV P M t x) : ∃ s : ByteArray, x = [.str s] ∧ s.size ≤ M := by
 cases h with
 |string h s hs => exact ⟨s, rfl, hs⟩
 |int h | bool h | float h | nils h | sl h | struct h => rw [hu] at h; cases h
theorem tv_slice {e : TypeId} (hu : P.underlying t = some (.slice e)) (h : TV P M t x) : ∃ v, x = [v] ∧ (v = .nils ∨ ∃ xs, v = .sl xs ∧ xs.length ≤ M) ∧ ∀ y, y ∈ els v → TV P M e y := by
 cases h with
 |nils h => exact ⟨.nils, rfl, .inl rfl, fun y hy => by cases hy⟩
 |sl h xs hl hx => rw [hu] at h; cases h; exact ⟨.sl xs, rfl, .inr ⟨xs, rfl, hl⟩, hx⟩
 |int h | bool h | float h | string h | struct h => rw [hu] at h; cases h
theorem tv_struct {fs : Array Field} (hu : P.underlying t = some (.struct fs)) (h : TV P M t x) : ∃ xss : List (List PV), x = xss.flatten ∧ xss.length = fs.size ∧ ∀ (i : Nat) (f : Field) (x : List PV), fs[i]? = some f → xss[i]? = some x → TV P M f.type x := by
 cases h with
 |struct h xss hl hx => rw [hu] at h; cases h; exact ⟨xss, rfl, hl, hx⟩
 |int h | bool h | float h | string h | nils h | sl h => rw [hu] at h; cases h
end
theorem wf_u16 {n : Int} (h : (Lit.int .u16 n).wf = true) : 0 ≤ n ∧ n < 65536 := by
 simp only [Lit.wf, Bool.and_eq_true, decide_eq_true_eq] at h
 have h1 : IntKind.u16.min = 0 := by decide
 have h2 : IntKind.u16.max = 65535 := by decide
 omega
theorem wf_f64 {n : Nat} (h : (Lit.float .f64 n).wf = true) : n < 18446744073709551616 := by
 simpa [Lit.wf] using h
theorem mem_lt {v : PV} {x : List PV} (h : v ∈ x) (y : List PV) (hy : y ∈ els v) : SizeOf.sizeOf y < SizeOf.sizeOf x := els_lt h hy
theorem mem_deep {v : PV} {x : List PV} (h : v ∈ x) (hd : deepL x = true) (y : List PV) (hy : y ∈ els v) : deepL y = true := by
 have h1 := deepL_mem hd v h
 cases v with
 |sl xs => exact deepLL_mem (xs := xs) (by simpa [deepB] using h1) y hy
 |_ => cases hy
theorem u22 : Tryz.prog.underlying 22 = some (.slice 30) := by kernel_rfl
theorem u25 : Tryz.prog.underlying 25 = some (.slice 105) := by kernel_rfl
theorem u28 : Tryz.prog.underlying 28 = some (.slice 54) := by kernel_rfl
theorem u31 : Tryz.prog.underlying 31 = some (.slice 167) := by kernel_rfl
theorem u32 : Tryz.prog.underlying 32 = some (.slice 37) := by kernel_rfl
theorem u33 : Tryz.prog.underlying 33 = some (.slice 163) := by kernel_rfl
theorem u34 : Tryz.prog.underlying 34 = some (.slice 121) := by kernel_rfl
theorem u35 : Tryz.prog.underlying 35 = some (.slice 125) := by kernel_rfl
theorem u51 : Tryz.prog.underlying 51 = some (.slice 142) := by kernel_rfl
theorem u52 : Tryz.prog.underlying 52 = some (.slice 151) := by kernel_rfl
theorem u119 : Tryz.prog.underlying 119 = some (.slice 157) := by kernel_rfl
theorem u123 : Tryz.prog.underlying 123 = some (.slice 159) := by kernel_rfl
theorem u3 : Tryz.prog.underlying 3 = some (.int .i64) := by kernel_rfl
theorem u4 : Tryz.prog.underlying 4 = some .bool := by kernel_rfl
theorem u9 : Tryz.prog.underlying 9 = some .string := by kernel_rfl
theorem u50 : Tryz.prog.underlying 50 = some (.float .f64) := by kernel_rfl
theorem u167 : Tryz.prog.underlying 167 = some (.int .u16) := by kernel_rfl
theorem tys {t : TypeId} {l : List TypeId} (h : (match Tryz.prog.underlying t with | some (.struct fs) => decide (fs.toList.map (·.type) = l) | _ => false) = true) : ∃ fs : Array Field, Tryz.prog.underlying t = some (.struct fs) ∧ fs.toList.map (·.type) = l := by
 split at h
 ·rename_i fs he; exact ⟨fs, he, of_decide_eq_true h⟩
 ·cases h
theorem fields_of {M : Nat} {t : TypeId} {l : List TypeId} {x : List PV} (h : (match Tryz.prog.underlying t with | some (.struct fs) => decide (fs.toList.map (·.type) = l) | _ => false) = true) (hx : TV Tryz.prog M t x) :
  ∃ xss : List (List PV), x = xss.flatten ∧ xss.length = l.length ∧ ∀ (i : Nat) (u : TypeId) (y : List PV), l[i]? = some u → xss[i]? = some y → TV Tryz.prog M u y := by
 obtain ⟨fs, hu, hl⟩ := tys h
 obtain ⟨xss, h1, h2, h3⟩ := tv_struct hu hx
 refine ⟨xss, h1, by rw [h2, ← hl]; simp, fun i u y hi hy => ?_⟩
 rw [← hl] at hi
 simp only [List.getElem?_map, Option.map_eq_some_iff, Array.getElem?_toList] at hi
 obtain ⟨f, hf, rfl⟩ := hi
 exact h3 i f y hf hy
theorem tv_units {x : List PV} (h : TV Tryz.prog 1048576 31 x) : ∃ v, x = [v] ∧ Units v := by
 obtain ⟨v, rfl, h1, h2⟩ := tv_slice u31 h
 refine ⟨v, rfl, h1, fun y hy => ?_⟩
 obtain ⟨n, rfl, hw⟩ := tv_int u167 (h2 y hy)
 exact ⟨n, rfl, wf_u16 hw⟩
def Shp (n : Nat) (t : TypeId) (C : List PV → Prop) : Prop := ∀ x, SizeOf.sizeOf x < n → TV Tryz.prog 1048576 t x → deepL x = true → C x
theorem bind4 {x : List PV} (h : TV Tryz.prog 1048576 27 x) : ∃ b0 b1 b2 b3, x = [b0, b1, b2, b3] := by
 obtain ⟨xss, rfl, hl, hx⟩ := fields_of (l := [3, 3, 25, 4]) (by kernel_rfl) h
 obtain ⟨x0, x1, x2, x3, rfl⟩ : ∃ x0 x1 x2 x3, xss = [x0, x1, x2, x3] := by match xss, hl with | [x0, x1, x2, x3], _ => exact ⟨_, _, _, _, rfl⟩
 obtain ⟨c0, rfl, _⟩ := tv_int u3 (hx 0 3 x0 rfl rfl)
 obtain ⟨c1, rfl, _⟩ := tv_int u3 (hx 1 3 x1 rfl rfl)
 obtain ⟨c2, rfl, _, _⟩ := tv_slice u25 (hx 2 25 x2 rfl rfl)
 obtain ⟨c3, rfl⟩ := tv_bool u4 (hx 3 4 x3 rfl rfl)
 exact ⟨_, _, _, _, rfl⟩
theorem tvAll : ∀ n, Shp n 54 ExprC ∧ Shp n 142 PropC ∧ Shp n 151 PartC ∧ Shp n 27 BindC ∧ Shp n 105 ItemC ∧ Shp n 157 ArgC ∧ Shp n 121 FuncC ∧ Shp n 159 MemberC ∧ Shp n 125 ClassC ∧ Shp n 30 DeclC ∧ Shp n 163 CaseC ∧ Shp n 37 StmtC := by
 intro n
 induction n with
 |zero => exact ⟨fun x h => absurd h (Nat.not_lt_zero _), fun x h => absurd h (Nat.not_lt_zero _), fun x h => absurd h (Nat.not_lt_zero _), fun x h => absurd h (Nat.not_lt_zero _), fun x h => absurd h (Nat.not_lt_zero _), fun x h => absurd h (Nat.not_lt_zero _), fun x h => absurd h (Nat.not_lt_zero _), fun x h => absurd h (Nat.not_lt_zero _), fun x h => absurd h (Nat.not_lt_zero _), fun x h => absurd h (Nat.not_lt_zero _), fun x h => absurd h (Nat.not_lt_zero _), fun x h => absurd h (Nat.not_lt_zero _)⟩
 |succ n ih =>
  obtain ⟨i54, i142, i151, i27, i105, i157, i121, i159, i125, i30, i163, i37⟩ := ih
  have hbind : Shp (n + 1) 27 BindC := by
   intro x hs h hd
   obtain ⟨xss, rfl, hl, hx⟩ := fields_of (l := [3, 3, 25, 4]) (by kernel_rfl) h
   obtain ⟨x0, x1, x2, x3, rfl⟩ : ∃ x0 x1 x2 x3, xss = [x0, x1, x2, x3] := by match xss, hl with | [x0, x1, x2, x3], _ => exact ⟨_, _, _, _, rfl⟩
   obtain ⟨c0, rfl, _⟩ := tv_int u3 (hx 0 3 x0 rfl rfl)
   obtain ⟨c1, rfl, _⟩ := tv_int u3 (hx 1 3 x1 rfl rfl)
   obtain ⟨c2, rfl, w2, e2⟩ := tv_slice u25 (hx 2 25 x2 rfl rfl)
   obtain ⟨c3, rfl⟩ := tv_bool u4 (hx 3 4 x3 rfl rfl)
   simp only [List.flatten_cons, List.flatten_nil, List.cons_append, List.nil_append] at hs hd ⊢
   exact .mk c0 c1 c2 c3 w2 (fun y hy => i105 y (Nat.lt_of_lt_of_le (mem_lt (v := c2) (by simp) y hy) (Nat.le_of_lt_succ hs)) (e2 y hy) (mem_deep (v := c2) (by simp) hd y hy)) hd
  refine ⟨?_, ?_, ?_, hbind, ?_, ?_, ?_, ?_, ?_, ?_, ?_, ?_⟩
  ·intro x hs h hd
   obtain ⟨xss, rfl, hl, hx⟩ := fields_of (l := [3, 3, 3, 3, 3, 50, 31, 9, 28, 51, 52, 34, 35]) (by kernel_rfl) h
   obtain ⟨x0, x1, x2, x3, x4, x5, x6, x7, x8, x9, x10, x11, x12, rfl⟩ : ∃ x0 x1 x2 x3 x4 x5 x6 x7 x8 x9 x10 x11 x12, xss = [x0, x1, x2, x3, x4, x5, x6, x7, x8, x9, x10, x11, x12] := by match xss, hl with | [x0, x1, x2, x3, x4, x5, x6, x7, x8, x9, x10, x11, x12], _ => exact ⟨_, _, _, _, _, _, _, _, _, _, _, _, _, rfl⟩
   obtain ⟨c0, rfl, _⟩ := tv_int u3 (hx 0 3 x0 rfl rfl)
   obtain ⟨c1, rfl, _⟩ := tv_int u3 (hx 1 3 x1 rfl rfl)
   obtain ⟨c2, rfl, _⟩ := tv_int u3 (hx 2 3 x2 rfl rfl)
   obtain ⟨c3, rfl, _⟩ := tv_int u3 (hx 3 3 x3 rfl rfl)
   obtain ⟨c4, rfl, _⟩ := tv_int u3 (hx 4 3 x4 rfl rfl)
   obtain ⟨c5, rfl, w5⟩ := tv_float u50 (hx 5 50 x5 rfl rfl)
   obtain ⟨c6, rfl, w6⟩ := tv_units (hx 6 31 x6 rfl rfl)
   obtain ⟨c7, rfl, w7⟩ := tv_string u9 (hx 7 9 x7 rfl rfl)
   obtain ⟨c8, rfl, w8, e8⟩ := tv_slice u28 (hx 8 28 x8 rfl rfl)
   obtain ⟨c9, rfl, w9, e9⟩ := tv_slice u51 (hx 9 51 x9 rfl rfl)
   obtain ⟨c10, rfl, w10, e10⟩ := tv_slice u52 (hx 10 52 x10 rfl rfl)
   obtain ⟨c11, rfl, w11, e11⟩ := tv_slice u34 (hx 11 34 x11 rfl rfl)
   obtain ⟨c12, rfl, w12, e12⟩ := tv_slice u35 (hx 12 35 x12 rfl rfl)
   simp only [List.flatten_cons, List.flatten_nil, List.cons_append, List.nil_append] at hs hd ⊢
   exact .mk c0 c1 c2 c3 c4 (.flt .f64 c5) c6 c7 c8 c9 c10 c11 c12 ⟨c5, rfl, wf_f64 w5⟩ w6 w7 w8 (fun y hy => i54 y (Nat.lt_of_lt_of_le (mem_lt (v := c8) (by simp) y hy) (Nat.le_of_lt_succ hs)) (e8 y hy) (mem_deep (v := c8) (by simp) hd y hy)) w9 (fun y hy => i142 y (Nat.lt_of_lt_of_le (mem_lt (v := c9) (by simp) y hy) (Nat.le_of_lt_succ hs)) (e9 y hy) (mem_deep (v := c9) (by simp) hd y hy)) w10 (fun y hy => i151 y (Nat.lt_of_lt_of_le (mem_lt (v := c10) (by simp) y hy) (Nat.le_of_lt_succ hs)) (e10 y hy) (mem_deep (v := c10) (by simp) hd y hy)) w11 (fun y hy => i121 y (Nat.lt_of_lt_of_le (mem_lt (v := c11) (by simp) y hy) (Nat.le_of_lt_succ hs)) (e11 y hy) (mem_deep (v := c11) (by simp) hd y hy)) w12 (fun y hy => i125 y (Nat.lt_of_lt_of_le (mem_lt (v := c12) (by simp) y hy) (Nat.le_of_lt_succ hs)) (e12 y hy) (mem_deep (v := c12) (by simp) hd y hy)) hd
  ·intro x hs h hd
   obtain ⟨xss, rfl, hl, hx⟩ := fields_of (l := [3, 3, 28, 28]) (by kernel_rfl) h
   obtain ⟨x0, x1, x2, x3, rfl⟩ : ∃ x0 x1 x2 x3, xss = [x0, x1, x2, x3] := by match xss, hl with | [x0, x1, x2, x3], _ => exact ⟨_, _, _, _, rfl⟩
   obtain ⟨c0, rfl, _⟩ := tv_int u3 (hx 0 3 x0 rfl rfl)
   obtain ⟨c1, rfl, _⟩ := tv_int u3 (hx 1 3 x1 rfl rfl)
   obtain ⟨c2, rfl, w2, e2⟩ := tv_slice u28 (hx 2 28 x2 rfl rfl)
   obtain ⟨c3, rfl, w3, e3⟩ := tv_slice u28 (hx 3 28 x3 rfl rfl)
   simp only [List.flatten_cons, List.flatten_nil, List.cons_append, List.nil_append] at hs hd ⊢
   exact .mk c0 c1 c2 c3 w2 (fun y hy => i54 y (Nat.lt_of_lt_of_le (mem_lt (v := c2) (by simp) y hy) (Nat.le_of_lt_succ hs)) (e2 y hy) (mem_deep (v := c2) (by simp) hd y hy)) w3 (fun y hy => i54 y (Nat.lt_of_lt_of_le (mem_lt (v := c3) (by simp) y hy) (Nat.le_of_lt_succ hs)) (e3 y hy) (mem_deep (v := c3) (by simp) hd y hy)) hd
  ·intro x hs h hd
   obtain ⟨xss, rfl, hl, hx⟩ := fields_of (l := [28, 31, 9]) (by kernel_rfl) h
   obtain ⟨x0, x1, x2, rfl⟩ : ∃ x0 x1 x2, xss = [x0, x1, x2] := by match xss, hl with | [x0, x1, x2], _ => exact ⟨_, _, _, rfl⟩
   obtain ⟨c0, rfl, w0, e0⟩ := tv_slice u28 (hx 0 28 x0 rfl rfl)
   obtain ⟨c1, rfl, w1⟩ := tv_units (hx 1 31 x1 rfl rfl)
   obtain ⟨c2, rfl, w2⟩ := tv_string u9 (hx 2 9 x2 rfl rfl)
   simp only [List.flatten_cons, List.flatten_nil, List.cons_append, List.nil_append] at hs hd ⊢
   exact .mk c0 c1 c2 w0 (fun y hy => i54 y (Nat.lt_of_lt_of_le (mem_lt (v := c0) (by simp) y hy) (Nat.le_of_lt_succ hs)) (e0 y hy) (mem_deep (v := c0) (by simp) hd y hy)) w1 w2 hd
  ·intro x hs h hd
   obtain ⟨xss, rfl, hl, hx⟩ := fields_of (l := [3, 28, 28, 27]) (by kernel_rfl) h
   obtain ⟨x0, x1, x2, x3, rfl⟩ : ∃ x0 x1 x2 x3, xss = [x0, x1, x2, x3] := by match xss, hl with | [x0, x1, x2, x3], _ => exact ⟨_, _, _, _, rfl⟩
   obtain ⟨c0, rfl, _⟩ := tv_int u3 (hx 0 3 x0 rfl rfl)
   obtain ⟨c1, rfl, w1, e1⟩ := tv_slice u28 (hx 1 28 x1 rfl rfl)
   obtain ⟨c2, rfl, w2, e2⟩ := tv_slice u28 (hx 2 28 x2 rfl rfl)
   have hB3 := hx 3 27 x3 rfl rfl
   obtain ⟨b0, b1, b2, b3, rfl⟩ := bind4 hB3
   simp only [List.flatten_cons, List.flatten_nil, List.cons_append, List.nil_append] at hs hd ⊢
   exact .mk c0 c1 c2 b0 b1 b2 b3 w1 (fun y hy => i54 y (Nat.lt_of_lt_of_le (mem_lt (v := c1) (by simp) y hy) (Nat.le_of_lt_succ hs)) (e1 y hy) (mem_deep (v := c1) (by simp) hd y hy)) w2 (fun y hy => i54 y (Nat.lt_of_lt_of_le (mem_lt (v := c2) (by simp) y hy) (Nat.le_of_lt_succ hs)) (e2 y hy) (mem_deep (v := c2) (by simp) hd y hy)) (hbind _ (by simp at hs ⊢; omega) hB3 (by simp only [deepL, Bool.and_eq_true] at hd ⊢; simp [hd])) hd
  ·intro x hs h hd
   obtain ⟨xss, rfl, hl, hx⟩ := fields_of (l := [27, 28]) (by kernel_rfl) h
   obtain ⟨x0, x1, rfl⟩ : ∃ x0 x1, xss = [x0, x1] := by match xss, hl with | [x0, x1], _ => exact ⟨_, _, rfl⟩
   have hB0 := hx 0 27 x0 rfl rfl
   obtain ⟨c1, rfl, w1, e1⟩ := tv_slice u28 (hx 1 28 x1 rfl rfl)
   obtain ⟨b0, b1, b2, b3, rfl⟩ := bind4 hB0
   simp only [List.flatten_cons, List.flatten_nil, List.cons_append, List.nil_append] at hs hd ⊢
   exact .mk b0 b1 b2 b3 c1 (hbind _ (by simp at hs ⊢; omega) hB0 (by simp only [deepL, Bool.and_eq_true] at hd ⊢; simp [hd])) w1 (fun y hy => i54 y (Nat.lt_of_lt_of_le (mem_lt (v := c1) (by simp) y hy) (Nat.le_of_lt_succ hs)) (e1 y hy) (mem_deep (v := c1) (by simp) hd y hy)) hd
  ·intro x hs h hd
   obtain ⟨xss, rfl, hl, hx⟩ := fields_of (l := [3, 3, 119, 32]) (by kernel_rfl) h
   obtain ⟨x0, x1, x2, x3, rfl⟩ : ∃ x0 x1 x2 x3, xss = [x0, x1, x2, x3] := by match xss, hl with | [x0, x1, x2, x3], _ => exact ⟨_, _, _, _, rfl⟩
   obtain ⟨c0, rfl, _⟩ := tv_int u3 (hx 0 3 x0 rfl rfl)
   obtain ⟨c1, rfl, _⟩ := tv_int u3 (hx 1 3 x1 rfl rfl)
   obtain ⟨c2, rfl, w2, e2⟩ := tv_slice u119 (hx 2 119 x2 rfl rfl)
   obtain ⟨c3, rfl, w3, e3⟩ := tv_slice u32 (hx 3 32 x3 rfl rfl)
   simp only [List.flatten_cons, List.flatten_nil, List.cons_append, List.nil_append] at hs hd ⊢
   exact .mk c0 c1 c2 c3 w2 (fun y hy => i157 y (Nat.lt_of_lt_of_le (mem_lt (v := c2) (by simp) y hy) (Nat.le_of_lt_succ hs)) (e2 y hy) (mem_deep (v := c2) (by simp) hd y hy)) w3 (fun y hy => i37 y (Nat.lt_of_lt_of_le (mem_lt (v := c3) (by simp) y hy) (Nat.le_of_lt_succ hs)) (e3 y hy) (mem_deep (v := c3) (by simp) hd y hy)) hd
  ·intro x hs h hd
   obtain ⟨xss, rfl, hl, hx⟩ := fields_of (l := [3, 3, 28, 28, 28, 32]) (by kernel_rfl) h
   obtain ⟨x0, x1, x2, x3, x4, x5, rfl⟩ : ∃ x0 x1 x2 x3 x4 x5, xss = [x0, x1, x2, x3, x4, x5] := by match xss, hl with | [x0, x1, x2, x3, x4, x5], _ => exact ⟨_, _, _, _, _, _, rfl⟩
   obtain ⟨c0, rfl, _⟩ := tv_int u3 (hx 0 3 x0 rfl rfl)
   obtain ⟨c1, rfl, _⟩ := tv_int u3 (hx 1 3 x1 rfl rfl)
   obtain ⟨c2, rfl, w2, e2⟩ := tv_slice u28 (hx 2 28 x2 rfl rfl)
   obtain ⟨c3, rfl, w3, e3⟩ := tv_slice u28 (hx 3 28 x3 rfl rfl)
   obtain ⟨c4, rfl, w4, e4⟩ := tv_slice u28 (hx 4 28 x4 rfl rfl)
   obtain ⟨c5, rfl, w5, e5⟩ := tv_slice u32 (hx 5 32 x5 rfl rfl)
   simp only [List.flatten_cons, List.flatten_nil, List.cons_append, List.nil_append] at hs hd ⊢
   exact .mk c0 c1 c2 c3 c4 c5 w2 (fun y hy => i54 y (Nat.lt_of_lt_of_le (mem_lt (v := c2) (by simp) y hy) (Nat.le_of_lt_succ hs)) (e2 y hy) (mem_deep (v := c2) (by simp) hd y hy)) w3 (fun y hy => i54 y (Nat.lt_of_lt_of_le (mem_lt (v := c3) (by simp) y hy) (Nat.le_of_lt_succ hs)) (e3 y hy) (mem_deep (v := c3) (by simp) hd y hy)) w4 (fun y hy => i54 y (Nat.lt_of_lt_of_le (mem_lt (v := c4) (by simp) y hy) (Nat.le_of_lt_succ hs)) (e4 y hy) (mem_deep (v := c4) (by simp) hd y hy)) w5 (fun y hy => i37 y (Nat.lt_of_lt_of_le (mem_lt (v := c5) (by simp) y hy) (Nat.le_of_lt_succ hs)) (e5 y hy) (mem_deep (v := c5) (by simp) hd y hy)) hd
  ·intro x hs h hd
   obtain ⟨xss, rfl, hl, hx⟩ := fields_of (l := [3, 28, 123]) (by kernel_rfl) h
   obtain ⟨x0, x1, x2, rfl⟩ : ∃ x0 x1 x2, xss = [x0, x1, x2] := by match xss, hl with | [x0, x1, x2], _ => exact ⟨_, _, _, rfl⟩
   obtain ⟨c0, rfl, _⟩ := tv_int u3 (hx 0 3 x0 rfl rfl)
   obtain ⟨c1, rfl, w1, e1⟩ := tv_slice u28 (hx 1 28 x1 rfl rfl)
   obtain ⟨c2, rfl, w2, e2⟩ := tv_slice u123 (hx 2 123 x2 rfl rfl)
   simp only [List.flatten_cons, List.flatten_nil, List.cons_append, List.nil_append] at hs hd ⊢
   exact .mk c0 c1 c2 w1 (fun y hy => i54 y (Nat.lt_of_lt_of_le (mem_lt (v := c1) (by simp) y hy) (Nat.le_of_lt_succ hs)) (e1 y hy) (mem_deep (v := c1) (by simp) hd y hy)) w2 (fun y hy => i159 y (Nat.lt_of_lt_of_le (mem_lt (v := c2) (by simp) y hy) (Nat.le_of_lt_succ hs)) (e2 y hy) (mem_deep (v := c2) (by simp) hd y hy)) hd
  ·intro x hs h hd
   obtain ⟨xss, rfl, hl, hx⟩ := fields_of (l := [27, 28]) (by kernel_rfl) h
   obtain ⟨x0, x1, rfl⟩ : ∃ x0 x1, xss = [x0, x1] := by match xss, hl with | [x0, x1], _ => exact ⟨_, _, rfl⟩
   have hB0 := hx 0 27 x0 rfl rfl
   obtain ⟨c1, rfl, w1, e1⟩ := tv_slice u28 (hx 1 28 x1 rfl rfl)
   obtain ⟨b0, b1, b2, b3, rfl⟩ := bind4 hB0
   simp only [List.flatten_cons, List.flatten_nil, List.cons_append, List.nil_append] at hs hd ⊢
   exact .mk b0 b1 b2 b3 c1 (hbind _ (by simp at hs ⊢; omega) hB0 (by simp only [deepL, Bool.and_eq_true] at hd ⊢; simp [hd])) w1 (fun y hy => i54 y (Nat.lt_of_lt_of_le (mem_lt (v := c1) (by simp) y hy) (Nat.le_of_lt_succ hs)) (e1 y hy) (mem_deep (v := c1) (by simp) hd y hy)) hd
  ·intro x hs h hd
   obtain ⟨xss, rfl, hl, hx⟩ := fields_of (l := [28, 32]) (by kernel_rfl) h
   obtain ⟨x0, x1, rfl⟩ : ∃ x0 x1, xss = [x0, x1] := by match xss, hl with | [x0, x1], _ => exact ⟨_, _, rfl⟩
   obtain ⟨c0, rfl, w0, e0⟩ := tv_slice u28 (hx 0 28 x0 rfl rfl)
   obtain ⟨c1, rfl, w1, e1⟩ := tv_slice u32 (hx 1 32 x1 rfl rfl)
   simp only [List.flatten_cons, List.flatten_nil, List.cons_append, List.nil_append] at hs hd ⊢
   exact .mk c0 c1 w0 (fun y hy => i54 y (Nat.lt_of_lt_of_le (mem_lt (v := c0) (by simp) y hy) (Nat.le_of_lt_succ hs)) (e0 y hy) (mem_deep (v := c0) (by simp) hd y hy)) w1 (fun y hy => i37 y (Nat.lt_of_lt_of_le (mem_lt (v := c1) (by simp) y hy) (Nat.le_of_lt_succ hs)) (e1 y hy) (mem_deep (v := c1) (by simp) hd y hy)) hd
  ·intro x hs h hd
   obtain ⟨xss, rfl, hl, hx⟩ := fields_of (l := [3, 3, 3, 3, 31, 28, 32, 22, 33, 34, 35]) (by kernel_rfl) h
   obtain ⟨x0, x1, x2, x3, x4, x5, x6, x7, x8, x9, x10, rfl⟩ : ∃ x0 x1 x2 x3 x4 x5 x6 x7 x8 x9 x10, xss = [x0, x1, x2, x3, x4, x5, x6, x7, x8, x9, x10] := by match xss, hl with | [x0, x1, x2, x3, x4, x5, x6, x7, x8, x9, x10], _ => exact ⟨_, _, _, _, _, _, _, _, _, _, _, rfl⟩
   obtain ⟨c0, rfl, _⟩ := tv_int u3 (hx 0 3 x0 rfl rfl)
   obtain ⟨c1, rfl, _⟩ := tv_int u3 (hx 1 3 x1 rfl rfl)
   obtain ⟨c2, rfl, _⟩ := tv_int u3 (hx 2 3 x2 rfl rfl)
   obtain ⟨c3, rfl, _⟩ := tv_int u3 (hx 3 3 x3 rfl rfl)
   obtain ⟨c4, rfl, w4⟩ := tv_units (hx 4 31 x4 rfl rfl)
   obtain ⟨c5, rfl, w5, e5⟩ := tv_slice u28 (hx 5 28 x5 rfl rfl)
   obtain ⟨c6, rfl, w6, e6⟩ := tv_slice u32 (hx 6 32 x6 rfl rfl)
   obtain ⟨c7, rfl, w7, e7⟩ := tv_slice u22 (hx 7 22 x7 rfl rfl)
   obtain ⟨c8, rfl, w8, e8⟩ := tv_slice u33 (hx 8 33 x8 rfl rfl)
   obtain ⟨c9, rfl, w9, e9⟩ := tv_slice u34 (hx 9 34 x9 rfl rfl)
   obtain ⟨c10, rfl, w10, e10⟩ := tv_slice u35 (hx 10 35 x10 rfl rfl)
   simp only [List.flatten_cons, List.flatten_nil, List.cons_append, List.nil_append] at hs hd ⊢
   exact .mk c0 c1 c2 c3 c4 c5 c6 c7 c8 c9 c10 w4 w5 (fun y hy => i54 y (Nat.lt_of_lt_of_le (mem_lt (v := c5) (by simp) y hy) (Nat.le_of_lt_succ hs)) (e5 y hy) (mem_deep (v := c5) (by simp) hd y hy)) w6 (fun y hy => i37 y (Nat.lt_of_lt_of_le (mem_lt (v := c6) (by simp) y hy) (Nat.le_of_lt_succ hs)) (e6 y hy) (mem_deep (v := c6) (by simp) hd y hy)) w7 (fun y hy => i30 y (Nat.lt_of_lt_of_le (mem_lt (v := c7) (by simp) y hy) (Nat.le_of_lt_succ hs)) (e7 y hy) (mem_deep (v := c7) (by simp) hd y hy)) w8 (fun y hy => i163 y (Nat.lt_of_lt_of_le (mem_lt (v := c8) (by simp) y hy) (Nat.le_of_lt_succ hs)) (e8 y hy) (mem_deep (v := c8) (by simp) hd y hy)) w9 (fun y hy => i121 y (Nat.lt_of_lt_of_le (mem_lt (v := c9) (by simp) y hy) (Nat.le_of_lt_succ hs)) (e9 y hy) (mem_deep (v := c9) (by simp) hd y hy)) w10 (fun y hy => i125 y (Nat.lt_of_lt_of_le (mem_lt (v := c10) (by simp) y hy) (Nat.le_of_lt_succ hs)) (e10 y hy) (mem_deep (v := c10) (by simp) hd y hy)) hd
end Go.Pi
end
