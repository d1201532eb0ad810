import Derived.Test.YtpnkedaceaodbaaGreatDoorP06
import Derived.Test.YtpnkedaceaodbaaGreatDoorP07
import Derived.Test.YtpnkedaceaodbaaGreatDoorP08
import Derived.Test.YtpnkedaceaodbaaGreatDoorP09
import Derived.Test.YtpnkedaceaodbaaGreatDoorP14
/- Part of the proof. -/
set_option linter.all false
section
namespace Go.Pi
section
variable {T : Nat → Option FX} {X : CallF} {G : Nat → PV} {Q : Ex → St → Prop} {w : List Wk}
theorem M_app_slT {A : List Nat} {i len id n e s b : Nat} {tr : Trk} {d : Option Nat} {os : List XO} {t : Nat → PV} {H : Heap} {y x : Opd} {ys zs : List (List PV)} {ids : List Nat}
  (hs : Go.Pi.settle depth H (ev G t x) = some (.sl zs, ids)) (hg : Grow A H e s (ev G t y) ys) (hid : id ∈ A) (hids : ∀ b, b ∈ ids → b ∉ A) (hz : ∀ z, z ∈ zs → z.length = s ∧ deepL z = true) (hne : zs ≠ []) (hB : (ys.length + zs.length) * b ≤ 140737488355328)
  (h : ∀ v H' z, Grow A H' e s v (ys ++ zs) → (∀ c, c ∉ A → c ∉ ids → H' c = H c) → M T X G (.ops (i + 1) os len (push tr z) :: w) ⟨put t d v, H', n⟩ Q) : M T X G (.ops i (⟨d, none, id, .app e s b y x⟩ :: os) len tr :: w) ⟨t, H, n⟩ Q := by
 have hel : elemsOf (H.drop ids) s (.sl zs) = some (zs.length, zs.flatten) := by
  simp only [elemsOf]
  rw [if_pos]
  simp only [List.all_eq_true, beq_iff_eq]
  exact fun z hz' => (hz z hz').1
 have hn0 : zs.length ≠ 0 := fun h0 => hne (List.length_eq_zero_iff.1 h0)
 have hall : ∀ y, y ∈ ys ++ zs → y.length = s ∧ deepL y = true := by
  intro y hy
  rcases List.mem_append.1 hy with hy | hy
  ·exact hg.1 y hy
  ·exact hz y hy
 rw [M_app]
 rcases hg.2 with ⟨rfl, hv⟩ | ⟨c, st, hA, hv, hH⟩
 ·have ha : appRun (H.drop ids) id (n + i) e s b (ev G t y) (.sl zs) = some (.row id (n + i) zs.length, some (id, ⟨e, n + i, zs.flatten, s⟩)) := by
   simp only [appRun, hel, if_neg hn0, hv]
   rw [if_pos (by simpa using hB)]
  simp only [runK, hs, ha, Option.map_some, MR_some]
  refine h _ _ _ ⟨hall, .inr ⟨id, n + i, hid, by simp, by simp [Heap.upd, Heap.put_same]⟩⟩ (fun c hc hi => ?_)
  simp only [Heap.upd]
  rw [Heap.put_ne _ _ (fun e => hc (by rw [e]; exact hid))]
  simp only [Heap.drop, if_neg hi]
 ·have hl := flatten_len (fun y hy => (hg.1 y hy).1)
  have hd : (H.drop ids) c = some ⟨e, st, ys.flatten, s⟩ := by simp only [Heap.drop, if_neg (fun hi => hids c hi hA), hH]
  have e1 : ys.flatten.take (ys.length * s) = ys.flatten := List.take_of_length_le (by omega)
  have ha : appRun (H.drop ids) id (n + i) e s b (ev G t y) (.sl zs) = some (.row c (n + i) (ys.length + zs.length), some (c, ⟨e, n + i, ys.flatten ++ zs.flatten, s⟩)) := by
   simp only [appRun, hel, if_neg hn0, hv, hd, e1]
   rw [if_pos (by refine ⟨?_, ?_, ?_, ?_⟩ <;> first | trivial | omega)]
  simp only [runK, hs, ha, Option.map_some, MR_some]
  refine h _ _ _ ⟨hall, .inr ⟨c, n + i, hA, by simp, by simp [Heap.upd, Heap.put_same]⟩⟩ (fun c' hc hi => ?_)
  simp only [Heap.upd]
  rw [Heap.put_ne _ _ (fun e => hc (by rw [e]; exact hA))]
  simp only [Heap.drop, if_neg hi]
theorem cellsOf_grow {A : List Nat} {H : Heap} {e s : Nat} {v : PV} {ys : List (List PV)} (h : Grow A H e s v ys) : cellsOf v = some [v] := by
 rcases h.2 with ⟨_, rfl⟩ | ⟨a, st, _, rfl, _⟩ <;> rfl
theorem M_push {A : List Nat} {i len id id2 id3 n o so b a p O k r : Nat} {tr : Trk} {t : Nat → PV} {H : Heap} {v c0 c1 c2 c3 c5 : PV} {ys zs : List (List PV)} {ids : List Nat}
  (hs : Go.Pi.settle depth H (t r) = some (.sl zs, ids)) (hk : t k = v) (ho : t O = .ptr o so 0) (hO : H o = some ⟨45, so, [c0, c1, c2, c3, v, c5], 0⟩) (hg : Grow A H 45 6 v ys) (hid : id ∈ A) (hoA : o ∉ A) (hids : ∀ b, b ∈ ids → b ∉ A ∧ b ≠ o)
  (hz : ∀ z, z ∈ zs → z.length = 6 ∧ deepL z = true) (hne : zs ≠ []) (hB : (ys.length + zs.length) * b ≤ 140737488355328) (hsl : O ≠ a ∧ O ≠ p ∧ a ≠ p) (hcl : ∀ f1 f2 f3, closeOk (push (push (push tr f1) f2) f3) = true)
  (h : ∀ t' H' n' v', (∀ i, i ≠ a → i ≠ p → t' i = t i) → H' o = some ⟨45, so, [c0, c1, c2, c3, v', c5], 0⟩ → Grow A H' 45 6 v' (ys ++ zs) → (∀ c, c ∉ A → c ∉ ids → c ≠ o → H' c = H c) → M T X G w ⟨t', H', n'⟩ Q) :
  M T X G (.ops i [⟨some a, none, id, .app 45 6 b (.t k) (.t r)⟩, ⟨some p, none, id2, .fa 4 (.t O)⟩, ⟨none, none, id3, .st 1 (.t p) (.t a)⟩] len tr :: w) ⟨t, H, n⟩ Q := by
 obtain ⟨h1, h2, h3⟩ := hsl
 refine M_app_slT (A := A) (ys := ys) (zs := zs) (ids := ids) hs (by simp only [ev]; rw [hk]; exact hg) hid (fun b hb => (hids b hb).1) hz hne hB ?_
 intro v' H' z hgr hf
 have hO' : H' o = some ⟨45, so, [c0, c1, c2, c3, v, c5], 0⟩ := (hf o hoA fun hi => (hids o hi).2 rfl).trans hO
 have hcv := cellsOf_grow hgr
 rw [M_fa, show runK (ev G (put t (some a) v')) H' id2 (n + (i + 1)) (.fa 4 (.t O)) = some (.ptr o so 4, H') by simp only [runK, opRun, ev, put_other h1, ho, Option.map_some, Heap.upd, Nat.zero_add], MR_some, M_st,
  show runK (ev G (put (put t (some a) v') (some p) (.ptr o so 4))) H' id3 (n + (i + 1 + 1)) (.st 1 (.t p) (.t a)) = some (.undef, H'.put o (some ⟨45, so, [c0, c1, c2, c3, v', c5], 0⟩)) by
   simp only [runK, opRun, ev, put_same, put_other h3, stRun, hcv, hO', List.length_cons, List.length_nil, Option.map_some, Heap.upd]
   rw [if_pos (by refine ⟨trivial, trivial, by omega⟩)]
   rfl, MR_some]
 rw [M_ops_nil]
 refine ⟨hcl _ _ _, h _ _ _ _ (fun i ha hp => ?_) (Heap.put_same _ _ _) (hgr.frame fun b hb => Heap.put_ne _ _ (fun e => hoA (by rw [← e]; exact hb))) fun c hc hi ho => ?_⟩
 ·rw [put_none, put_other hp, put_other ha]
 ·rw [Heap.put_ne _ _ ho]; exact hf c hc hi
end
end Go.Pi
namespace Go.Pi
def NmsOk (F : Int → ByteArray) (xs ys : List (List PV)) : Prop := ∃ l : List Int, Bns xs l ∧ (∀ n, n ∈ l → 0 ≤ n ∧ n < 1000) ∧ NBs ys (l.map fun n => bs [118] ++ F n)
theorem NmsOk.nil {F : Int → ByteArray} : NmsOk F [] [] := ⟨[], .nil, by simp, .nil⟩
theorem NmsOk.snoc {F : Int → ByteArray} {xs ys : List (List PV)} {flags : Int} {key dflt b0 b1 b2 b3 : PV} {c : List PV} {i : Nat} {zs : List (List PV)} (hz : zs[i]? = some [.int .i64 flags, key, dflt, b0, b1, b2, b3]) (hx : xs = zs.take i) (h : NmsOk F xs ys) (hb : NmOk F [b0, b1, b2, b3] c) : NmsOk F (zs.take (i + 1)) (ys ++ [c]) := by
 obtain ⟨l, h1, h2, h3⟩ := h
 obtain ⟨l2, g1, g2, g3⟩ := hb
 subst hx
 rw [List.take_add_one, hz]
 refine ⟨l ++ l2, h1.snoc g1, fun n hn => ?_, by rw [List.map_append]; exact h3.snoc g3⟩
 rcases List.mem_append.1 hn with h | h
 ·exact h2 n h
 ·exact g2 n h
theorem NmOk.missing {F : Int → ByteArray} {ref : Int} {items : PV} {rest : Bool} {text more : ByteArray} {num at_ : Int} {kids : PV} : NmOk F [.int .i64 0, .int .i64 ref, items, .bool rest] [.int .i64 0, .str text, .str more, .int .u64 num, kids, .int .i64 at_] :=
 ⟨[], .missing _ _ _, by simp, .none _ _ _ _ _⟩
theorem NmOk.first {F : Int → ByteArray} {b : List PV} {k : Int} {text more : ByteArray} {num at_ : Int} {c : List PV} {cs : List (List PV)} (hk : k = 14 ∨ k = 42 ∨ k = 73) (h : NmOk F b c) : NmOk F b [.int .i64 k, .str text, .str more, .int .u64 num, .sl (c :: cs), .int .i64 at_] := by
 obtain ⟨l, h1, h2, h3⟩ := h
 exact ⟨l, h1, h2, .first _ _ _ _ _ _ _ _ _ hk rfl h3⟩
theorem NmOk.second {F : Int → ByteArray} {b : List PV} {text more : ByteArray} {num at_ : Int} {c0 c : List PV} {cs : List (List PV)} (h : NmOk F b c) : NmOk F b [.int .i64 72, .str text, .str more, .int .u64 num, .sl (c0 :: c :: cs), .int .i64 at_] := by
 obtain ⟨l, h1, h2, h3⟩ := h
 exact ⟨l, h1, h2, .second _ _ _ _ _ _ _ _ _ rfl h3⟩
theorem NmOk.parts {F : Int → ByteArray} {kind ref : Int} {items : PV} {rest : Bool} {k : Int} {text more : ByteArray} {num at_ : Int} {kids : PV} (hb : kind = 2 ∨ kind = 3) (hk : k = 70 ∨ k = 71 ∨ k = 12) (h : NmsOk F (els items) (els kids)) :
  NmOk F [.int .i64 kind, .int .i64 ref, items, .bool rest] [.int .i64 k, .str text, .str more, .int .u64 num, kids, .int .i64 at_] := by
 obtain ⟨l, h1, h2, h3⟩ := h
 exact ⟨l, .parts _ _ _ _ _ hb h1, h2, .parts _ _ _ _ _ _ _ hk h3⟩
end Go.Pi
namespace Go.Pi
def Hid (p : Prop) : Prop := p
end Go.Pi
namespace Go.Pi
section
variable {T : Nat → Option FX} {X : CallF} {G : Nat → PV} {Q : Ex → St → Prop} {w : List Wk}
theorem MIX_kinds {i len id2 n b g d d2 e : Nat} {m : Int} {tr : Trk} {os : List XO} {t : Nat → PV} {H : Heap} (hH : H b = some ⟨e, g, [.int .i64 11, .int .i64 12, .int .i64 13], 1⟩) (h0 : 0 ≤ m) (hlt : m < 3)
  (k : ∀ p (kk : Int), (m = 1 → kk = 12) → (kk = 11 ∨ kk = 12 ∨ kk = 13) → M T X G (.ops (i + 1) os len (push tr ([b], [])) :: w) ⟨put (put t (some d) p) (some d2) (.int .i64 kk), H, n⟩ Q) :
  MIX T X G 1 (.row b g 3) (.int .i64 m) (some d) i (⟨some d2, none, id2, .ld false 1 (.t d)⟩ :: os) len tr w t H n Q := by
 refine MIX_row h0 (by omega) ?_
 rw [M_ld]
 have e2 : feet (ev G (put t (some d) (.ptr b g (m.toNat * 1)))) H id2 (.ld false 1 (.t d)) = ([b], []) := by simp only [feet, ev, put_same]
 rw [e2]
 have : m = 0 ∨ m = 1 ∨ m = 2 := by omega
 rcases this with rfl | rfl | rfl
 ·have e1 : runK (ev G (put t (some d) (.ptr b g ((0 : Int).toNat * 1)))) H id2 (n + i) (.ld false 1 (.t d)) = some (.int .i64 11, H) := by
   simp only [runK, opRun, ev, put_same, cellsAt, hH]
   rfl
  rw [e1, MR_some]; exact k _ 11 (by omega) (by omega)
 ·have e1 : runK (ev G (put t (some d) (.ptr b g ((1 : Int).toNat * 1)))) H id2 (n + i) (.ld false 1 (.t d)) = some (.int .i64 12, H) := by
   simp only [runK, opRun, ev, put_same, cellsAt, hH]
   rfl
  rw [e1, MR_some]; exact k _ 12 (by omega) (by omega)
 ·have e1 : runK (ev G (put t (some d) (.ptr b g ((2 : Int).toNat * 1)))) H id2 (n + i) (.ld false 1 (.t d)) = some (.int .i64 13, H) := by
   simp only [runK, opRun, ev, put_same, cellsAt, hH]
   rfl
  rw [e1, MR_some]; exact k _ 13 (by omega) (by omega)
end
inductive Dns : List (List PV) → List Int → Prop
 |nil : Dns [] []
 |cons (b0 b1 b2 b3 v : PV) (xs : List (List PV)) (l ls : List Int) (h : Bn [b0, b1, b2, b3] l) (hs : Dns xs ls) : Dns ([b0, b1, b2, b3, v] :: xs) (l ++ ls)
theorem Dns.snoc {xs : List (List PV)} {l l2 : List Int} {b0 b1 b2 b3 v : PV} (hb : Bn [b0, b1, b2, b3] l2) (h : Dns xs l) : Dns (xs ++ [[b0, b1, b2, b3, v]]) (l ++ l2) := by
 induction h with
 |nil => have := Dns.cons b0 b1 b2 b3 v [] l2 [] hb .nil; simpa using this
 |cons c0 c1 c2 c3 v' xs l ls h hs ih => rw [List.cons_append, List.append_assoc]; exact .cons _ _ _ _ _ _ _ _ h ih
def DmsOk (F : Int → ByteArray) (xs ys : List (List PV)) : Prop := ∃ l : List Int, Dns xs l ∧ (∀ n, n ∈ l → 0 ≤ n ∧ n < 1000) ∧ NBs ys (l.map fun n => bs [118] ++ F n)
theorem DmsOk.nil {F : Int → ByteArray} : DmsOk F [] [] := ⟨[], .nil, by simp, .nil⟩
theorem DmsOk.snoc {F : Int → ByteArray} {xs ys : List (List PV)} {b0 b1 b2 b3 v : PV} {c : List PV} {i : Nat} {zs : List (List PV)} (hz : zs[i]? = some [b0, b1, b2, b3, v]) (hx : xs = zs.take i) (h : DmsOk F xs ys) (hb : NmOk F [b0, b1, b2, b3] c) : DmsOk F (zs.take (i + 1)) (ys ++ [c]) := by
 obtain ⟨l, h1, h2, h3⟩ := h
 obtain ⟨l2, g1, g2, g3⟩ := hb
 subst hx
 rw [List.take_add_one, hz]
 refine ⟨l ++ l2, h1.snoc g1, fun n hn => ?_, by rw [List.map_append]; exact h3.snoc g3⟩
 rcases List.mem_append.1 hn with h | h
 ·exact h2 n h
 ·exact g2 n h
def NdD (F : Int → ByteArray) (op : Int) (ds : PV) (f : Bool) (r : PV) : Prop := ∃ c, r = .agg c ∧ Nd c ∧ (f = true → op = 1 → ∃ l : List Int, Dns (els ds) l ∧ (∀ n, n ∈ l → 0 ≤ n ∧ n < 1000) ∧ NB c (l.map fun n => bs [118] ++ F n))
end Go.Pi
namespace Go.Pi
theorem group_three {s : Nat} {cs : List PV} : group s 3 cs = [cs.take s, (cs.drop s).take s, (cs.drop (2 * s)).take s] := by
 simp only [group, List.range_succ, List.range_zero, List.nil_append, List.cons_append, List.map_cons, List.map_nil, Nat.zero_mul, List.drop_zero, Nat.one_mul]
theorem group_four {s : Nat} {cs : List PV} : group s 4 cs = [cs.take s, (cs.drop s).take s, (cs.drop (2 * s)).take s, (cs.drop (3 * s)).take s] := by
 simp only [group, List.range_succ, List.range_zero, List.nil_append, List.cons_append, List.map_cons, List.map_nil, Nat.zero_mul, List.drop_zero, Nat.one_mul]
attribute [go_sem] group_three group_four
end Go.Pi
end
section
namespace Go.Pi
def vl : List Int → Int
 |[] => 0
 |x :: xs => x + 4294967296 * vl xs
def Lim (a : List Int) : Prop := ∀ x, x ∈ a → 0 ≤ x ∧ x < 4294967296
theorem Lim.nil : Lim [] := fun x h => absurd h (by simp)
theorem Lim.snoc {a : List Int} {x : Int} (h : Lim a) (h0 : 0 ≤ x) (h1 : x < 4294967296) : Lim (a ++ [x]) := by
 intro y hy
 rcases List.mem_append.1 hy with hy | hy
 ·exact h y hy
 ·simp only [List.mem_singleton] at hy; subst hy; exact ⟨h0, h1⟩
theorem Lim.get {a : List Int} (h : Lim a) {i : Nat} {x : Int} (hx : a[i]? = some x) : 0 ≤ x ∧ x < 4294967296 := h x (List.mem_of_getElem? hx)
theorem Lim.take {a : List Int} (h : Lim a) (i : Nat) : Lim (a.take i) := fun x hx => h x (List.mem_of_mem_take hx)
theorem vl_append (a b : List Int) : vl (a ++ b) = vl a + 4294967296 ^ a.length * vl b := by
 induction a with
 |nil => simp [vl]
 |cons x xs ih => simp only [List.cons_append, vl, ih, List.length_cons, Int.pow_succ]; grind
theorem vl_snoc (a : List Int) (x : Int) : vl (a ++ [x]) = vl a + 4294967296 ^ a.length * x := by
 rw [vl_append]; simp [vl]
theorem vl_nonneg {a : List Int} (h : Lim a) : 0 ≤ vl a := by
 induction a with
 |nil => simp [vl]
 |cons x xs ih =>
  have h1 := ih fun y hy => h y (by simp [hy])
  have h2 := h x (by simp)
  simp only [vl]; omega
theorem pow_pos' (n : Nat) : (0 : Int) < 4294967296 ^ n := Int.pow_pos (by decide)
theorem pow_mono' {a b : Nat} (h : a ≤ b) : (4294967296 : Int) ^ a ≤ 4294967296 ^ b := by
 obtain ⟨c, rfl⟩ : ∃ c, b = a + c := ⟨b - a, by omega⟩
 rw [Int.pow_add]
 have h1 := pow_pos' a
 have h2 := pow_pos' c
 have h3 : (4294967296 : Int) ^ a * 1 ≤ 4294967296 ^ a * 4294967296 ^ c := Int.mul_le_mul_of_nonneg_left (by omega) (by omega)
 omega
theorem vl_lt {a : List Int} (h : Lim a) : vl a < 4294967296 ^ a.length := by
 induction a with
 |nil => simp [vl]
 |cons x xs ih =>
  have h1 := ih fun y hy => h y (by simp [hy])
  have h2 := h x (by simp)
  simp only [vl, List.length_cons, Int.pow_succ]; omega
theorem vl_zeros (n : Nat) : vl (List.replicate n 0) = 0 := by
 induction n with
 |zero => rfl
 |succ n ih => simp only [List.replicate_succ, vl, ih]; omega
theorem vl_take {a : List Int} {i : Nat} {x : Int} (h : a[i]? = some x) : vl (a.take (i + 1)) = vl (a.take i) + 4294967296 ^ i * x := by
 have hi : i < a.length := by
  rcases Nat.lt_or_ge i a.length with h2 | h2
  ·exact h2
  ·rw [List.getElem?_eq_none h2] at h; cases h
 rw [List.take_add_one, h]
 show vl (a.take i ++ [x]) = _
 rw [vl_snoc, List.length_take, Nat.min_eq_left (by omega)]
theorem vl_split {a : List Int} {i : Nat} {x : Int} (h : a[i]? = some x) : vl a = vl (a.take i) + 4294967296 ^ i * (x + 4294967296 * vl (a.drop (i + 1))) := by
 have hi : i < a.length := by
  rcases Nat.lt_or_ge i a.length with h2 | h2
  ·exact h2
  ·rw [List.getElem?_eq_none h2] at h; cases h
 have e : a = a.take i ++ (x :: a.drop (i + 1)) := by
  have h3 : a[i] = x := by rw [List.getElem?_eq_getElem hi] at h; exact Option.some.inj h
  rw [← h3, ← List.drop_eq_getElem_cons hi, List.take_append_drop]
 conv => lhs; rw [e]
 rw [vl_append, List.length_take, Nat.min_eq_left (by omega), vl]
theorem vl_cmp {a b : List Int} {i : Nat} {x y : Int} (ha : Lim a) (hb : Lim b) (hx : a[i]? = some x) (hy : b[i]? = some y) (hd : a.drop (i + 1) = b.drop (i + 1)) (h : x < y) : vl a < vl b := by
 rw [vl_split hx, vl_split hy, hd]
 have h1 := vl_lt (ha.take i)
 have h2 := vl_nonneg (hb.take i)
 have hi : (a.take i).length ≤ i := by rw [List.length_take]; omega
 have h3 : (4294967296 : Int) ^ (a.take i).length ≤ 4294967296 ^ i := pow_mono' hi
 have h4 := pow_pos' i
 generalize (4294967296 : Int) ^ i = p at *
 generalize vl (List.drop (i + 1) b) = z at *
 have h5 : p * (x + 4294967296 * z) + p ≤ p * (y + 4294967296 * z) := by
  have : p * (x + 4294967296 * z) + p = p * (x + 4294967296 * z + 1) := by grind
  rw [this]
  exact Int.mul_le_mul_of_nonneg_left (by omega) (by omega)
 omega
def Top (a : List Int) : Prop := ∀ x, a.getLast? = some x → x ≠ 0
theorem Top.nil : Top [] := fun x h => absurd h (by simp)
theorem vl_top {a : List Int} (ha : Lim a) (ht : Top a) (hne : a ≠ []) : 4294967296 ^ (a.length - 1) ≤ vl a := by
 obtain ⟨l, x, rfl⟩ : ∃ l x, a = l ++ [x] := ⟨a.dropLast, a.getLast hne, (List.dropLast_concat_getLast hne).symm⟩
 have h1 := ht x (by simp)
 have h2 := ha x (by simp)
 have h3 := vl_nonneg (a := l) fun y hy => ha y (by simp [hy])
 rw [vl_snoc, List.length_append, List.length_singleton, Nat.add_sub_cancel]
 have h4 := pow_pos' l.length
 have h5 : (4294967296 : Int) ^ l.length * 1 ≤ 4294967296 ^ l.length * x := Int.mul_le_mul_of_nonneg_left (by omega) (by omega)
 omega
theorem vl_len {a b : List Int} (ha : Lim a) (hb : Lim b) (ht : Top b) (h : a.length < b.length) : vl a < vl b := by
 have h1 := vl_lt ha
 have h2 := vl_top hb ht (by intro e; subst e; simp at h)
 have h3 : (4294967296 : Int) ^ a.length ≤ 4294967296 ^ (b.length - 1) := pow_mono' (by omega)
 omega
theorem vl_zero {a : List Int} (ha : Lim a) (ht : Top a) (h : vl a = 0) : a = [] := by
 rcases a with _ | ⟨x, xs⟩
 ·rfl
 ·have := vl_len (a := []) Lim.nil ha ht (by simp)
  simp only [vl] at this h
  omega
def lims (a : List Int) : List (List PV) := a.map fun x => [.int .u64 x]
def NvR (v : PV) (a : List Int) : Prop := (v = .nils ∧ a = []) ∨ v = .sl (lims a)
def NatV (N : Int) (L : Nat) (v : PV) : Prop := ∃ a, NvR v a ∧ Lim a ∧ Top a ∧ vl a = N ∧ a.length ≤ L
theorem NvR.els {v : PV} {a : List Int} (h : NvR v a) : els v = lims a := by
 rcases h with ⟨rfl, rfl⟩ | rfl <;> rfl
theorem NvR.sls {v : PV} {a : List Int} (h : NvR v a) : Sls v := by
 rcases h with ⟨rfl, rfl⟩ | rfl
 ·exact .inl rfl
 ·exact .inr ⟨_, rfl⟩
theorem deepLL_lims (a : List Int) : deepLL (lims a) = true := deepLL_of fun y hy => by
 simp only [lims, List.mem_map] at hy
 obtain ⟨x, _, rfl⟩ := hy
 rfl
theorem NvR.deep {v : PV} {a : List Int} (h : NvR v a) : deepB v = true := by
 rcases h with ⟨rfl, rfl⟩ | rfl
 ·rfl
 ·simp only [deepB]; exact deepLL_lims a
theorem NvR.len {v : PV} {a : List Int} (h : NvR v a) : (Go.Pi.els v).length = a.length := by rw [h.els, lims, List.length_map]
theorem NvR.get {v : PV} {a : List Int} (h : NvR v a) {i : Nat} {y : List PV} (hy : (Go.Pi.els v)[i]? = some y) : ∃ x, y = [.int .u64 x] ∧ a[i]? = some x := by
 rw [h.els, lims, List.getElem?_map] at hy
 cases hx : a[i]? with
 |none => rw [hx] at hy; cases hy
 |some x => rw [hx] at hy; simp only [Option.map_some, Option.some.injEq] at hy; exact ⟨x, hy.symm, rfl⟩
theorem lims_snoc (a : List Int) (x : Int) : lims (a ++ [x]) = lims a ++ [[.int .u64 x]] := by simp [lims]
theorem lims_len (a : List Int) : (lims a).length = a.length := by simp [lims]
end Go.Pi
end
section
namespace Go.Pi
open Go.RowKit
section
variable {T : Nat → Option FX} {X : CallF} {G : Nat → PV} {Q : Ex → St → Prop} {w : List Wk}
variable {i len id n : Nat} {tr : Trk} {d : Option Nat} {os : List XO} {t : Nat → PV} {H : Heap}
theorem MIX_NV {v : PV} {a : List Int} {m : Int} (h : NvR v a) (h0 : 0 ≤ m) (h1 : m < (a.length : Int)) (k : ∀ x, a[m.toNat]? = some x → M T X G (.ops i os len tr :: w) ⟨put t d (.fp [.int .u64 x]), H, n⟩ Q) :
  MIX T X G 1 v (.int .i64 m) d i os len tr w t H n Q := by
 obtain ⟨p, rfl⟩ := Int.eq_ofNat_of_zero_le h0
 have hp : p < a.length := by omega
 have hp2 : p < (els v).length := by rw [h.len]; exact hp
 have hy : (els v)[p] = [.int .u64 a[p]] := by
  have e := h.els
  have : (els v)[p]? = some [.int .u64 a[p]] := by rw [e, lims, List.getElem?_map, List.getElem?_eq_getElem hp]; rfl
  rw [List.getElem?_eq_getElem hp2] at this
  exact Option.some.inj this
 have hix := ix_sls (s := 1) h.sls hp2 (by rw [hy]; rfl)
 unfold MIX
 rw [hix, hy]
 exact k _ (by rw [Int.toNat_natCast, List.getElem?_eq_getElem hp])
theorem MIX_NVr {v : PV} {a : List Int} {m x : Int} (h : NvR v a) (hx : a[m.toNat]? = some x) (h0 : 0 ≤ m) (k : M T X G (.ops i os len tr :: w) ⟨put t d (.fp [.int .u64 x]), H, n⟩ Q) :
  MIX T X G 1 v (.int .i64 m) d i os len tr w t H n Q := by
 have hl : m.toNat < a.length := by
  rcases Nat.lt_or_ge m.toNat a.length with h2 | h2
  ·exact h2
  ·rw [List.getElem?_eq_none h2] at hx; cases hx
 refine MIX_NV h h0 (by omega) fun y hy => ?_
 rw [hx] at hy
 cases hy
 exact k
theorem M_sslN {x j : Opd} {v : PV} {a : List Int} {m : Int} (hx : ev G t x = v) (hj : ev G t j = .int .i64 m) (h : NvR v a) (h0 : 0 ≤ m) (h1 : m ≤ (a.length : Int))
  (k : ∀ v', NvR v' (a.take m.toNat) → M T X G (.ops (i + 1) os len (push tr ([], [])) :: w) ⟨put t d v', H, n⟩ Q) : M T X G (.ops i (⟨d, none, id, .ssl 1 x none (some j)⟩ :: os) len tr :: w) ⟨t, H, n⟩ Q := by
 rw [M_ssl]
 rcases h with ⟨rfl, rfl⟩ | rfl
 ·have hm : m = 0 := by simp at h1; omega
  subst hm
  have e : runK (ev G t) H id (n + i) (.ssl 1 x none (some j)) = some (.nils, H) := by
   simp only [runK, opRun, hx, boundP, hj]
   rfl
  rw [e, MR_some]
  exact k .nils (.inl ⟨rfl, by simp⟩)
 ·have hl := lims_len a
  have ha : (lims a).all (fun c => c.length == 1) = true := by
   simp only [lims, List.all_eq_true, List.mem_map, beq_iff_eq]
   rintro _ ⟨y, _, rfl⟩; rfl
  have e : runK (ev G t) H id (n + i) (.ssl 1 x none (some j)) = some (.sl ((lims a).take m.toNat), H) := by
   simp only [runK, opRun, hx, boundP, hj, if_pos h0]
   rw [if_pos ⟨by omega, by omega, ha⟩]
   rfl
  rw [e, MR_some]
  exact k _ (.inr (by simp [lims, List.map_take]))
theorem Grow.nv {A : List Nat} {v : PV} {a : List Int} (h : Grow A H 43 1 v (lims a)) : NvR (Go.Pi.gv v (lims a)) a := by
 rcases h.2 with ⟨h1, rfl⟩ | ⟨id, st, _, rfl, _⟩
 ·exact .inl ⟨rfl, by simpa [lims] using h1⟩
 ·exact .inr rfl
theorem Grow.sub {A A' : List Nat} {e s : Nat} {v : PV} {ys : List (List PV)} (h : Grow A H e s v ys) (hs : ∀ b, b ∈ A → b ∈ A') : Grow A' H e s v ys :=
 ⟨h.1, h.2.imp id fun ⟨b, st, h1, h2, h3⟩ => ⟨b, st, hs b h1, h2, h3⟩⟩
theorem MC_grow {A : List Nat} {f e s : Nat} {v : PV} {ys : List (List PV)} {R : PV → Prop} (hg : Grow A H e s v ys) (hM : Pure T X G f [Go.Pi.gv v ys] R)
  (k : ∀ r, R r → M T X G (.ops i os len tr :: w) ⟨put t d r, H.drop (gi v), n⟩ Q) (hro : roF f = false := by rfl) : MC T X G f [v] d i os len tr w t H n Q := by
 obtain ⟨r, cells, h1, h2⟩ := hM
 have hs : settleL (settle depth H) [v] = some ([Go.Pi.gv v ys], gi v) := by
  rw [settleL_each, show Go.Pi.settle depth H v = some (Go.Pi.gv v ys, gi v) from hg.settleE (n := 29), settleL_nil]
  simp [zip2]
 have hne : ∀ b g rest, [v] ≠ .ptr b g 0 :: rest := by
  intro b g rest h
  rcases hg.2 with ⟨_, rfl⟩ | ⟨id, st, _, rfl, _⟩ <;> cases h
 exact MC_none hro hne hs ⟨r, cells, h1, k r h2⟩
theorem M_appN {A : List Nat} {e2 rid st : Nat} {y x : Opd} {out : List Int} {x0 : Int}
  (hx : ev G t x = .row rid st 1) (hr : H rid = some ⟨e2, st, [.int .u64 x0], 1⟩) (hg : Grow A H 43 1 (ev G t y) (lims out)) (hid : id ∈ A) (hrid : rid ∉ A) (hB : out.length ≤ 1099511627776)
  (h : ∀ v H' tr', Grow A H' 43 1 v (lims (out ++ [x0])) → (∀ c, c ∉ A → c ≠ rid → H' c = H c) → (tr = none → tr' = none) → M T X G (.ops (i + 1) os len tr' :: w) ⟨put t d v, H', n⟩ Q) : M T X G (.ops i (⟨d, none, id, .app 43 1 8 y x⟩ :: os) len tr :: w) ⟨t, H, n⟩ Q := by
 refine M_app1 (A := A) hx hr rfl rfl hg hid hrid (by rw [lims_len]; omega) ?_
 intro v H' tr' hgr hf htr
 exact h v H' tr' (by rw [lims_snoc]; exact hgr) hf htr
end
theorem NatV.nv {N : Int} {L : Nat} {v : PV} (h : NatV N L v) : ∃ a, NvR v a ∧ Lim a ∧ Top a ∧ vl a = N ∧ a.length ≤ L := h
theorem NatV.mono {N : Int} {L L' : Nat} {v : PV} (h : NatV N L v) (hl : L ≤ L') : NatV N L' v := by
 obtain ⟨a, h1, h2, h3, h4, h5⟩ := h
 exact ⟨a, h1, h2, h3, h4, by omega⟩
theorem NatV.deep {N : Int} {L : Nat} {v : PV} (h : NatV N L v) : deepB v = true := by
 obtain ⟨a, h1, _⟩ := h
 exact h1.deep
theorem NatV.notptr {N : Int} {L : Nat} {b g o : Nat} (h : NatV N L (.ptr b g o)) : False := by
 obtain ⟨a, h1, _⟩ := h
 rcases h1 with ⟨h, _⟩ | h <;> cases h
theorem NvR.notptr {a : List Int} {b g o : Nat} (h : NvR (.ptr b g o) a) : False := by
 rcases h with ⟨h, _⟩ | h <;> cases h
end Go.Pi
end
section
open Go Go.Pi
namespace Go.Pi
variable {p q a : Prop}
set_option maxRecDepth 100000
set_option maxHeartbeats 0
section
variable {X : CallF} {G : Nat → PV}
theorem vl_take_all {a : List Int} {k : Int} (h : (a.length : Int) ≤ k) : vl (a.take k.toNat) = vl a := by rw [List.take_of_length_le (by omega)]
theorem vl_take0 {a : List Int} {k x : Int} (hx : a[(k - 1).toNat]? = some x) (h0 : x = 0) (hk : k > 0) : vl (a.take (k - 1).toNat) = vl (a.take k.toNat) := by
 have := vl_take hx
 rw [show (k - 1).toNat + 1 = k.toNat by omega, h0] at this
 rw [this]; omega
theorem trim_end {a : List Int} {v : PV} {k : Int} (h : NvR v (a.take k.toNat)) (ha : Lim a) (hk : k ≤ a.length) (hv : vl (a.take k.toNat) = vl a) (ht : k > 0 → ∃ x, a[(k - 1).toNat]? = some x ∧ ¬x = 0) : NatV (vl a) a.length v := by
 refine ⟨_, h, ha.take _, ?_, hv, by rw [List.length_take]; omega⟩
 intro y hy
 by_cases hk0 : k > 0
 ·obtain ⟨x, hx, hx0⟩ := ht hk0
  rw [List.getLast?_eq_getElem?, List.length_take, Nat.min_eq_left (by omega), List.getElem?_take, if_pos (by omega), show k.toNat - 1 = (k - 1).toNat by omega, hx] at hy
  cases hy; exact hx0
 ·rw [show k.toNat = 0 by omega] at hy
  simp at hy
namespace QNa2
theorem fB2 (x : a) (g : q) (h : a → q → p := by (intro x g; exact n1 (j x (j h0 (j h3 (j hv (j hlen hTT))))) g)) : p := h x g
theorem kN2 (h : p := by
 first
 |(refine next _ ?_ _ ⟨_, by (exact c1 (j h0 (j h3 (j hv hlen)))), by (exact c1 (j h0 (j h3 (j hv hlen)))), by (first | exact wM | exact vl_take_all (by omega) | exact (vl_take0 (by assumption) (by assumption) (by omega)).trans hq2), by (first | exact wM | exact vl_take_all (by omega) | exact (vl_take0 (by assumption) (by assumption) (by omega)).trans hq2), by (first | exact wM | exact vl_take_all (by omega) | exact (vl_take0 (by assumption) (by assumption) (by omega)).trans hq2), rfl⟩; (first | exact wM | exact vl_take_all (by omega) | exact (vl_take0 (by assumption) (by assumption) (by omega)).trans hq2))
 |fail) : p := h
theorem kB2 (h : p := by
 first
 |((refine MIX_NV h (by omega) (by omega) (fun x hx => ?_); refine n1 (j h0 (j h3 (j hv hlen))) ?_)) <;> exact As2
 |((refine M_sslN (c1 (j h0 (j h3 (j hv hlen)))) (c1 (j h0 (j h3 (j hv hlen)))) h (by omega) (by omega) (fun v' hv' => ?_); refine n1 (j h0 (j h3 (j hv (j hlen hv'.deep)))) ?_; exact trim_end hv' ha (by omega) hq2 (fun hk => by first | omega | exact ⟨_, by assumption, by assumption⟩))) <;> exact As2
 |fail) : p := h
end QNa2
namespace QNa1
theorem fB1 (x : a) (g : q) (h : a → q → p := by (intro x g; exact n1 (j x (j hv (j hd (j hlen hTT)))) g)) : p := h x g
theorem kZ1 (h : p := by
 first
 |skip
  refine M_loop (fun m' s' => ∃ (k : Int), s'.t 0 = v ∧ s'.t 3 = .int .i64 k ∧ (0 ≤ k) ∧ (k ≤ a.length) ∧ (vl (a.take k.toNat) = vl a) ∧ m' = k.toNat) ?_ (n := _) ⟨_, by (exact c1 (j hv hlen)), by (exact c1 (j hv hlen)), by (first | exact wM | exact vl_take_all (by omega) | exact (vl_take0 (by assumption) (by assumption) (by omega)).trans hq2), by (first | exact wM | exact vl_take_all (by omega) | exact (vl_take0 (by assumption) (by assumption) (by omega)).trans hq2), by (first | exact wM | exact vl_take_all (by omega) | exact (vl_take0 (by assumption) (by assumption) (by omega)).trans hq2), rfl⟩
  rintro m' ⟨t, H, k⟩ ⟨k, h0, h3, hq0, hq1, hq2, hm⟩ next
  simp only at h0 h3
  refine n1 (j h0 (j h3 (j hv hlen))) ?_
  open QNa2 in exact As2
  done
 |fail) : p := h
end QNa1
theorem n105 {v : PV} {a : List Int} (h : NvR v a) (ha : Lim a) (hl : a.length ≤ 1099511627776) : Pure Tab X G 105 [v] (NatV (vl a) a.length) := by
 have hv := h.sls
 have hd := h.deep
 have hlen := h.len
 refine Fn_of T105 (by simp) ?_
 refine n1 (j hv (j hd hlen)) ?_
 open QNa1 in exact As1
namespace QNa3
theorem fB1 (x : a) (g : q) (h : a → q → p := by (intro x g; exact n1 (j x hTT) g)) : p := h x g
theorem kB1 (h : p := by
 first
 |((refine MC_none rfl (by intro b g r h; cases h) (c0) ?_; obtain ⟨r, cells, hf, hr⟩ := ht; have hrd := hr.deep; refine ⟨_, _, hf, ?_⟩; refine n1 hrd ?_;  exact hr)) <;> exact As1
 |fail) : p := h
end QNa3
theorem n82 (n : Int) (h0 : 0 ≤ n) (h1 : n < 4294967296) : Pure Tab X G 82 [.int .i64 n] (NatV n 1) := by
 refine Fn_of T82 (by simp) ?_
 refine n0 ?_
 have hg : NvR (.sl [[.int .u64 n]]) [n] := .inr rfl
 have hv : vl [n] = n := by simp [vl]
 have ht := n105 (X := X) (G := G) hg (by intro x hx; simp at hx; subst hx; exact ⟨h0, h1⟩) (by simp)
 rw [hv] at ht
 open QNa3 in exact As1
theorem step_times {a out : List Int} {i x c m more : Int} (hx : a[i.toNat]? = some x) (hi : 0 ≤ i) (hl : out.length = i.toNat) (h : vl out + 4294967296 ^ i.toNat * c = vl (a.take i.toNat) * m + more) :
  vl (out ++ [(c + x * m) % 4294967296]) + 4294967296 ^ (i + 1).toNat * ((c + x * m) / 4294967296) = vl (a.take (i + 1).toNat) * m + more := by
 have e : (i + 1).toNat = i.toNat + 1 := by omega
 rw [vl_snoc, hl, e, vl_take hx, Int.pow_succ]
 have h2 := Int.mul_ediv_add_emod (c + x * m) 4294967296
 generalize (c + x * m) % 4294967296 = r at *
 generalize (c + x * m) / 4294967296 = q at *
 generalize (4294967296 : Int) ^ i.toNat = p at *
 grind
namespace QNa6
theorem fB3 (x : a) (g : q) (h : a → q → p := by (intro x g; exact n1 (j x (j h0 (j h1 (j h2 (j h7 (j h8 (j hv (j hlen hTT)))))))) g)) : p := h x g
theorem kN3 (h : p := by
 first
 |(refine next _ ?_ _ ⟨_, _, _, _, by (exact c1 (j h0 (j h1 (j h2 (j h7 (j h8 (j hv hlen))))))), by (exact c1 (j h0 (j h1 (j h2 (j h7 (j h8 (j hv hlen))))))), by (exact c1 (j h0 (j h1 (j h2 (j h7 (j h8 (j hv hlen))))))), by (exact c1 (j h0 (j h1 (j h2 (j h7 (j h8 (j hv hlen))))))), by (exact c1 (j h0 (j h1 (j h2 (j h7 (j h8 (j hv hlen))))))), by (first | exact wM | exact Grow.nil | exact Lim.nil | (simp [vl]; done) | exact hq5.snoc (by omega) (by omega) | (simp only [List.length_append, List.length_cons, List.length_nil]; omega) | exact step_times hx hq1 hq6 hq7), by (first | exact wM | exact Grow.nil | exact Lim.nil | (simp [vl]; done) | exact hq5.snoc (by omega) (by omega) | (simp only [List.length_append, List.length_cons, List.length_nil]; omega) | exact step_times hx hq1 hq6 hq7), by (first | exact wM | exact Grow.nil | exact Lim.nil | (simp [vl]; done) | exact hq5.snoc (by omega) (by omega) | (simp only [List.length_append, List.length_cons, List.length_nil]; omega) | exact step_times hx hq1 hq6 hq7), by (first | exact wM | exact Grow.nil | exact Lim.nil | (simp [vl]; done) | exact hq5.snoc (by omega) (by omega) | (simp only [List.length_append, List.length_cons, List.length_nil]; omega) | exact step_times hx hq1 hq6 hq7), by (first | exact wM | exact Grow.nil | exact Lim.nil | (simp [vl]; done) | exact hq5.snoc (by omega) (by omega) | (simp only [List.length_append, List.length_cons, List.length_nil]; omega) | exact step_times hx hq1 hq6 hq7), by (first | exact wM | exact Grow.nil | exact Lim.nil | (simp [vl]; done) | exact hq5.snoc (by omega) (by omega) | (simp only [List.length_append, List.length_cons, List.length_nil]; omega) | exact step_times hx hq1 hq6 hq7), by (first | exact wM | exact Grow.nil | exact Lim.nil | (simp [vl]; done) | exact hq5.snoc (by omega) (by omega) | (simp only [List.length_append, List.length_cons, List.length_nil]; omega) | exact step_times hx hq1 hq6 hq7), by (first | exact wM | exact Grow.nil | exact Lim.nil | (simp [vl]; done) | exact hq5.snoc (by omega) (by omega) | (simp only [List.length_append, List.length_cons, List.length_nil]; omega) | exact step_times hx hq1 hq6 hq7), rfl⟩; (first | exact wM | exact Grow.nil | exact Lim.nil | (simp [vl]; done) | exact hq5.snoc (by omega) (by omega) | (simp only [List.length_append, List.length_cons, List.length_nil]; omega) | exact step_times hx hq1 hq6 hq7))
 |fail) : p := h
end QNa6
namespace QNa5
theorem fB2 (x : a) (g : q) (h : a → q → p := by (intro x g; exact n1 (j x (j h0 (j h1 (j h2 (j h7 (j h8 (j hv (j hlen hTT)))))))) g)) : p := h x g
theorem kB2 (h : p := by
 first
 |((refine MIX_NV h (by omega) (by omega) (fun x hx => ?_); refine n1 (j h0 (j h1 (j h2 (j h7 (j h8 (j hv hlen)))))) ?_)) <;> exact As2
 |fail) : p := h
theorem y2_0 (h : p := by
 first
 |skip
  obtain ⟨hx0, hx1⟩ := ha.get hx
  have hmb := mul_bd hx0 hx1 hm0 hm1
  simp (disch := omega) only [wrap_u64, and_low]
  refine M_appN (A := [6005]) (rid := 6004) (x0 := (c + x * m) % 4294967296) (c1 (j h0 (j h1 (j h2 (j h7 (j h8 (j hv hlen))))))) (c1 (j h0 (j h1 (j h2 (j h7 (j h8 (j hv hlen))))))) (by refine n1 (j h0 (j h1 (j h2 (j h7 (j h8 (j hv hlen)))))) ?_; exact hq0.frame (by intro b hb; simp only [List.mem_singleton] at hb; subst hb; exact c0)) (by simp) (by simp) (by omega) ?_
  intro v' H' tr' hgr hf htr
  have := htr rfl
  subst this
  refine n1 (j h0 (j h1 (j h2 (j h7 (j h8 (j hv hlen)))))) ?_
  open QNa6 in exact As3
  done
 |fail) : p := h
theorem y2_1 (h : p := by
 first
 |skip
  refine M_appN (A := [6005, 8004]) (rid := 8003) (x0 := c) (c1 (j h0 (j h1 (j h2 (j h7 (j h8 (j hv hlen))))))) (c1 (j h0 (j h1 (j h2 (j h7 (j h8 (j hv hlen))))))) (by refine n1 (j h0 (j h1 (j h2 (j h7 (j h8 (j hv hlen)))))) ?_; exact (hq0.frame (by intro b hb; simp only [List.mem_singleton] at hb; subst hb; exact c0)).sub (by simp)) (by simp) (by simp) (by omega) ?_
  intro v' H' tr' hgr hf htr
  have := htr rfl
  subst this
  refine n1 (j h0 (j h1 (j h2 (j h7 (j h8 (j hv hlen)))))) ?_
  refine MC_grow hgr (n105 hgr.nv (hq5.snoc hq3 hq4) (by simp; omega)) (fun r hr => ?_)
  have hrd := hr.deep
  refine n1 (j h0 (j h1 (j h2 (j h7 (j h8 (j hv (j hlen hrd))))))) ?_
  have e : vl (out ++ [c]) = vl a * m + more := by
   rw [vl_snoc, hq6, hq7, vl_take_all (by omega)]
  rw [e] at hr
  exact hr.mono (by simp; omega)
  done
 |fail) : p := h
theorem kZ2 (h : p := by
 first
 |skip
  all_goals first
  |exact y2_0
  |exact y2_1
  |fail
  done
 |fail) : p := h
end QNa5
namespace QNa4
theorem fB1 (x : a) (g : q) (h : a → q → p := by (intro x g; exact n1 (j x (j hv (j hd (j hlen hTT)))) g)) : p := h x g
theorem kZ1 (h : p := by
 first
 |skip
  refine M_loop (fun m' s' => ∃ (i c : Int) (out : List Int) (g : PV), s'.t 0 = v ∧ s'.t 1 = .int .u64 m ∧ s'.t 2 = .int .u64 c ∧ s'.t 7 = g ∧ s'.t 8 = .int .i64 i ∧ (Grow [6005] s'.H 43 1 g (lims out)) ∧ (0 ≤ i) ∧ (i ≤ a.length) ∧ (0 ≤ c) ∧ (c < 4294967296) ∧ (Lim out) ∧ (out.length = i.toNat) ∧ (vl out + 4294967296 ^ i.toNat * c = vl (a.take i.toNat) * m + more) ∧ m' = (a.length - i).toNat) ?_ (n := _) ⟨0, more, [], .nils, by (exact c1 (j hv hlen)), by (exact c1 (j hv hlen)), by (exact c1 (j hv hlen)), by (exact c1 (j hv hlen)), by (exact c1 (j hv hlen)), by (first | exact wM | exact Grow.nil | exact Lim.nil | (simp [vl]; done) | exact hq5.snoc (by omega) (by omega) | (simp only [List.length_append, List.length_cons, List.length_nil]; omega) | exact step_times hx hq1 hq6 hq7), by (first | exact wM | exact Grow.nil | exact Lim.nil | (simp [vl]; done) | exact hq5.snoc (by omega) (by omega) | (simp only [List.length_append, List.length_cons, List.length_nil]; omega) | exact step_times hx hq1 hq6 hq7), by (first | exact wM | exact Grow.nil | exact Lim.nil | (simp [vl]; done) | exact hq5.snoc (by omega) (by omega) | (simp only [List.length_append, List.length_cons, List.length_nil]; omega) | exact step_times hx hq1 hq6 hq7), by (first | exact wM | exact Grow.nil | exact Lim.nil | (simp [vl]; done) | exact hq5.snoc (by omega) (by omega) | (simp only [List.length_append, List.length_cons, List.length_nil]; omega) | exact step_times hx hq1 hq6 hq7), by (first | exact wM | exact Grow.nil | exact Lim.nil | (simp [vl]; done) | exact hq5.snoc (by omega) (by omega) | (simp only [List.length_append, List.length_cons, List.length_nil]; omega) | exact step_times hx hq1 hq6 hq7), by (first | exact wM | exact Grow.nil | exact Lim.nil | (simp [vl]; done) | exact hq5.snoc (by omega) (by omega) | (simp only [List.length_append, List.length_cons, List.length_nil]; omega) | exact step_times hx hq1 hq6 hq7), by (first | exact wM | exact Grow.nil | exact Lim.nil | (simp [vl]; done) | exact hq5.snoc (by omega) (by omega) | (simp only [List.length_append, List.length_cons, List.length_nil]; omega) | exact step_times hx hq1 hq6 hq7), by (first | exact wM | exact Grow.nil | exact Lim.nil | (simp [vl]; done) | exact hq5.snoc (by omega) (by omega) | (simp only [List.length_append, List.length_cons, List.length_nil]; omega) | exact step_times hx hq1 hq6 hq7), rfl⟩
  rintro m' ⟨t, H, k⟩ ⟨i, c, out, g, h0, h1, h2, h7, h8, hq0, hq1, hq2, hq3, hq4, hq5, hq6, hq7, hm⟩ next
  simp only at h0 h1 h2 h7 h8
  refine n1 (j h0 (j h1 (j h2 (j h7 (j h8 (j hv hlen)))))) ?_
  have hgr0 := hq0
  open QNa5 in exact As2
  done
 |fail) : p := h
end QNa4
theorem n159 {v : PV} {a : List Int} (m more : Int) (h : NvR v a) (ha : Lim a) (hl : a.length ≤ 1073741824) (hm0 : 0 ≤ m) (hm1 : m < 4294967296) (hc0 : 0 ≤ more) (hc1 : more < 4294967296) : Pure Tab X G 159 [v, .int .u64 m, .int .u64 more] (NatV (vl a * m + more) (a.length + 1)) := by
 have hv := h.sls
 have hd := h.deep
 have hlen := h.len
 refine Fn_of T159 (by simp) ?_
 refine n1 (j hv (j hd hlen)) ?_
 open QNa4 in exact As1
end
end Go.Pi
end
section
open Go Go.Pi
namespace Go.Pi
variable {p q a : Prop}
set_option maxRecDepth 100000
set_option maxHeartbeats 0
section
variable {X : CallF} {G : Nat → PV}
theorem n159N {N : Int} {L : Nat} {v : PV} (m more : Int) (h : NatV N L v) (hl : L ≤ 1073741824) (hm0 : 0 ≤ m) (hm1 : m < 4294967296) (hc0 : 0 ≤ more) (hc1 : more < 4294967296) : Pure Tab X G 159 [v, .int .u64 m, .int .u64 more] (NatV (N * m + more) (L + 1)) := by
 obtain ⟨a, h1, h2, h3, rfl, h5⟩ := h
 obtain ⟨r, c, hf, hr⟩ := n159 (X := X) (G := G) m more h1 h2 (by omega) hm0 hm1 hc0 hc1
 exact ⟨r, c, hf, hr.mono (by omega)⟩
namespace QNc2
theorem fB2 (x : a) (g : q) (h : a → q → p := by (intro x g; exact n1 (j x (j h0 (j h1 (j h2 (j h7 (j hgd hTT)))))) g)) : p := h x g
theorem kN2 (h : p := by
 first
 |(refine next _ ?_ _ ⟨_, _, by (exact c1 (j h0 (j h1 (j h2 h7)))), by (exact c1 (j h0 (j h1 (j h2 h7)))), by (exact c1 (j h0 (j h1 (j h2 h7)))), by (exact c1 (j h0 (j h1 (j h2 h7)))), by (first | exact wM | (have e : N * base ^ (0 : Int).toNat = N := (by simp); rw [e]; exact h.mono (by omega)) | (have e : N * base ^ (i + 1).toNat = N * base ^ i.toNat * base + 0 := (by rw [show (i + 1).toNat = i.toNat + 1 by omega, Int.pow_succ]; grind); rw [e]; exact hgq.mono (by omega))), by (first | exact wM | (have e : N * base ^ (0 : Int).toNat = N := (by simp); rw [e]; exact h.mono (by omega)) | (have e : N * base ^ (i + 1).toNat = N * base ^ i.toNat * base + 0 := (by rw [show (i + 1).toNat = i.toNat + 1 by omega, Int.pow_succ]; grind); rw [e]; exact hgq.mono (by omega))), by (first | exact wM | (have e : N * base ^ (0 : Int).toNat = N := (by simp); rw [e]; exact h.mono (by omega)) | (have e : N * base ^ (i + 1).toNat = N * base ^ i.toNat * base + 0 := (by rw [show (i + 1).toNat = i.toNat + 1 by omega, Int.pow_succ]; grind); rw [e]; exact hgq.mono (by omega))), rfl⟩; (first | exact wM | (have e : N * base ^ (0 : Int).toNat = N := (by simp); rw [e]; exact h.mono (by omega)) | (have e : N * base ^ (i + 1).toNat = N * base ^ i.toNat * base + 0 := (by rw [show (i + 1).toNat = i.toNat + 1 by omega, Int.pow_succ]; grind); rw [e]; exact hgq.mono (by omega))))
 |fail) : p := h
theorem kA2 (h : p := by
 first
 |((have e : i.toNat = n.toNat := (by omega); rw [e] at hq0; exact hq0)) <;> exact As2
 |fail) : p := h
theorem kB2 (h : p := by
 first
 |(refine MC_pure (n159N base 0 hq0 (by omega) (by omega) (by omega) (by omega) (by omega)) pQ dQ2 ?_; rintro gq hgq; have hgd := hgq.deep; refine fB2 hgd ?_; exact As2)
 |fail) : p := h
end QNc2
namespace QNc1
theorem fB1 (x : a) (g : q) (h : a → q → p := by (intro x g; exact n1 (j x (j hd hTT)) g)) : p := h x g
theorem kZ1 (h : p := by
 first
 |skip
  refine M_loop (fun m' s' => ∃ (i : Int) (g : PV), s'.t 0 = g ∧ s'.t 1 = .int .i64 base ∧ s'.t 2 = .int .i64 n ∧ s'.t 7 = .int .i64 i ∧ (NatV (N * base ^ i.toNat) (L + i.toNat) g) ∧ (0 ≤ i) ∧ (i ≤ n) ∧ m' = (n - i).toNat) ?_ (n := _) ⟨0, v, by (exact c0), by (exact c0), by (exact c0), by (exact c0), by (first | exact wM | (have e : N * base ^ (0 : Int).toNat = N := (by simp); rw [e]; exact h.mono (by omega)) | (have e : N * base ^ (i + 1).toNat = N * base ^ i.toNat * base + 0 := (by rw [show (i + 1).toNat = i.toNat + 1 by omega, Int.pow_succ]; grind); rw [e]; exact hgq.mono (by omega))), by (first | exact wM | (have e : N * base ^ (0 : Int).toNat = N := (by simp); rw [e]; exact h.mono (by omega)) | (have e : N * base ^ (i + 1).toNat = N * base ^ i.toNat * base + 0 := (by rw [show (i + 1).toNat = i.toNat + 1 by omega, Int.pow_succ]; grind); rw [e]; exact hgq.mono (by omega))), by (first | exact wM | (have e : N * base ^ (0 : Int).toNat = N := (by simp); rw [e]; exact h.mono (by omega)) | (have e : N * base ^ (i + 1).toNat = N * base ^ i.toNat * base + 0 := (by rw [show (i + 1).toNat = i.toNat + 1 by omega, Int.pow_succ]; grind); rw [e]; exact hgq.mono (by omega))), rfl⟩
  rintro m' ⟨t, H, k⟩ ⟨i, g, h0, h1, h2, h7, hq0, hq1, hq2, hm⟩ next
  simp only at h0 h1 h2 h7
  refine n1 (j h0 (j h1 (j h2 h7))) ?_
  have hgd := hq0.deep
  open QNc2 in exact As2
  done
 |fail) : p := h
end QNc1
theorem n137 {N : Int} {L : Nat} {v : PV} (base n : Int) (h : NatV N L v) (hl : L ≤ 1048576) (hb0 : 0 ≤ base) (hb1 : base < 4294967296) (hn0 : 0 ≤ n) (hn1 : n ≤ 1048576) : Pure Tab X G 137 [v, .int .i64 base, .int .i64 n] (NatV (N * base ^ n.toNat) (L + n.toNat)) := by
 have hd := h.deep
 refine Fn_of T137 (by simp) ?_
 refine n1 hd ?_
 open QNc1 in exact As1
def CmpR (N M : Int) (r : PV) : Prop := ∃ c, r = .int .i64 c ∧ (c = -1 ∧ N < M ∨ c = 0 ∧ N = M ∨ c = 1 ∧ M < N)
theorem drop_step {a b : List Int} {k x y : Int} (hk : 0 ≤ k) (hx : a[k.toNat]? = some x) (hy : b[k.toNat]? = some y) (h : x = y) (hd : a.drop (k + 1).toNat = b.drop (k + 1).toNat) : a.drop (k - 1 + 1).toNat = b.drop (k - 1 + 1).toNat := by
 rw [show (k - 1 + 1).toNat = k.toNat by omega]
 rw [show (k + 1).toNat = k.toNat + 1 by omega] at hd
 have ha : k.toNat < a.length := by
  rcases Nat.lt_or_ge k.toNat a.length with h2 | h2
  ·exact h2
  ·rw [List.getElem?_eq_none h2] at hx; cases hx
 have hb : k.toNat < b.length := by
  rcases Nat.lt_or_ge k.toNat b.length with h2 | h2
  ·exact h2
  ·rw [List.getElem?_eq_none h2] at hy; cases hy
 rw [List.drop_eq_getElem_cons ha, List.drop_eq_getElem_cons hb, hd]
 rw [List.getElem?_eq_getElem ha] at hx
 rw [List.getElem?_eq_getElem hb] at hy
 rw [Option.some.inj hx, Option.some.inj hy, h]
theorem drop_cmp {a b : List Int} {k x y : Int} (ha : Lim a) (hb : Lim b) (hk : 0 ≤ k) (hx : a[k.toNat]? = some x) (hy : b[k.toNat]? = some y) (hd : a.drop (k + 1).toNat = b.drop (k + 1).toNat) (h : x < y) : vl a < vl b :=
 vl_cmp ha hb hx hy (by rw [show (k + 1).toNat = k.toNat + 1 by omega] at hd; exact hd) h
namespace QNc4
theorem fB2 (x : a) (g : q) (h : a → q → p := by (intro x g; exact n1 (j x (j h0 (j h1 (j h5 (j hv (j hlen (j gv (j glen hTT)))))))) g)) : p := h x g
theorem kN2 (h : p := by
 first
 |(refine next _ ?_ _ ⟨_, by (exact c1 (j h0 (j h1 (j h5 (j hv (j hlen (j gv glen))))))), by (exact c1 (j h0 (j h1 (j h5 (j hv (j hlen (j gv glen))))))), by (exact c1 (j h0 (j h1 (j h5 (j hv (j hlen (j gv glen))))))), by (first | exact wM | (rw [List.drop_of_length_le (by omega), List.drop_of_length_le (by omega)]; done) | exact drop_step (by omega) (by assumption) (by assumption) (by assumption) hq2), by (first | exact wM | (rw [List.drop_of_length_le (by omega), List.drop_of_length_le (by omega)]; done) | exact drop_step (by omega) (by assumption) (by assumption) (by assumption) hq2), by (first | exact wM | (rw [List.drop_of_length_le (by omega), List.drop_of_length_le (by omega)]; done) | exact drop_step (by omega) (by assumption) (by assumption) (by assumption) hq2), rfl⟩; (first | exact wM | (rw [List.drop_of_length_le (by omega), List.drop_of_length_le (by omega)]; done) | exact drop_step (by omega) (by assumption) (by assumption) (by assumption) hq2))
 |fail) : p := h
theorem kA2 (h : p := by
 first
 |(exact ⟨_, rfl, .inl ⟨rfl, drop_cmp hla hlb (by omega) (by assumption) (by assumption) hq2 (by omega)⟩⟩) <;> exact As2
 |(exact ⟨_, rfl, .inr (.inr ⟨rfl, drop_cmp hlb hla (by omega) (by assumption) (by assumption) hq2.symm (by omega)⟩)⟩) <;> exact As2
 |((have e : (k + 1).toNat = 0 := (by omega); rw [e] at hq2; simp only [List.drop_zero] at hq2; exact ⟨_, rfl, .inr (.inl ⟨rfl, by rw [hq2]⟩)⟩)) <;> exact As2
 |fail) : p := h
theorem kB2 (h : p := by
 first
 |((refine MIX_NVr hva (by assumption) (by omega) ?_; refine n1 (j h0 (j h1 (j h5 (j hv (j hlen (j gv glen)))))) ?_)) <;> exact As2
 |((refine MIX_NVr hvb (by assumption) (by omega) ?_; refine n1 (j h0 (j h1 (j h5 (j hv (j hlen (j gv glen)))))) ?_)) <;> exact As2
 |((refine MIX_NV hva (by omega) (by omega) (fun x hx => ?_); refine n1 (j h0 (j h1 (j h5 (j hv (j hlen (j gv glen)))))) ?_)) <;> exact As2
 |((refine MIX_NV hvb (by omega) (by omega) (fun y hy => ?_); refine n1 (j h0 (j h1 (j h5 (j hv (j hlen (j gv glen)))))) ?_)) <;> exact As2
 |fail) : p := h
end QNc4
namespace QNc3
theorem fB1 (x : a) (g : q) (h : a → q → p := by (intro x g; exact n1 (j x (j hv (j hd (j hlen (j gv (j gd (j glen hTT))))))) g)) : p := h x g
theorem kA1 (h : p := by
 first
 |(exact ⟨_, rfl, .inl ⟨rfl, vl_len hla hlb htb (by omega)⟩⟩) <;> exact As1
 |(exact ⟨_, rfl, .inr (.inr ⟨rfl, vl_len hlb hla hta (by omega)⟩)⟩) <;> exact As1
 |fail) : p := h
theorem kZ1 (h : p := by
 first
 |skip
  refine M_loop (fun m' s' => ∃ (k : Int), s'.t 0 = v ∧ s'.t 1 = u ∧ s'.t 5 = .int .i64 k ∧ (-1 ≤ k) ∧ (k < a.length) ∧ (a.drop (k + 1).toNat = b.drop (k + 1).toNat) ∧ m' = (k + 1).toNat) ?_ (n := _) ⟨_, by (exact c1 (j hv (j hlen (j gv glen)))), by (exact c1 (j hv (j hlen (j gv glen)))), by (exact c1 (j hv (j hlen (j gv glen)))), by (first | exact wM | (rw [List.drop_of_length_le (by omega), List.drop_of_length_le (by omega)]; done) | exact drop_step (by omega) (by assumption) (by assumption) (by assumption) hq2), by (first | exact wM | (rw [List.drop_of_length_le (by omega), List.drop_of_length_le (by omega)]; done) | exact drop_step (by omega) (by assumption) (by assumption) (by assumption) hq2), by (first | exact wM | (rw [List.drop_of_length_le (by omega), List.drop_of_length_le (by omega)]; done) | exact drop_step (by omega) (by assumption) (by assumption) (by assumption) hq2), rfl⟩
  rintro m' ⟨t, H, k⟩ ⟨k, h0, h1, h5, hq0, hq1, hq2, hm⟩ next
  simp only at h0 h1 h5
  refine n1 (j h0 (j h1 (j h5 (j hv (j hlen (j gv glen)))))) ?_
  open QNc4 in exact As2
  done
 |fail) : p := h
end QNc3
theorem n136 {N M : Int} {L L2 : Nat} {v u : PV} (h : NatV N L v) (g : NatV M L2 u) (hl : L ≤ 1099511627776) (hl2 : L2 ≤ 1099511627776) : Pure Tab X G 136 [v, u] (CmpR N M) := by
 obtain ⟨a, hva, hla, hta, rfl, hna⟩ := h
 obtain ⟨b, hvb, hlb, htb, rfl, hnb⟩ := g
 have hv := hva.sls
 have hd := hva.deep
 have hlen := hva.len
 have gv := hvb.sls
 have gd := hvb.deep
 have glen := hvb.len
 refine Fn_of T136 (by simp) ?_
 refine n1 (j hv (j hd (j hlen (j gv (j gd glen))))) ?_
 open QNc3 in exact As1
end
end Go.Pi
end
section
namespace Go.Pi
theorem pow2_lt {i j : Nat} (h : (2 : Int) ^ i < 2 ^ j) : i < j := by
 rcases Nat.lt_or_ge i j with h2 | h2
 ·exact h2
 ·exfalso
  obtain ⟨c, rfl⟩ : ∃ c, i = j + c := ⟨i - j, by omega⟩
  rw [Int.pow_add] at h
  have h1 : (0 : Int) < 2 ^ j := Int.pow_pos (by decide)
  have h3 : (0 : Int) < 2 ^ c := Int.pow_pos (by decide)
  have h4 : (2 : Int) ^ j * 1 ≤ 2 ^ j * 2 ^ c := Int.mul_le_mul_of_nonneg_left (by omega) (by omega)
  omega
theorem bits_step {n x top : Int} (hn : 0 ≤ n) (hx : 0 < x) (h1 : 2 ^ n.toNat * x ≤ top) (h2 : top < 2 ^ n.toNat * (x + 1)) (ht : top < 4294967296) :
  2 ^ (n + 1).toNat * (x / 2) ≤ top ∧ top < 2 ^ (n + 1).toNat * (x / 2 + 1) ∧ 2 ^ (n + 1 - 1).toNat ≤ top ∧ n + 1 ≤ 32 := by
 have e : (n + 1).toNat = n.toNat + 1 := by omega
 have e2 : (n + 1 - 1).toNat = n.toNat := by omega
 have hp : (0 : Int) < 2 ^ n.toNat := Int.pow_pos (by decide)
 have h3 : (2 : Int) ^ n.toNat * 1 ≤ 2 ^ n.toNat * x := Int.mul_le_mul_of_nonneg_left (by omega) (by omega)
 have h4 : (2 : Int) ^ n.toNat < 2 ^ 32 := by
  have : (2 : Int) ^ 32 = 4294967296 := by decide
  omega
 have h5 := pow2_lt h4
 rw [e, e2, Int.pow_succ]
 have h6 : (2 : Int) ^ n.toNat * (2 * (x / 2)) ≤ 2 ^ n.toNat * x := Int.mul_le_mul_of_nonneg_left (by omega) (by omega)
 have h7 : (2 : Int) ^ n.toNat * (x + 1) ≤ 2 ^ n.toNat * (2 * (x / 2 + 1)) := Int.mul_le_mul_of_nonneg_left (by omega) (by omega)
 have e3 : (2 : Int) ^ n.toNat * 2 * (x / 2) = 2 ^ n.toNat * (2 * (x / 2)) := by rw [Int.mul_assoc]
 have e4 : (2 : Int) ^ n.toNat * 2 * (x / 2 + 1) = 2 ^ n.toNat * (2 * (x / 2 + 1)) := by rw [Int.mul_assoc]
 rw [e3, e4]
 refine ⟨by omega, by omega, by omega, by omega⟩
theorem pow_32 (k : Nat) : (4294967296 : Int) ^ k = 2 ^ (32 * k) := by
 rw [Int.pow_mul]
 rfl
theorem bits_end {a : List Int} (ha : Lim a) {n top : Int} (hne : a ≠ []) (htop : a[((a.length : Int) - 1).toNat]? = some top) (hn : 1 ≤ n) (h2 : top < 2 ^ n.toNat) (h3 : 2 ^ (n - 1).toNat ≤ top) :
  vl a < 2 ^ (32 * ((a.length : Int) - 1) + n).toNat ∧ 2 ^ (32 * ((a.length : Int) - 1) + n - 1).toNat ≤ vl a := by
 have hl : 0 < a.length := List.length_pos_iff.2 hne
 obtain ⟨m, hm⟩ : ∃ m, a.length = m + 1 := ⟨a.length - 1, by omega⟩
 have e1 : ((a.length : Int) - 1).toNat = m := by omega
 rw [e1] at htop
 have e2 := vl_take htop
 rw [List.take_of_length_le (by omega)] at e2
 have h4 := vl_lt (ha.take m)
 have h5 := vl_nonneg (ha.take m)
 have h6 : (a.take m).length = m := by rw [List.length_take]; omega
 rw [h6] at h4
 have e3 : (32 * ((a.length : Int) - 1) + n).toNat = 32 * m + n.toNat := by omega
 have e4 : (32 * ((a.length : Int) - 1) + n - 1).toNat = 32 * m + (n - 1).toNat := by omega
 rw [e2, e3, e4, Int.pow_add, Int.pow_add, ← pow_32]
 have hp := pow_pos' m
 have h7 : (4294967296 : Int) ^ m * (top + 1) ≤ 4294967296 ^ m * 2 ^ n.toNat := Int.mul_le_mul_of_nonneg_left (by omega) (by omega)
 have h8 : (4294967296 : Int) ^ m * 2 ^ (n - 1).toNat ≤ 4294967296 ^ m * top := Int.mul_le_mul_of_nonneg_left (by omega) (by omega)
 rw [Int.mul_add, Int.mul_one] at h7
 omega
theorem step_shift {a out : List Int} {i x c : Int} {q r : Nat} (hx : a[i.toNat]? = some x) (hi : 0 ≤ i) (hl : out.length = q + i.toNat) (h : vl out + 4294967296 ^ (q + i.toNat) * c = vl (a.take i.toNat) * 2 ^ r * 4294967296 ^ q) :
  vl (out ++ [(x * 2 ^ r + c) % 4294967296]) + 4294967296 ^ (q + (i + 1).toNat) * ((x * 2 ^ r + c) / 4294967296) = vl (a.take (i + 1).toNat) * 2 ^ r * 4294967296 ^ q := by
 have e : (i + 1).toNat = i.toNat + 1 := by omega
 rw [vl_snoc, hl, e, vl_take hx, ← Nat.add_assoc, Int.pow_succ, Int.pow_add] at *
 have h2 := Int.mul_ediv_add_emod (x * 2 ^ r + c) 4294967296
 generalize (x * 2 ^ r + c) % 4294967296 = y at *
 generalize (x * 2 ^ r + c) / 4294967296 = z at *
 generalize (4294967296 : Int) ^ i.toNat = p at *
 generalize (4294967296 : Int) ^ q = p2 at *
 generalize (2 : Int) ^ r = p3 at *
 grind
theorem shift_bd {x c : Int} {r : Nat} (h0 : 0 ≤ x) (h1 : x < 4294967296) (hc0 : 0 ≤ c) (hc1 : c < 2 ^ r) (hr : r < 32) : 0 ≤ x * 2 ^ r ∧ x * 2 ^ r + c < 18446744073709551616 ∧ 0 ≤ (x * 2 ^ r + c) / 4294967296 ∧ (x * 2 ^ r + c) / 4294967296 < 2 ^ r := by
 have hp : (0 : Int) < 2 ^ r := Int.pow_pos (by decide)
 have h3 : 0 ≤ x * 2 ^ r := Int.mul_nonneg h0 (by omega)
 have h4 : x * 2 ^ r ≤ 4294967295 * 2 ^ r := Int.mul_le_mul_of_nonneg_right (by omega) (by omega)
 have h5 : (2 : Int) ^ r ≤ 2 ^ 31 := by
  obtain ⟨k, hk⟩ : ∃ k, 31 = r + k := ⟨31 - r, by omega⟩
  rw [hk, Int.pow_add]
  have h6 : (0 : Int) < 2 ^ k := Int.pow_pos (by decide)
  have h7 : (2 : Int) ^ r * 1 ≤ 2 ^ r * 2 ^ k := Int.mul_le_mul_of_nonneg_left (by omega) (by omega)
  omega
 have h8 : (2 : Int) ^ 31 = 2147483648 := by decide
 generalize (2 : Int) ^ r = p at *
 refine ⟨h3, by omega, by omega, ?_⟩
 have : x * p + c < 4294967296 * p := by omega
 omega
theorem shift_end {n : Int} (h : 0 ≤ n) (N : Int) : N * 2 ^ (n % 32).toNat * 4294967296 ^ (n / 32).toNat = N * 2 ^ n.toNat := by
 rw [pow_32, Int.mul_assoc, ← Int.pow_add]
 congr 2
 omega
theorem lims_zeros (q : Nat) : (lims (List.replicate q 0)).flatten = (List.replicate q [PV.int .u64 0]).flatten := by
 simp [lims]
theorem Grow.zeros {H : Heap} {id st q : Nat} {A : List Nat} (hA : id ∈ A) (hH : H id = some ⟨43, st, (List.replicate q [PV.int .u64 0]).flatten, 1⟩) : Grow A H 43 1 (.row id st q) (lims (List.replicate q 0)) :=
 ⟨fun y hy => by
  simp only [lims, List.map_replicate, List.mem_replicate] at hy
  obtain ⟨_, rfl⟩ := hy
  exact ⟨rfl, rfl⟩, .inr ⟨id, st, hA, by simp [lims], by rw [lims_zeros]; exact hH⟩⟩
theorem Lim.zeros (q : Nat) : Lim (List.replicate q 0) := fun x hx => by
 simp only [List.mem_replicate] at hx
 omega
theorem sub_step {a b out : List Int} {i x y c c' d : Int} (hx : a[i.toNat]? = some x) (hy : vl (b.take (i + 1).toNat) = vl (b.take i.toNat) + 4294967296 ^ i.toNat * y) (hi : 0 ≤ i) (hl : out.length = i.toNat)
  (h : vl out = vl (a.take i.toNat) - vl (b.take i.toNat) + c * 4294967296 ^ i.toNat) (hd : d = x - (c + y) + c' * 4294967296) :
  vl (out ++ [d]) = vl (a.take (i + 1).toNat) - vl (b.take (i + 1).toNat) + c' * 4294967296 ^ (i + 1).toNat := by
 have e : (i + 1).toNat = i.toNat + 1 := by omega
 rw [hy, vl_snoc, hl, e, vl_take hx, Int.pow_succ, hd, h]
 generalize (4294967296 : Int) ^ i.toNat = p at *
 grind
theorem take_y {b : List Int} {i y : Int} (hi : 0 ≤ i) (hy : b[i.toNat]? = some y) : vl (b.take (i + 1).toNat) = vl (b.take i.toNat) + 4294967296 ^ i.toNat * y := by
 rw [show (i + 1).toNat = i.toNat + 1 by omega, vl_take hy]
theorem take_n {b : List Int} {i : Int} (hi : (b.length : Int) ≤ i) : vl (b.take (i + 1).toNat) = vl (b.take i.toNat) + 4294967296 ^ i.toNat * 0 := by
 rw [List.take_of_length_le (by omega), List.take_of_length_le (by omega)]; omega
theorem sub_end {a b out : List Int} {c : Int} (ha : Lim a) (hb : Lim b) (ht : Top b) (hle : vl b ≤ vl a) (ho : Lim out) (hl : out.length = a.length) (hc : c = 0 ∨ c = 1) (h : vl out = vl a - vl (b.take a.length) + c * 4294967296 ^ a.length) : vl out = vl a - vl b := by
 have hlen : b.length ≤ a.length := by
  rcases Nat.lt_or_ge a.length b.length with h2 | h2
  ·have := vl_len ha hb ht h2; omega
  ·exact h2
 rw [List.take_of_length_le hlen] at h
 have h3 := vl_lt ho
 rw [hl] at h3
 rcases hc with rfl | rfl
 ·omega
 ·omega
theorem div_bd {N M A q p : Int} (h : N = q * p * M + A) (hA : 0 ≤ A) (hM : 0 < M) (hp : 0 < p) (hq : 0 ≤ q) : q ≤ N / M := by
 rw [Int.le_ediv_iff_mul_le hM]
 have h1 : q * M * 1 ≤ q * M * p := Int.mul_le_mul_of_nonneg_left (by omega) (Int.mul_nonneg hq (Int.le_of_lt hM))
 have h2 : q * p * M = q * M * p := by grind
 omega
theorem div_dbl {N M A q n : Int} (hn : 0 ≤ n) (h : N = q * 2 ^ (n + 1).toNat * M + A) : N = q * 2 * 2 ^ n.toNat * M + A := by
 rw [h, show (n + 1).toNat = n.toNat + 1 by omega, Int.pow_succ]; grind
theorem div_ge {N M A q n : Int} (hn : 0 ≤ n) (h : N = q * 2 ^ (n + 1).toNat * M + A) : N = (q * 2 + 1) * 2 ^ (n - 1 + 1).toNat * M + (A - M * 2 ^ n.toNat) := by
 rw [div_dbl hn h, show (n - 1 + 1).toNat = n.toNat by omega]; grind
theorem div_lt {N M A q n : Int} (hn : 0 ≤ n) (h : N = q * 2 ^ (n + 1).toNat * M + A) : N = q * 2 * 2 ^ (n - 1 + 1).toNat * M + A := by
 rw [div_dbl hn h, show (n - 1 + 1).toNat = n.toNat by omega]
theorem rem_ge {M A n : Int} (hn : 0 ≤ n) (h : A < 2 ^ (n + 1).toNat * M) : A - M * 2 ^ n.toNat < 2 ^ (n - 1 + 1).toNat * M := by
 rw [show (n + 1).toNat = n.toNat + 1 by omega, Int.pow_succ] at h
 rw [show (n - 1 + 1).toNat = n.toNat by omega]
 have e : (2 : Int) ^ n.toNat * 2 * M = 2 * (2 ^ n.toNat * M) := by grind
 have e2 : M * 2 ^ n.toNat = 2 ^ n.toNat * M := Int.mul_comm _ _
 omega
theorem rem_lt {M A n : Int} (hn : 0 ≤ n) (h : A < M * 2 ^ n.toNat) : A < 2 ^ (n - 1 + 1).toNat * M := by
 rw [show (n - 1 + 1).toNat = n.toNat by omega, Int.mul_comm]; exact h
theorem div_init {N M n m : Int} (hN0 : 0 ≤ N) (hM : 0 < M) (hn : 0 ≤ n) (h1 : N < 2 ^ n.toNat) (hm : 1 ≤ m) (h2 : 2 ^ (m - 1).toNat ≤ M) : N < 2 ^ (n - m + 1).toNat * M := by
 rcases Int.lt_or_le (n - m + 1) 0 with h | h
 ·rw [show (n - m + 1).toNat = 0 by omega]
  obtain ⟨k, hk⟩ : ∃ k, (m - 1).toNat = n.toNat + k := ⟨(m - 1).toNat - n.toNat, by omega⟩
  rw [hk, Int.pow_add] at h2
  have h6 : (0 : Int) < 2 ^ k := Int.pow_pos (by decide)
  have h7 : (2 : Int) ^ n.toNat * 1 ≤ 2 ^ n.toNat * 2 ^ k := Int.mul_le_mul_of_nonneg_left (by omega) (Int.le_of_lt (Int.pow_pos (by decide)))
  omega
 ·have e : n.toNat = (n - m + 1).toNat + (m - 1).toNat := by omega
  rw [e, Int.pow_add] at h1
  have h7 : (2 : Int) ^ (n - m + 1).toNat * 2 ^ (m - 1).toNat ≤ 2 ^ (n - m + 1).toNat * M := Int.mul_le_mul_of_nonneg_left h2 (Int.le_of_lt (Int.pow_pos (by decide)))
  omega
theorem div_fin {N M A q n : Int} (hn : ¬n ≥ 0) (h : N = q * 2 ^ (n + 1).toNat * M + A) (h0 : 0 ≤ A) (h1 : A < 2 ^ (n + 1).toNat * M) : q = N / M ∧ A = N % M := by
 rw [show (n + 1).toNat = 0 by omega] at h h1
 have hM : 0 < M := by omega
 have e : N = A + M * q := by rw [h]; grind
 have h2 : A < M := by omega
 constructor
 ·rw [e, Int.add_mul_ediv_left _ _ (by omega), Int.ediv_eq_zero_of_lt h0 h2]; omega
 ·rw [e, Int.add_mul_emod_self_left, Int.emod_eq_of_lt h0 h2]
end Go.Pi
end
section
open Go Go.Pi
namespace Go.Pi
variable {p q a : Prop}
set_option maxRecDepth 100000
set_option maxHeartbeats 0
section
variable {X : CallF} {G : Nat → PV}
def BitsR (N : Int) (L : Nat) (r : PV) : Prop := ∃ n, r = .int .i64 n ∧ 0 ≤ n ∧ n ≤ 32 * L ∧ N < 2 ^ n.toNat ∧ (0 < N → 1 ≤ n ∧ 2 ^ (n - 1).toNat ≤ N)
theorem bits_fin {a : List Int} {L : Nat} (ha : Lim a) {n top x : Int} (hne : a ≠ []) (hL : a.length ≤ L) (htop : a[((a.length : Int) - 1).toNat]? = some top) (h0 : ¬top = 0) (hx0 : 0 ≤ x) (hx : ¬x > 0) (hn : 0 ≤ n) (hn2 : n ≤ 32) (h2 : top < 2 ^ n.toNat * (x + 1)) (h3 : 1 ≤ n → 2 ^ (n - 1).toNat ≤ top) :
  BitsR (vl a) L (.int .i64 (32 * ((a.length : Int) - 1) + n)) := by
 obtain ⟨t0, t1⟩ := ha.get htop
 have hx' : x = 0 := by omega
 subst hx'
 have h2' : top < 2 ^ n.toNat := by omega
 have hn1 : 1 ≤ n := by
  rcases Int.lt_or_le n 1 with h | h
  ·have : n = 0 := by omega
   subst this
   simp at h2'
   omega
  ·exact h
 obtain ⟨e1, e2⟩ := bits_end ha hne htop hn1 h2' (h3 hn1)
 have hl : 0 < a.length := List.length_pos_iff.2 hne
 exact ⟨_, rfl, by omega, by omega, e1, fun _ => ⟨by omega, e2⟩⟩
namespace QNe2
theorem fB2 (x : a) (g : q) (h : a → q → p := by (intro x g; exact n1 (j x (j h0 (j h3 (j h4 (j hv (j hlen hTT)))))) g)) : p := h x g
theorem kN2 (h : p := by
 first
 |(refine next _ ?_ _ ⟨_, _, by (exact c1 (j h0 (j h3 (j h4 (j hv hlen))))), by (exact c1 (j h0 (j h3 (j h4 (j hv hlen))))), by (exact c1 (j h0 (j h3 (j h4 (j hv hlen))))), by (first | exact wM | (simp; done) | (simp; omega) | (intro h; omega) | exact (bits_step hq0 (by omega) hq4 hq5 hx1).1 | exact (bits_step hq0 (by omega) hq4 hq5 hx1).2.1 | exact fun _ => (bits_step hq0 (by omega) hq4 hq5 hx1).2.2.1 | exact (bits_step hq0 (by omega) hq4 hq5 hx1).2.2.2), by (first | exact wM | (simp; done) | (simp; omega) | (intro h; omega) | exact (bits_step hq0 (by omega) hq4 hq5 hx1).1 | exact (bits_step hq0 (by omega) hq4 hq5 hx1).2.1 | exact fun _ => (bits_step hq0 (by omega) hq4 hq5 hx1).2.2.1 | exact (bits_step hq0 (by omega) hq4 hq5 hx1).2.2.2), by (first | exact wM | (simp; done) | (simp; omega) | (intro h; omega) | exact (bits_step hq0 (by omega) hq4 hq5 hx1).1 | exact (bits_step hq0 (by omega) hq4 hq5 hx1).2.1 | exact fun _ => (bits_step hq0 (by omega) hq4 hq5 hx1).2.2.1 | exact (bits_step hq0 (by omega) hq4 hq5 hx1).2.2.2), by (first | exact wM | (simp; done) | (simp; omega) | (intro h; omega) | exact (bits_step hq0 (by omega) hq4 hq5 hx1).1 | exact (bits_step hq0 (by omega) hq4 hq5 hx1).2.1 | exact fun _ => (bits_step hq0 (by omega) hq4 hq5 hx1).2.2.1 | exact (bits_step hq0 (by omega) hq4 hq5 hx1).2.2.2), by (first | exact wM | (simp; done) | (simp; omega) | (intro h; omega) | exact (bits_step hq0 (by omega) hq4 hq5 hx1).1 | exact (bits_step hq0 (by omega) hq4 hq5 hx1).2.1 | exact fun _ => (bits_step hq0 (by omega) hq4 hq5 hx1).2.2.1 | exact (bits_step hq0 (by omega) hq4 hq5 hx1).2.2.2), by (first | exact wM | (simp; done) | (simp; omega) | (intro h; omega) | exact (bits_step hq0 (by omega) hq4 hq5 hx1).1 | exact (bits_step hq0 (by omega) hq4 hq5 hx1).2.1 | exact fun _ => (bits_step hq0 (by omega) hq4 hq5 hx1).2.2.1 | exact (bits_step hq0 (by omega) hq4 hq5 hx1).2.2.2), by (first | exact wM | (simp; done) | (simp; omega) | (intro h; omega) | exact (bits_step hq0 (by omega) hq4 hq5 hx1).1 | exact (bits_step hq0 (by omega) hq4 hq5 hx1).2.1 | exact fun _ => (bits_step hq0 (by omega) hq4 hq5 hx1).2.2.1 | exact (bits_step hq0 (by omega) hq4 hq5 hx1).2.2.2), rfl⟩; (first | exact wM | (simp; done) | (simp; omega) | (intro h; omega) | exact (bits_step hq0 (by omega) hq4 hq5 hx1).1 | exact (bits_step hq0 (by omega) hq4 hq5 hx1).2.1 | exact fun _ => (bits_step hq0 (by omega) hq4 hq5 hx1).2.2.1 | exact (bits_step hq0 (by omega) hq4 hq5 hx1).2.2.2))
 |fail) : p := h
theorem kA2 (h : p := by
 first
 |(exact bits_fin hla hne hna hx hxn hq2 (by omega) hq0 hq1 hq5 hq6) <;> exact As2
 |fail) : p := h
end QNe2
namespace QNe1
theorem fB1 (x : a) (g : q) (h : a → q → p := by (intro x g; exact n1 (j x (j hv (j hd (j hlen hTT)))) g)) : p := h x g
theorem kA1 (h : p := by
 first
 |((have e : a = [] := List.eq_nil_of_length_eq_zero (by omega); subst e; exact ⟨0, rfl, by omega, by omega, by simp [vl], by simp [vl]⟩)) <;> exact As1
 |fail) : p := h
theorem kB1 (h : p := by
 first
 |((refine MIX_NV hva (by omega) (by omega) (fun x hx => ?_); refine n1 (j hv (j hd hlen)) ?_)) <;> exact As1
 |fail) : p := h
theorem kZ1 (h : p := by
 first
 |skip
  have hne : a ≠ [] := fun e => by subst e; simp at *
  obtain ⟨hx0, hx1⟩ := hla.get hx
  have hxn : ¬x = 0 := hta x (by rw [List.getLast?_eq_getElem?]; rw [show ((a.length : Int) - 1).toNat = a.length - 1 by omega] at hx; exact hx)
  refine M_loop (fun m' s' => ∃ (n y : Int), s'.t 0 = v ∧ s'.t 3 = .int .i64 n ∧ s'.t 4 = .int .u64 y ∧ (0 ≤ n) ∧ (n ≤ 32) ∧ (0 ≤ y) ∧ (y ≤ x) ∧ (2 ^ n.toNat * y ≤ x) ∧ (x < 2 ^ n.toNat * (y + 1)) ∧ (1 ≤ n → 2 ^ (n - 1).toNat ≤ x) ∧ m' = y.toNat) ?_ (n := _) ⟨_, _, by (exact c1 (j hv hlen)), by (exact c1 (j hv hlen)), by (exact c1 (j hv hlen)), by (first | exact wM | (simp; done) | (simp; omega) | (intro h; omega) | exact (bits_step hq0 (by omega) hq4 hq5 hx1).1 | exact (bits_step hq0 (by omega) hq4 hq5 hx1).2.1 | exact fun _ => (bits_step hq0 (by omega) hq4 hq5 hx1).2.2.1 | exact (bits_step hq0 (by omega) hq4 hq5 hx1).2.2.2), by (first | exact wM | (simp; done) | (simp; omega) | (intro h; omega) | exact (bits_step hq0 (by omega) hq4 hq5 hx1).1 | exact (bits_step hq0 (by omega) hq4 hq5 hx1).2.1 | exact fun _ => (bits_step hq0 (by omega) hq4 hq5 hx1).2.2.1 | exact (bits_step hq0 (by omega) hq4 hq5 hx1).2.2.2), by (first | exact wM | (simp; done) | (simp; omega) | (intro h; omega) | exact (bits_step hq0 (by omega) hq4 hq5 hx1).1 | exact (bits_step hq0 (by omega) hq4 hq5 hx1).2.1 | exact fun _ => (bits_step hq0 (by omega) hq4 hq5 hx1).2.2.1 | exact (bits_step hq0 (by omega) hq4 hq5 hx1).2.2.2), by (first | exact wM | (simp; done) | (simp; omega) | (intro h; omega) | exact (bits_step hq0 (by omega) hq4 hq5 hx1).1 | exact (bits_step hq0 (by omega) hq4 hq5 hx1).2.1 | exact fun _ => (bits_step hq0 (by omega) hq4 hq5 hx1).2.2.1 | exact (bits_step hq0 (by omega) hq4 hq5 hx1).2.2.2), by (first | exact wM | (simp; done) | (simp; omega) | (intro h; omega) | exact (bits_step hq0 (by omega) hq4 hq5 hx1).1 | exact (bits_step hq0 (by omega) hq4 hq5 hx1).2.1 | exact fun _ => (bits_step hq0 (by omega) hq4 hq5 hx1).2.2.1 | exact (bits_step hq0 (by omega) hq4 hq5 hx1).2.2.2), by (first | exact wM | (simp; done) | (simp; omega) | (intro h; omega) | exact (bits_step hq0 (by omega) hq4 hq5 hx1).1 | exact (bits_step hq0 (by omega) hq4 hq5 hx1).2.1 | exact fun _ => (bits_step hq0 (by omega) hq4 hq5 hx1).2.2.1 | exact (bits_step hq0 (by omega) hq4 hq5 hx1).2.2.2), by (first | exact wM | (simp; done) | (simp; omega) | (intro h; omega) | exact (bits_step hq0 (by omega) hq4 hq5 hx1).1 | exact (bits_step hq0 (by omega) hq4 hq5 hx1).2.1 | exact fun _ => (bits_step hq0 (by omega) hq4 hq5 hx1).2.2.1 | exact (bits_step hq0 (by omega) hq4 hq5 hx1).2.2.2), rfl⟩
  rintro m' ⟨t, H, k⟩ ⟨n, y, h0, h3, h4, hq0, hq1, hq2, hq3, hq4, hq5, hq6, hm⟩ next
  simp only at h0 h3 h4
  refine n1 (j h0 (j h3 (j h4 (j hv hlen)))) ?_
  open QNe2 in exact As2
  done
 |fail) : p := h
end QNe1
theorem n160 {N : Int} {L : Nat} {v : PV} (h : NatV N L v) (hl : L ≤ 1073741824) : Pure Tab X G 160 [v] (BitsR N L) := by
 obtain ⟨a, hva, hla, hta, rfl, hna⟩ := h
 have hv := hva.sls
 have hd := hva.deep
 have hlen := hva.len
 refine Fn_of T160 (by simp) ?_
 refine n1 (j hv (j hd hlen)) ?_
 open QNe1 in exact As1
namespace QNe5
theorem fB3 (x : a) (g : q) (h : a → q → p := by (intro x g; exact n1 (j x (j h0 (j h1 (j h5 (j h6 (j h7 (j hv (j hlen hTT)))))))) g)) : p := h x g
theorem kN3 (h : p := by
 first
 |(refine next _ ?_ _ ⟨_, _, _, _, by (exact c1 (j h0 (j h1 (j h5 (j h6 (j h7 (j hv hlen))))))), by (exact c1 (j h0 (j h1 (j h5 (j h6 (j h7 (j hv hlen))))))), by (exact c1 (j h0 (j h1 (j h5 (j h6 (j h7 (j hv hlen))))))), by (exact c1 (j h0 (j h1 (j h5 (j h6 (j h7 (j hv hlen))))))), by (exact c1 (j h0 (j h1 (j h5 (j h6 (j h7 (j hv hlen))))))), by (first | exact wM | exact Grow.zeros (by simp) (c0) | exact Lim.zeros _ | exact Int.pow_pos (by decide) | (simp; done) | (rw [vl_zeros]; simp [vl]; done) | exact hq5.snoc (by omega) (by omega) | (simp only [List.length_append, List.length_cons, List.length_nil]; omega) | exact step_shift hx hq1 hq6 hq7 | assumption), by (first | exact wM | exact Grow.zeros (by simp) (c0) | exact Lim.zeros _ | exact Int.pow_pos (by decide) | (simp; done) | (rw [vl_zeros]; simp [vl]; done) | exact hq5.snoc (by omega) (by omega) | (simp only [List.length_append, List.length_cons, List.length_nil]; omega) | exact step_shift hx hq1 hq6 hq7 | assumption), by (first | exact wM | exact Grow.zeros (by simp) (c0) | exact Lim.zeros _ | exact Int.pow_pos (by decide) | (simp; done) | (rw [vl_zeros]; simp [vl]; done) | exact hq5.snoc (by omega) (by omega) | (simp only [List.length_append, List.length_cons, List.length_nil]; omega) | exact step_shift hx hq1 hq6 hq7 | assumption), by (first | exact wM | exact Grow.zeros (by simp) (c0) | exact Lim.zeros _ | exact Int.pow_pos (by decide) | (simp; done) | (rw [vl_zeros]; simp [vl]; done) | exact hq5.snoc (by omega) (by omega) | (simp only [List.length_append, List.length_cons, List.length_nil]; omega) | exact step_shift hx hq1 hq6 hq7 | assumption), by (first | exact wM | exact Grow.zeros (by simp) (c0) | exact Lim.zeros _ | exact Int.pow_pos (by decide) | (simp; done) | (rw [vl_zeros]; simp [vl]; done) | exact hq5.snoc (by omega) (by omega) | (simp only [List.length_append, List.length_cons, List.length_nil]; omega) | exact step_shift hx hq1 hq6 hq7 | assumption), by (first | exact wM | exact Grow.zeros (by simp) (c0) | exact Lim.zeros _ | exact Int.pow_pos (by decide) | (simp; done) | (rw [vl_zeros]; simp [vl]; done) | exact hq5.snoc (by omega) (by omega) | (simp only [List.length_append, List.length_cons, List.length_nil]; omega) | exact step_shift hx hq1 hq6 hq7 | assumption), by (first | exact wM | exact Grow.zeros (by simp) (c0) | exact Lim.zeros _ | exact Int.pow_pos (by decide) | (simp; done) | (rw [vl_zeros]; simp [vl]; done) | exact hq5.snoc (by omega) (by omega) | (simp only [List.length_append, List.length_cons, List.length_nil]; omega) | exact step_shift hx hq1 hq6 hq7 | assumption), by (first | exact wM | exact Grow.zeros (by simp) (c0) | exact Lim.zeros _ | exact Int.pow_pos (by decide) | (simp; done) | (rw [vl_zeros]; simp [vl]; done) | exact hq5.snoc (by omega) (by omega) | (simp only [List.length_append, List.length_cons, List.length_nil]; omega) | exact step_shift hx hq1 hq6 hq7 | assumption), rfl⟩; (first | exact wM | exact Grow.zeros (by simp) (c0) | exact Lim.zeros _ | exact Int.pow_pos (by decide) | (simp; done) | (rw [vl_zeros]; simp [vl]; done) | exact hq5.snoc (by omega) (by omega) | (simp only [List.length_append, List.length_cons, List.length_nil]; omega) | exact step_shift hx hq1 hq6 hq7 | assumption))
 |fail) : p := h
end QNe5
namespace QNe4
theorem fB2 (x : a) (g : q) (h : a → q → p := by (intro x g; exact n1 (j x (j h0 (j h1 (j h5 (j h6 (j h7 (j hv (j hlen hTT)))))))) g)) : p := h x g
theorem kB2 (h : p := by
 first
 |((refine MIX_NV hva (by omega) (by omega) (fun x hx => ?_); refine n1 (j h0 (j h1 (j h5 (j h6 (j h7 (j hv hlen)))))) ?_)) <;> exact As2
 |fail) : p := h
theorem y2_0 (h : p := by
 first
 |skip
  obtain ⟨hx0, hx1⟩ := hla.get hx
  obtain ⟨hb1, hb2, hb3, hb4⟩ := shift_bd hx0 hx1 hq3 hq4 (by omega : (n % 32).toNat < 32)
  rw [wrap_u64 (n := x * 2 ^ (n % 32).toNat) hb1 (by omega), or_low hx0 hq3 hq4 hb2]
  simp (disch := omega) only [and_low]
  refine M_appN (A := [1003, 7005]) (rid := 7004) (x0 := (x * 2 ^ (n % 32).toNat + c) % 4294967296) (c1 (j h0 (j h1 (j h5 (j h6 (j h7 (j hv hlen))))))) (c1 (j h0 (j h1 (j h5 (j h6 (j h7 (j hv hlen))))))) (by refine n1 (j h0 (j h1 (j h5 (j h6 (j h7 (j hv hlen)))))) ?_; exact hq0.frame (by intro b hb; simp only [List.mem_cons, List.not_mem_nil, or_false] at hb; rcases hb with rfl | rfl <;> exact c0)) (by simp) (by simp) (by omega) ?_
  intro v' H' tr' hgr hf htr
  have := htr rfl
  subst this
  refine n1 (j h0 (j h1 (j h5 (j h6 (j h7 (j hv hlen)))))) ?_
  open QNe5 in exact As3
  done
 |fail) : p := h
theorem y2_1 (h : p := by
 first
 |skip
  refine M_appN (A := [1003, 7005, 9004]) (rid := 9003) (x0 := c) (c1 (j h0 (j h1 (j h5 (j h6 (j h7 (j hv hlen))))))) (c1 (j h0 (j h1 (j h5 (j h6 (j h7 (j hv hlen))))))) (by refine n1 (j h0 (j h1 (j h5 (j h6 (j h7 (j hv hlen)))))) ?_; exact (hq0.frame (by intro b hb; simp only [List.mem_cons, List.not_mem_nil, or_false] at hb; rcases hb with rfl | rfl <;> exact c0)).sub (by simp)) (by simp) (by simp) (by omega) ?_
  intro v' H' tr' hgr hf htr
  have := htr rfl
  subst this
  refine n1 (j h0 (j h1 (j h5 (j h6 (j h7 (j hv hlen)))))) ?_
  have hc9 : c < 4294967296 := by
   have : (2 : Int) ^ (n % 32).toNat ≤ 2 ^ 32 := by
    obtain ⟨k, hk⟩ : ∃ k, 32 = (n % 32).toNat + k := ⟨32 - (n % 32).toNat, by omega⟩
    have h6 : (0 : Int) < 2 ^ k := Int.pow_pos (by decide)
    have h7 : (2 : Int) ^ (n % 32).toNat * 1 ≤ 2 ^ (n % 32).toNat * 2 ^ k := Int.mul_le_mul_of_nonneg_left (by omega) (Int.le_of_lt (Int.pow_pos (by decide)))
    rw [← Int.pow_add, ← hk] at h7
    omega
   have h9 : (2 : Int) ^ 32 = 4294967296 := by decide
   omega
  refine MC_grow hgr (n105 hgr.nv (hq5.snoc hq3 hc9) (by simp; omega)) (fun r hr => ?_)
  have hrd := hr.deep
  refine n1 (j h0 (j h1 (j h5 (j h6 (j h7 (j hv (j hlen hrd))))))) ?_
  have e : vl (out ++ [c]) = vl a * 2 ^ n.toNat := by
   rw [vl_snoc, hq6, hq7, vl_take_all (by omega), shift_end hn0]
  rw [e] at hr
  exact hr.mono (by simp; omega)
  done
 |fail) : p := h
theorem kZ2 (h : p := by
 first
 |skip
  all_goals first
  |exact y2_0
  |exact y2_1
  |fail
  done
 |fail) : p := h
end QNe4
namespace QNe3
theorem fB1 (x : a) (g : q) (h : a → q → p := by (intro x g; exact n1 (j x (j hv (j hd (j hlen hTT)))) g)) : p := h x g
theorem kZ1 (h : p := by
 first
 |skip
  refine M_loop (fun m' s' => ∃ (i c : Int) (out : List Int) (g : PV), s'.t 0 = v ∧ s'.t 1 = .int .i64 n ∧ s'.t 5 = g ∧ s'.t 6 = .int .u64 c ∧ s'.t 7 = .int .i64 i ∧ (Grow [1003, 7005] s'.H 43 1 g (lims out)) ∧ (0 ≤ i) ∧ (i ≤ a.length) ∧ (0 ≤ c) ∧ (c < 2 ^ (n % 32).toNat) ∧ (Lim out) ∧ (out.length = (n / 32).toNat + i.toNat) ∧ (vl out + 4294967296 ^ ((n / 32).toNat + i.toNat) * c = vl (a.take i.toNat) * 2 ^ (n % 32).toNat * 4294967296 ^ (n / 32).toNat) ∧ m' = (a.length - i).toNat) ?_ (n := _) ⟨0, 0, List.replicate (n / 32).toNat 0, _, by (exact c1 (j hv hlen)), by (exact c1 (j hv hlen)), by (exact c1 (j hv hlen)), by (exact c1 (j hv hlen)), by (exact c1 (j hv hlen)), by (first | exact wM | exact Grow.zeros (by simp) (c0) | exact Lim.zeros _ | exact Int.pow_pos (by decide) | (simp; done) | (rw [vl_zeros]; simp [vl]; done) | exact hq5.snoc (by omega) (by omega) | (simp only [List.length_append, List.length_cons, List.length_nil]; omega) | exact step_shift hx hq1 hq6 hq7 | assumption), by (first | exact wM | exact Grow.zeros (by simp) (c0) | exact Lim.zeros _ | exact Int.pow_pos (by decide) | (simp; done) | (rw [vl_zeros]; simp [vl]; done) | exact hq5.snoc (by omega) (by omega) | (simp only [List.length_append, List.length_cons, List.length_nil]; omega) | exact step_shift hx hq1 hq6 hq7 | assumption), by (first | exact wM | exact Grow.zeros (by simp) (c0) | exact Lim.zeros _ | exact Int.pow_pos (by decide) | (simp; done) | (rw [vl_zeros]; simp [vl]; done) | exact hq5.snoc (by omega) (by omega) | (simp only [List.length_append, List.length_cons, List.length_nil]; omega) | exact step_shift hx hq1 hq6 hq7 | assumption), by (first | exact wM | exact Grow.zeros (by simp) (c0) | exact Lim.zeros _ | exact Int.pow_pos (by decide) | (simp; done) | (rw [vl_zeros]; simp [vl]; done) | exact hq5.snoc (by omega) (by omega) | (simp only [List.length_append, List.length_cons, List.length_nil]; omega) | exact step_shift hx hq1 hq6 hq7 | assumption), by (first | exact wM | exact Grow.zeros (by simp) (c0) | exact Lim.zeros _ | exact Int.pow_pos (by decide) | (simp; done) | (rw [vl_zeros]; simp [vl]; done) | exact hq5.snoc (by omega) (by omega) | (simp only [List.length_append, List.length_cons, List.length_nil]; omega) | exact step_shift hx hq1 hq6 hq7 | assumption), by (first | exact wM | exact Grow.zeros (by simp) (c0) | exact Lim.zeros _ | exact Int.pow_pos (by decide) | (simp; done) | (rw [vl_zeros]; simp [vl]; done) | exact hq5.snoc (by omega) (by omega) | (simp only [List.length_append, List.length_cons, List.length_nil]; omega) | exact step_shift hx hq1 hq6 hq7 | assumption), by (first | exact wM | exact Grow.zeros (by simp) (c0) | exact Lim.zeros _ | exact Int.pow_pos (by decide) | (simp; done) | (rw [vl_zeros]; simp [vl]; done) | exact hq5.snoc (by omega) (by omega) | (simp only [List.length_append, List.length_cons, List.length_nil]; omega) | exact step_shift hx hq1 hq6 hq7 | assumption), by (first | exact wM | exact Grow.zeros (by simp) (c0) | exact Lim.zeros _ | exact Int.pow_pos (by decide) | (simp; done) | (rw [vl_zeros]; simp [vl]; done) | exact hq5.snoc (by omega) (by omega) | (simp only [List.length_append, List.length_cons, List.length_nil]; omega) | exact step_shift hx hq1 hq6 hq7 | assumption), rfl⟩
  rintro m' ⟨t, H, k⟩ ⟨i, c, out, g, h0, h1, h5, h6, h7, hq0, hq1, hq2, hq3, hq4, hq5, hq6, hq7, hm⟩ next
  simp only at h0 h1 h5 h6 h7
  refine n1 (j h0 (j h1 (j h5 (j h6 (j h7 (j hv hlen)))))) ?_
  open QNe4 in exact As2
  done
 |fail) : p := h
end QNe3
theorem n139 {N : Int} {L : Nat} {v : PV} (n : Int) (h : NatV N L v) (hl : L ≤ 1073741824) (hn0 : 0 ≤ n) (hn1 : n ≤ 68719476736) : Pure Tab X G 139 [v, .int .i64 n] (NatV (N * 2 ^ n.toNat) (L + (n / 32).toNat + 1)) := by
 obtain ⟨a, hva, hla, hta, rfl, hna⟩ := h
 have hv := hva.sls
 have hd := hva.deep
 have hlen := hva.len
 refine Fn_of T139 (by simp) ?_
 refine n1 (j hv (j hd hlen)) ?_
 open QNe3 in exact As1
end
end Go.Pi
end
