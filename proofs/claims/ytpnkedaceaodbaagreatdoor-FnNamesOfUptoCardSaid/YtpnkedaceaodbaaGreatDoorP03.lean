import Derived.Test.YtpnkedaceaodbaaGreatDoorP02
/- Part of the proof. -/
set_option linter.all false
section
namespace Go.Pi
open Go.RowKit
mutual
def deepB : PV → Bool
 |.ptr _ _ _ => false
 |.row _ _ _ => false
 |.agg cs => deepL cs
 |.tup vs => deepL vs
 |.ifc _ v => deepB v
 |.clo _ a b => deepL a && deepL b
 |.sl xs => deepLL xs
 |.fp cs => deepL cs
 |_ => true
def deepL : List PV → Bool
 |[] => true
 |x :: xs => deepB x && deepL xs
def deepLL : List (List PV) → Bool
 |[] => true
 |x :: xs => deepL x && deepLL xs
end
theorem deepL_mem {xs : List PV} (h : deepL xs = true) : ∀ x, x ∈ xs → deepB x = true := by
 induction xs with
 |nil => intro x hx; cases hx
 |cons y ys ih =>
  simp only [deepL, Bool.and_eq_true] at h
  intro x hx
  rcases List.mem_cons.1 hx with rfl | hx
  ·exact h.1
  ·exact ih h.2 x hx
theorem deepL_of {xs : List PV} (h : ∀ x, x ∈ xs → deepB x = true) : deepL xs = true := by
 induction xs with
 |nil => rfl
 |cons y ys ih => simp only [deepL, Bool.and_eq_true]; exact ⟨h y (by simp), ih fun x hx => h x (by simp [hx])⟩
theorem deepLL_mem {xs : List (List PV)} (h : deepLL xs = true) : ∀ x, x ∈ xs → deepL x = true := by
 induction xs with
 |nil => intro x hx; cases hx
 |cons y ys ih =>
  simp only [deepLL, Bool.and_eq_true] at h
  intro x hx
  rcases List.mem_cons.1 hx with rfl | hx
  ·exact h.1
  ·exact ih h.2 x hx
theorem deepLL_of {xs : List (List PV)} (h : ∀ x, x ∈ xs → deepL x = true) : deepLL xs = true := by
 induction xs with
 |nil => rfl
 |cons y ys ih => simp only [deepLL, Bool.and_eq_true]; exact ⟨h y (by simp), ih fun x hx => h x (by simp [hx])⟩
theorem deepL_append {xs ys : List PV} : deepL (xs ++ ys) = (deepL xs && deepL ys) := by
 induction xs with
 |nil => simp [deepL]
 |cons x xs ih => simp [deepL, ih, Bool.and_assoc]
theorem Rep.deep {E E' : Env} (hF : ∀ a u, E.F a = some u → E'.F a = some u) {x : PV} {v : Value} (h : Rep E x v) : deepB x = true → Rep E' x v := by
 induction h with
 |undef v => intro _; exact .undef v
 |bool b => intro _; exact .bool b
 |int k n => intro _; exact .int k n
 |flt k n => intro _; exact .flt k n
 |nan k n h => intro _; exact .nan k n h
 |str s => intro _; exact .str s
 |nilp => intro _; exact .nilp
 |nilf => intro _; exact .nilf
 |nili => intro _; exact .nili
 |nils => intro _; exact .nils
 |agg cs vs hf hl _ ih => intro hd; simp only [deepB] at hd; exact .agg cs vs hf hl fun i hi => ih i hi (deepL_mem hd _ (List.getElem_mem _))
 |tup cs vs hl _ ih => intro hd; simp only [deepB] at hd; exact .tup cs vs hl fun i hi => ih i hi (deepL_mem hd _ (List.getElem_mem _))
 |ifc t x v _ ih => intro hd; simp only [deepB] at hd; exact .ifc t x v (ih hd)
 |clo f cs ds vs us hl _ hl' _ ih ih' =>
  intro hd
  simp only [deepB, Bool.and_eq_true] at hd
  exact .clo f cs ds vs us hl (fun i hi => ih i hi (deepL_mem hd.1 _ (List.getElem_mem _))) hl' fun i hi => ih' i hi (deepL_mem hd.2 _ (List.getElem_mem _))
 |sl0 A c => intro _; exact .sl0 A c
 |sl xs a c s U hc hs hf hF' _ ih =>
  intro hd
  simp only [deepB] at hd
  exact .sl xs a c s U hc hs hf (fun i j hi hj => hF _ _ (hF' i j hi hj)) fun i hi j hj => ih i hi j hj (deepL_mem (deepLL_mem hd _ (List.getElem_mem _)) _ (List.getElem_mem _))
 |fp cs a U hf hF' _ ih =>
  intro hd
  simp only [deepB] at hd
  exact .fp cs a U hf (fun j hj => hF _ _ (hF' j hj)) fun j hj => ih j hj (deepL_mem hd _ (List.getElem_mem _))
 |ptr b g off v hv hk h => intro hd; simp [deepB] at hd
 |row b g len v hv hk h => intro hd; simp [deepB] at hd
def group (s len : Nat) (cs : List PV) : List (List PV) := (List.range len).map fun i => (cs.drop (i * s)).take s
def settleL (f : PV → Option (PV × List Nat)) : List PV → Option (List PV × List Nat)
 |[] => some ([], [])
 |x :: xs =>
  if deepL (x :: xs) then some (x :: xs, []) else
  match f x, settleL f xs with
  |some (y, ids), some (ys, jds) => some (y :: ys, ids ++ jds)
  |_, _ => none
def settle : Nat → Heap → PV → Option (PV × List Nat)
 |0, _, x => if deepB x then some (x, []) else none
 |n + 1, H, x =>
  if deepB x then some (x, []) else
  match x with
  |.row b g len => match H b with
   |some c => if c.gen = g ∧ len * c.s ≤ c.cells.length then
     (settleL (settle n H) (c.cells.take (len * c.s))).map fun r => (.sl (group c.s len r.1), b :: r.2) else none
   |none => none
  |.ptr b g off => match H b with
   |some c => if c.gen = g ∧ off ≤ c.cells.length then
     (settleL (settle n H) (c.cells.drop off)).map fun r => (.fp r.1, b :: r.2) else none
   |none => none
  |.agg cs => (settleL (settle n H) cs).map fun r => (.agg r.1, r.2)
  |.tup cs => (settleL (settle n H) cs).map fun r => (.tup r.1, r.2)
  |.ifc t v => (settle n H v).map fun r => (.ifc t r.1, r.2)
  |_ => none
open Classical in
noncomputable def Env.freeze (E : Env) (w : World) (T : List Nat) : Env :=
 ⟨E.K, fun a => if ∃ b c, b ∈ T ∧ E.H b = some c ∧ E.β b = a.block ∧ a.spot = none ∧ a.off < c.cells.length then w.cell? a else E.F a, E.β, E.κ, fun b => if b ∈ T then none else E.H b⟩
def Heap.drop (H : Heap) (T : List Nat) : Heap := fun b => if b ∈ T then none else H b
section
variable {P : Program} {w₀ : World} {E : Env} {w : World}
theorem freeze_F (hI : Inv P w₀ E w) (T : List Nat) {a : Addr} {u : Value} (h : E.F a = some u) : (E.freeze w T).F a = some u := by
 simp only [Env.freeze]
 split
 ·rename_i hc
  obtain ⟨b, c, _, hb, he, _⟩ := hc
  have := (hI.chunk b c hb).free a he.symm
  rw [this] at h; cases h
 ·exact h
theorem le_freeze (hI : Inv P w₀ E w) (T : List Nat) : Le E (E.freeze w T) := by
 refine ⟨fun _ _ h => h, fun a u h => freeze_F hI T h, fun b c' hc _ => ?_⟩
 simp only [Env.freeze] at hc
 split at hc
 ·cases hc
 ·exact ⟨c', hc, rfl, rfl, rfl⟩
theorem inv_freeze (hI : Inv P w₀ E w) (T : List Nat) : Inv P w₀ (E.freeze w T) w := by
 refine ⟨hI.below, fun a u hu => ?_, fun a u hu => freeze_F hI T (hI.old a u hu), fun b c hc => ?_⟩
 ·simp only [Env.freeze] at hu
  split at hu
  ·exact hu
  ·exact hI.cell a u hu
 ·have hc' := hc
  simp only [Env.freeze] at hc
  split at hc
  ·cases hc
  ·rename_i hT
   obtain ⟨u, l, o, ap, f, ⟨cs, hcs, r1, r2, r3⟩, fl⟩ := hI.chunk b c hc
   refine ⟨u, l, o, fun b' c' hb' he => ?_, fun a ha => ?_, ⟨cs, hcs, r1, r2, r3.mono (le_freeze hI T)⟩, fl⟩
   ·simp only [Env.freeze] at hb'
    split at hb'
    ·cases hb'
    ·exact ap b' c' hb' he
   ·simp only [Env.freeze]
    split
    ·rename_i hh
     obtain ⟨b', c', hbT, hb', he, _⟩ := hh
     have := ap b' c' hb' (he.trans ha)
     subst this
     exact absurd hbT hT
    ·exact f a ha
theorem freeze_cell {T : List Nat} {b : Nat} {c : Chunk} (hb : E.H b = some c) (hT : b ∈ T) {off : Nat} (ho : off < c.cells.length) {u : Value} (hu : w.cell? ⟨E.β b, off, none⟩ = some u) : (E.freeze w T).F ⟨E.β b, off, none⟩ = some u := by
 simp only [Env.freeze]
 rw [if_pos ⟨b, c, hT, hb, rfl, rfl, ho⟩]
 exact hu
theorem flat_settle {n : Nat} {H : Heap} {x y : PV} {ids : List Nat} (h : settle n H x = some (y, ids)) (hf : x.flat = true) : y.flat = true := by
 have dc : (if deepB x then some (x, ([] : List Nat)) else none) = some (y, ids) → y.flat = true := by
  intro h
  split at h
  ·simp only [Option.some.injEq, Prod.mk.injEq] at h; rw [← h.1]; exact hf
  ·cases h
 cases n with
 |zero => exact dc h
 |succ n =>
  simp only [settle] at h
  split at h
  ·simp only [Option.some.injEq, Prod.mk.injEq] at h; rw [← h.1]; exact hf
  ·split at h
   ·split at h
    ·split at h
     ·simp only [Option.map_eq_some_iff, Prod.mk.injEq] at h; obtain ⟨r, _, rfl, _⟩ := h; rfl
     ·cases h
    ·cases h
   ·split at h
    ·split at h
     ·simp only [Option.map_eq_some_iff, Prod.mk.injEq] at h; obtain ⟨r, _, rfl, _⟩ := h; rfl
     ·cases h
    ·cases h
   ·simp [PV.flat] at hf
   ·simp [PV.flat] at hf
   ·simp only [Option.map_eq_some_iff, Prod.mk.injEq] at h; obtain ⟨r, _, rfl, _⟩ := h; rfl
   ·cases h
theorem settleL_ok {f : PV → Option (PV × List Nat)} {T : List Nat} (hI : Inv P w₀ E w)
  (hf : ∀ (x y : PV) (v : Value) (ids : List Nat), f x = some (y, ids) → (∀ b, b ∈ ids → b ∈ T) → Rep E x v → Rep (E.freeze w T) y v ∧ deepB y = true ∧ (x.flat = true → y.flat = true)) :
  ∀ (xs ys : List PV) (vs : List Value) (ids : List Nat), settleL f xs = some (ys, ids) → (∀ b, b ∈ ids → b ∈ T) → Reps E xs vs → Reps (E.freeze w T) ys vs ∧ deepL ys = true ∧ ((∀ x, x ∈ xs → x.flat = true) → ∀ y, y ∈ ys → y.flat = true) := by
 intro xs
 induction xs with
 |nil =>
  intro ys vs ids h _ hR
  simp only [settleL, Option.some.injEq, Prod.mk.injEq] at h
  obtain ⟨rfl, rfl⟩ := h
  have : vs = [] := List.eq_nil_of_length_eq_zero (by rw [← hR.1]; rfl)
  subst this
  exact ⟨.nil _, rfl, fun _ y hy => by cases hy⟩
 |cons x xs ih =>
  intro ys vs ids h hT hR
  simp only [settleL] at h
  split at h
  ·rename_i hd
   simp only [Option.some.injEq, Prod.mk.injEq] at h
   obtain ⟨rfl, rfl⟩ := h
   exact ⟨hR.mono (le_freeze hI T), hd, fun h => h⟩
  ·obtain ⟨v, us, rfl, hv, hR'⟩ := hR.head
   split at h
   ·rename_i y i1 ys' i2 h1 h2
    simp only [Option.some.injEq, Prod.mk.injEq] at h
    obtain ⟨rfl, rfl⟩ := h
    obtain ⟨a1, a2, a3⟩ := hf x y v i1 h1 (fun b hb => hT b (by simp [hb])) hv
    obtain ⟨b1, b2, b3⟩ := ih ys' us i2 h2 (fun b hb => hT b (by simp [hb])) hR'
    refine ⟨.cons a1 b1, by simp [deepL, a2, b2], fun hfl z hz => ?_⟩
    rcases List.mem_cons.1 hz with rfl | hz
    ·exact a3 (hfl x (by simp))
    ·exact b3 (fun q hq => hfl q (by simp [hq])) z hz
   ·cases h
theorem settle_ok {T : List Nat} (hI : Inv P w₀ E w) : ∀ (n : Nat) (x y : PV) (v : Value) (ids : List Nat), settle n E.H x = some (y, ids) → (∀ b, b ∈ ids → b ∈ T) → Rep E x v → Rep (E.freeze w T) y v ∧ deepB y = true ∧ (x.flat = true → y.flat = true) := by
 intro n
 induction n with
 |zero =>
  intro x y v ids h hT hx
  refine ⟨?_, ?_, flat_settle h⟩
  all_goals
   simp only [settle] at h
   split at h
   ·rename_i hd
    simp only [Option.some.injEq, Prod.mk.injEq] at h
    obtain ⟨rfl, rfl⟩ := h
    first | exact hx.mono (le_freeze hI T) | exact hd
   ·cases h
 |succ n ih =>
  intro x y v ids h hT hx
  have hfl := flat_settle h
  suffices hh : Rep (E.freeze w T) y v ∧ deepB y = true from ⟨hh.1, hh.2, hfl⟩
  simp only [settle] at h
  split at h
  ·rename_i hd
   simp only [Option.some.injEq, Prod.mk.injEq] at h
   obtain ⟨rfl, rfl⟩ := h
   exact ⟨hx.mono (le_freeze hI T), hd⟩
  ·split at h
   ·rename_i b g len _
    split at h
    ·rename_i c hc
     split at h
     ·rename_i hg
      simp only [Option.map_eq_some_iff, Prod.mk.injEq] at h
      obtain ⟨⟨cs, i2⟩, hs, rfl, rfl⟩ := h
      obtain ⟨_, hk, hp⟩ := hx.row_inv
      obtain ⟨hle, hv⟩ := hp c hc hg.1
      subst hv
      obtain ⟨U, hU1, hU2, hU3⟩ := cells_chunk hI hc 0 (len * c.s) (by omega)
      simp only [List.drop_zero, Nat.zero_add] at hU2 hU3
      obtain ⟨k1, k2, k3⟩ := settleL_ok hI (fun x y v ids h hT hx => ih x y v ids h hT hx) _ _ U i2 hs (fun b' hb' => hT b' (by simp [hb'])) hU2
      have hlen : cs.length = len * c.s := by rw [k1.1, hU1]
      have hflat := k3 fun x hx => (hI.chunk b c hc).flat x (List.mem_of_mem_take hx)
      have hgl : (group c.s len cs).length = len := by simp [group]
      have hge : ∀ i (hi : i < (group c.s len cs).length), (group c.s len cs)[i] = (cs.drop (i * c.s)).take c.s := by intro i hi; simp [group]
      have hin : ∀ i j, i < len → j < c.s → i * c.s + j < len * c.s := by
       intro i j hi hj
       have : (i + 1) * c.s ≤ len * c.s := Nat.mul_le_mul_right _ hi
       rw [Nat.succ_mul] at this; omega
      refine ⟨?_, ?_⟩
      ·have key := Rep.sl (E := E.freeze w T) (group c.s len cs) ⟨E.β b, 0, none⟩ (E.κ b) c.s (fun i j => U.getD (i * c.s + j) default) (by rw [hgl]; exact hle)
        (fun i hi => by
         rw [hge i hi]
         have := hin i
         rw [hgl] at hi
         simp
         rcases Nat.eq_zero_or_pos c.s with h0 | h0
         ·omega
         ·have := hin i (c.s - 1) hi (by omega); omega)
        (fun x hx q hq => by
         obtain ⟨i, hi, rfl⟩ := List.getElem_of_mem hx
         rw [hge i hi] at hq
         exact hflat q (List.mem_of_mem_drop (List.mem_of_mem_take hq)))
        (fun i j hi hj => by
         rw [hgl] at hi
         have hlt := hin i j hi hj
         have e : (⟨E.β b, 0, none⟩ : Addr).add (i * c.s + j) = ⟨E.β b, i * c.s + j, none⟩ := by unfold Addr.add; split <;> simp_all
         rw [e]
         refine freeze_cell hc (hT b (by simp)) (by omega) ?_
         have h2 : U[i * c.s + j]? = some (U.getD (i * c.s + j) default) := by
          rw [List.getD_eq_getElem?_getD, List.getElem?_eq_getElem (by omega)]; rfl
         exact hU3 _ _ h2)
        (fun i hi j hj => by
         have hi' := hi
         rw [hgl] at hi'
         have hjl : j < c.s := by rw [hge i hi] at hj; simp at hj; omega
         have hlt := hin i j hi' hjl
         have e : (group c.s len cs)[i][j] = cs[i * c.s + j]'(by omega) := by
          simp only [hge i hi, List.getElem_take, List.getElem_drop]
         rw [e]
         have := k1.get (i * c.s + j) (by omega)
         rw [List.getD_eq_getElem?_getD, List.getElem?_eq_getElem (by omega)]
         exact this)
       rw [hgl] at key
       exact key
      ·simp only [deepB]
       refine deepLL_of fun x hx => deepL_of fun q hq => ?_
       obtain ⟨i, hi, rfl⟩ := List.getElem_of_mem hx
       rw [hge i hi] at hq
       exact deepL_mem k2 q (List.mem_of_mem_drop (List.mem_of_mem_take hq))
     ·cases h
    ·cases h
   ·rename_i b g off _
    split at h
    ·rename_i c hc
     split at h
     ·rename_i hg
      simp only [Option.map_eq_some_iff, Prod.mk.injEq] at h
      obtain ⟨⟨cs, i2⟩, hs, rfl, rfl⟩ := h
      obtain ⟨_, hk, hp⟩ := hx.ptr_inv
      have hv := hp c hc hg.1
      subst hv
      obtain ⟨U, hU1, hU2, hU3⟩ := cells_chunk hI hc off (c.cells.length - off) (by omega)
      rw [List.take_of_length_le (by simp)] at hU2
      obtain ⟨k1, k2, k3⟩ := settleL_ok hI (fun x y v ids h hT hx => ih x y v ids h hT hx) _ _ U i2 hs (fun b' hb' => hT b' (by simp [hb'])) hU2
      have hflat := k3 fun x hx => (hI.chunk b c hc).flat x (List.mem_of_mem_drop hx)
      refine ⟨.fp cs _ (fun j => U.getD j default) hflat (fun j hj => ?_) (fun j hj => ?_), by simp only [deepB]; exact k2⟩
      ·have hjl : j < U.length := by rw [← k1.1]; exact hj
       have e : (⟨E.β b, off, none⟩ : Addr).add j = ⟨E.β b, off + j, none⟩ := by unfold Addr.add; split <;> simp_all
       rw [e]
       refine freeze_cell hc (hT b (by simp)) (by omega) (hU3 j _ ?_)
       rw [List.getD_eq_getElem?_getD, List.getElem?_eq_getElem hjl]; rfl
      ·have hjl : j < U.length := by rw [← k1.1]; exact hj
       have := k1.get j hj
       simp only [List.getD_eq_getElem?_getD, List.getElem?_eq_getElem hjl]
       exact this
     ·cases h
    ·cases h
   ·rename_i cs0
    simp only [Option.map_eq_some_iff, Prod.mk.injEq] at h
    obtain ⟨⟨cs, i2⟩, hs, rfl, rfl⟩ := h
    obtain ⟨vs, rfl, hR, hfl0⟩ := hx.agg_inv
    obtain ⟨k1, k2, k3⟩ := settleL_ok hI (fun x y v ids h hT hx => ih x y v ids h hT hx) _ _ vs i2 hs hT hR
    exact ⟨k1.agg (k3 hfl0), by simp only [deepB]; exact k2⟩
   ·rename_i cs0
    simp only [Option.map_eq_some_iff, Prod.mk.injEq] at h
    obtain ⟨⟨cs, i2⟩, hs, rfl, rfl⟩ := h
    obtain ⟨vs, rfl, hR⟩ := hx.tup_inv
    obtain ⟨k1, k2, _⟩ := settleL_ok hI (fun x y v ids h hT hx => ih x y v ids h hT hx) _ _ vs i2 hs hT hR
    exact ⟨k1.tup, by simp only [deepB]; exact k2⟩
   ·rename_i t v0 _
    simp only [Option.map_eq_some_iff, Prod.mk.injEq] at h
    obtain ⟨⟨y0, i2⟩, hs, rfl, rfl⟩ := h
    obtain ⟨u, rfl, hu⟩ := hx.ifc_inv
    obtain ⟨k1, k2, _⟩ := ih _ _ u i2 hs hT hu
    exact ⟨.ifc t y0 u k1, by simp only [deepB]; exact k2⟩
   ·cases h
end
end Go.Pi
end
section
namespace Go.Pi
open Go.RowKit
structure XO where
 dst : Option Nat
 gd : Option (Nat × Bool)
 id : Nat
 k : K
inductive XC where
 |reg (ops : List XO)
 |dreg (ops : List XO) (ps : List (Nat × Nat))
 |cond (c : Opd) (a b : List XC)
 |block (id : Nat) (body : List XC)
 |loop (body : List XC)
 |exit (id : Nat)
 |ret
inductive RV where
 |tmp (t : Nat)
 |cell (t : Nat) (ag : Bool) (n : Nat)
structure FX where
 np : Nat
 n : Nat
 res : List RV
 body : List XC
structure St where
 t : Nat → PV
 H : Heap
 n : Nat
def put (t : Nat → PV) (d : Option Nat) (v : PV) : Nat → PV :=
 match d with
 |some d => fun x => if x = d then v else t x
 |none => t
def ev (G : Nat → PV) (t : Nat → PV) : Opd → PV
 |.t n => t n
 |.c v => v
 |.g n => G n
inductive Ex where
 |normal
 |exit (id : Nat)
 |ret
abbrev CallF := Nat → List PV → Option Chunk → Option (PV × List PV)
def depth : Nat := 30
def runK (ev : Opd → PV) (H : Heap) (id st : Nat) : K → Option (PV × Heap)
 |.app e s b d x =>
  match settle depth H (ev x) with
  |some (y, ids) => (appRun (H.drop ids) id st e s b (ev d) y).map fun r => (r.1, (H.drop ids).upd r.2)
  |none => none
 |k => (opRun ev H id st k).map fun r => (r.1, H.upd r.2)
def runCall0 (callF : CallF) (H : Heap) (f : Nat) : List PV → Option (PV × Heap)
 |.ptr b g 0 :: rest =>
  match H b, settleL (settle depth H) rest with
  |some c, some (ys, ids) =>
   if c.gen = g ∧ deepL c.cells = true ∧ ids.contains b = false then
    (callF f (.ptr 0 0 0 :: ys) (some ⟨c.e, 0, c.cells, c.s⟩)).bind fun r => if r.2.length = c.cells.length then some (r.1, (H.drop ids).put b (some ⟨c.e, c.gen, r.2, c.s⟩)) else none
   else none
  |_, _ => none
 |args =>
  match settleL (settle depth H) args with
  |some (ys, ids) => (callF f ys none).map fun r => (r.1, H.drop ids)
  |none => none
def roF (f : Nat) : Bool := f == 121
def eqPV : PV → PV → Bool
 |.int k n, .int k' n' => decide (k = k') && decide (n = n')
 |.bool a, .bool b => decide (a = b)
 |.str a, .str b => decide (a.data = b.data)
 |_, _ => false
def eqPVs : List PV → List PV → Bool
 |[], [] => true
 |x :: xs, y :: ys => eqPV x y && eqPVs xs ys
 |_, _ => false
def roCall (callF : CallF) (H : Heap) (f : Nat) : List PV → Option (PV × Heap)
 |.ptr b g 0 :: rest =>
  match runCall0 callF H f (.ptr b g 0 :: rest), H b, settleL (settle depth H) rest with
  |some (r, H1), some c, some (_, []) => match H1 b with
   |some c1 => if eqPVs c1.cells c.cells = true then some (r, H) else none
   |none => none
  |_, _, _ => none
 |_ => none
def runCall (callF : CallF) (H : Heap) (f : Nat) (args : List PV) : Option (PV × Heap) := if roF f = true then roCall callF H f args else runCall0 callF H f args
theorem eqPV_eq {a b : PV} (h : eqPV a b = true) : a = b := by
 unfold eqPV at h
 split at h
 ·simp only [Bool.and_eq_true, decide_eq_true_eq] at h; rw [h.1, h.2]
 ·simp only [decide_eq_true_eq] at h; rw [h]
 ·rename_i a b
  simp only [decide_eq_true_eq] at h
  cases a; cases b; simp only at h; rw [h]
 ·cases h
theorem eqPVs_eq : ∀ {xs ys : List PV}, eqPVs xs ys = true → xs = ys
 |[], [], _ => rfl
 |x :: xs, y :: ys, h => by
  simp only [eqPVs, Bool.and_eq_true] at h
  rw [eqPV_eq h.1, eqPVs_eq h.2]
 |[], _ :: _, h => by cases h
 |_ :: _, [], h => by cases h
theorem Heap.drop_nil' (H : Heap) : H.drop [] = H := by funext b; simp [Heap.drop]
theorem roCall_of {callF : CallF} {H H' : Heap} {f : Nat} {args : List PV} {r : PV} (h : roCall callF H f args = some (r, H')) :
  H' = H ∧ runCall0 callF H f args = some (r, H) := by
 unfold roCall at h
 split at h
 ·rename_i b g rest
  split at h
  ·rename_i r1 H1 c ys h1 h2 h3
   split at h
   ·rename_i c1 h4
    split at h
    ·rename_i he
     simp only [Option.some.injEq, Prod.mk.injEq] at h
     obtain ⟨rfl, rfl⟩ := h
     refine ⟨rfl, ?_⟩
     rw [h1]
     have h1' := h1
     simp only [runCall0, h2, h3] at h1'
     split at h1'
     ·simp only [Option.bind_eq_some_iff] at h1'
      obtain ⟨⟨r', cells⟩, hcall, h1'⟩ := h1'
      split at h1'
      ·simp only [Option.some.injEq, Prod.mk.injEq] at h1'
       obtain ⟨rfl, rfl⟩ := h1'
       simp only [Heap.put_same, Option.some.injEq] at h4
       subst h4
       have e := eqPVs_eq he
       simp only at e
       subst e
       have : (H.drop []).put b (some ⟨c.e, c.gen, c.cells, c.s⟩) = H := by
        rw [Heap.drop_nil']
        funext x
        by_cases hx : x = b
        ·subst hx; rw [Heap.put_same]; exact h2.symm
        ·rw [Heap.put_ne _ _ hx]
       rw [this]
      ·cases h1'
     ·cases h1'
    ·cases h
   ·cases h
  ·cases h
 ·cases h
theorem runCall_0 {callF : CallF} {H H' : Heap} {f : Nat} {args : List PV} {r : PV} (h : runCall callF H f args = some (r, H')) : runCall0 callF H f args = some (r, H') := by
 unfold runCall at h
 split at h
 ·obtain ⟨rfl, h⟩ := roCall_of h; exact h
 ·exact h
def runGo (callF : CallF) (ev : Opd → PV) (H : Heap) (id st : Nat) : K → Option (PV × Heap)
 |.call f as => runCall callF H f (as.map ev)
 |.callv fo as => match ev fo with
  |.clo (.func f) first caps => runCall callF H f (first ++ as.map ev ++ caps)
  |_ => none
 |k => runK ev H id st k
def runOp (callF : CallF) (G : Nat → PV) (i : Nat) (o : XO) (s : St) : Option St :=
 match o.gd with
 |none => (runGo callF (ev G s.t) s.H o.id (s.n + i) o.k).map fun r => ⟨put s.t o.dst r.1, r.2, s.n⟩
 |some (g, want) =>
  match s.t g with
  |.bool b => if b = want then (runGo callF (ev G s.t) s.H o.id (s.n + i) o.k).map fun r => ⟨put s.t o.dst r.1, r.2, s.n⟩ else some ⟨put s.t o.dst (.tup []), s.H, s.n⟩
  |.tup _ => some ⟨put s.t o.dst (.tup []), s.H, s.n⟩
  |_ => none
def runOps (callF : CallF) (G : Nat → PV) : Nat → List XO → St → Option St
 |_, [], s => some s
 |i, o :: os, s => (runOp callF G i o s).bind (runOps callF G (i + 1) os)
def callFeet (H : Heap) : List PV → List Nat
 |.ptr b _ 0 :: rest => b :: ((settleL (settle depth H) rest).map (·.2)).getD []
 |args => ((settleL (settle depth H) args).map (·.2)).getD []
def feet (ev : Opd → PV) (H : Heap) (id : Nat) : K → List Nat × List Nat
 |.ld _ _ x => match ev x with
  |.ptr b _ _ => ([b], [])
  |_ => ([], [])
 |.cstr x => match ev x with
  |.row b _ _ => ([b], [])
  |_ => ([], [])
 |.st _ x _ => match ev x with
  |.ptr b _ _ => ([], [b])
  |_ => ([], [])
 |.app _ _ _ d x =>
  match settle depth H (ev x) with
  |some (_, ids) => ([], (match ev d with | .row b _ _ => [b] | _ => [id]) ++ ids)
  |none => ([], [])
 |.new _ _ => ([], [id])
 |.box _ _ _ => ([], [id])
 |.bsl _ _ _ _ _ => ([], [id])
 |.mksl _ _ _ _ _ _ => ([], [id])
 |.call f as => if roF f = true then (callFeet H (as.map ev), []) else ([], callFeet H (as.map ev))
 |_ => ([], [])
def feetX (G : Nat → PV) (x : XO) (s : St) : List Nat × List Nat :=
 match x.gd with
 |none => feet (ev G s.t) s.H x.id x.k
 |some (g, want) =>
  match s.t g with
  |.bool b => if b = want then feet (ev G s.t) s.H x.id x.k else ([], [])
  |_ => ([], [])
def runFeet (callF : CallF) (G : Nat → PV) : Nat → List XO → St → Option (St × List (List Nat × List Nat))
 |_, [], s => some (s, [])
 |i, o :: os, s =>
  match runOp callF G i o s with
  |some s' => (runFeet callF G (i + 1) os s').map fun r => (r.1, feetX G o s :: r.2)
  |none => none
def apartL (a b : List Nat) : Bool := a.all fun x => !b.contains x
def feetOk (ft : List (List Nat × List Nat)) (ps : List (Nat × Nat)) : Bool :=
 ps.all fun p =>
  match ft[p.1]?, ft[p.2]? with
  |some x, some y => apartL x.2 (y.1 ++ y.2) && apartL x.1 y.2
  |_, _ => false
def runD (callF : CallF) (G : Nat → PV) (ops : List XO) (ps : List (Nat × Nat)) (s : St) : Option St :=
 match runFeet callF G 0 ops s with
 |some (s', ft) => if feetOk ft ps then some s' else none
 |none => none
def rounds (body : St → Option (Ex × St)) : Nat → St → Option (Ex × St)
 |0, _ => none
 |n + 1, s => (body s).bind fun r => match r.1 with
  |.normal => rounds body n r.2
  |e => some (e, r.2)
mutual
def runC (callF : CallF) (G : Nat → PV) (fuel : Nat) : XC → St → Option (Ex × St)
 |.reg ops, s => (runOps callF G 0 ops s).map fun s' => (.normal, ⟨s'.t, s'.H, s'.n + ops.length⟩)
 |.dreg ops ps, s => (runD callF G ops ps s).map fun s' => (.normal, ⟨s'.t, s'.H, s'.n + ops.length⟩)
 |.cond c a b, s => match ev G s.t c with
  |.bool t => if t then runL callF G fuel a s else runL callF G fuel b s
  |_ => none
 |.block id body, s => (runL callF G fuel body s).map fun r => match r.1 with
  |.exit j => if j = id then (.normal, r.2) else r
  |_ => r
 |.loop body, s => rounds (runL callF G fuel body) fuel s
 |.exit id, s => some (.exit id, s)
 |.ret, s => some (.ret, s)
def runL (callF : CallF) (G : Nat → PV) (fuel : Nat) : List XC → St → Option (Ex × St)
 |[], s => some (.normal, s)
 |c :: cs, s => (runC callF G fuel c s).bind fun r => match r.1 with
  |.normal => runL callF G fuel cs r.2
  |e => some (e, r.2)
end
end Go.Pi
end
section
namespace Go.Pi
open Go.RowKit
def anc (ops : Array Oper) : Nat → Nat → Nat → Bool
 |0, _, _ => false
 |n + 1, i, j => match ops[j]? with
  |some o => o.after.any fun e => Region.binds .any e && (e.on == i || anc ops n i e.on)
  |none => false
def kW : K → Bool
 |.new _ _ | .box _ _ _ | .bsl _ _ _ _ _ | .mksl _ _ _ _ _ _ | .st _ _ _ | .app _ _ _ _ _ | .call _ _ => true
 |_ => false
def kNew : K → Bool
 |.new _ _ | .box _ _ _ | .bsl _ _ _ _ _ | .mksl _ _ _ _ _ _ => true
 |_ => false
def kR : K → Bool
 |.ld _ _ _ | .cstr _ => true
 |.call f _ => roF f
 |_ => false
def kV : K → Bool
 |.callv _ _ => true
 |_ => false
def compileXO (P : Program) (N : Nat) (ops : Array Oper) (rid i : Nat) (o : Oper) : Option XO := do
 let k ← compileOp P o
 let gd ← match o.guard with
  |none => some none
  |some (j, want) => match (ops[j]?).bind (·.dst) with
   |some d => some (some (d, want))
   |none => none
 match o.dst with
 |some d => if d < N then some ⟨o.dst, gd, 1 + rid * 1000 + i, k⟩ else none
 |none => some ⟨o.dst, gd, 1 + rid * 1000 + i, k⟩
def compileXOs (P : Program) (N : Nat) (ops : Array Oper) (rid : Nat) : Nat → List Oper → Option (List XO)
 |_, [] => some []
 |i, o :: os => do some ((← compileXO P N ops rid i o) :: (← compileXOs P N ops rid (i + 1) os))
def needPair (x y : XO) : Bool :=
 (kW x.k && kW y.k && !(kNew x.k && kNew y.k && x.id != y.id)) || (kW x.k && kR y.k) || (kR x.k && kW y.k)
def pairsOf (ops : Array Oper) (xs : List XO) : List (Nat × Nat) :=
 (xs.zipIdx).flatMap fun q => ((xs.zipIdx).filter fun p => p.2 < q.2 && needPair p.1 q.1 && !anc ops ops.size p.2 q.2).map fun p => (p.2, q.2)
def kOpds : K → List Opd
 |.mv x => [x]
 |.pick c a b => [c, a, b]
 |.new _ _ => []
 |.box _ _ x => [x]
 |.build _ ps => ps.map (·.2.2)
 |.bsl _ _ _ _ ps => ps.map (·.2.2)
 |.ld _ _ x => [x]
 |.st _ x v => [x, v]
 |.nilc x => [x]
 |.bin _ x y => [x, y]
 |.binp _ x y => [x, y]
 |.binb _ x y => [x, y]
 |.un _ x => [x]
 |.conv _ x => [x]
 |.cstr x => [x]
 |.cid x => [x]
 |.mkif _ x => [x]
 |.mkfn _ as bs => as ++ bs
 |.mksl _ _ _ _ l c => [l, c]
 |.sstr x lo hi => x :: (lo.toList ++ hi.toList)
 |.ssl _ x lo hi => x :: (lo.toList ++ hi.toList)
 |.fa _ x => [x]
 |.ix _ x i => [x, i]
 |.sx x i => [x, i]
 |.ta _ _ x => [x]
 |.ext x _ => [x]
 |.len x => [x]
 |.slen x => [x]
 |.app _ _ _ d x => [d, x]
 |.mx x y => [x, y]
 |.mn x y => [x, y]
 |.fbits x => [x]
 |.ffrom x => [x]
 |.call _ as => as
 |.callv f as => f :: as
def slot? : Opd → Option Nat
 |.t n => some n
 |_ => none
def looks (x : XO) : List Nat := (kOpds x.k).filterMap slot? ++ (match x.gd with | some (g, _) => [g] | none => [])
def apartX (x y : XO) : Bool :=
 (match x.dst with
  |some d => !(looks y).contains d && y.dst != some d
  |none => true) &&
 (match y.dst with
  |some d => !(looks x).contains d
  |none => true)
def slotsOk (ops : Array Oper) (xs : List XO) : Bool :=
 (ops.toList.zipIdx.all fun q => q.1.after.all fun e => !Region.binds .any e || e.on < q.2) &&
 (xs.zipIdx.all fun q => xs.zipIdx.all fun p => !(p.2 < q.2) || apartX p.1 q.1 || anc ops ops.size p.2 q.2)
def compileC (P : Program) (N : Nat) : Code → Option (List XC)
 |.skip => some []
 |.region id ops false => do some [.reg (← compileXOs P N ops id 0 ops.toList)]
 |.region id ops true => do
  let xs ← compileXOs P N ops id 0 ops.toList
  if slotsOk ops xs && xs.all (fun x => !kV x.k) then some [.dreg xs (pairsOf ops xs)] else none
 |.seq a b => do some ((← compileC P N a) ++ (← compileC P N b))
 |.cond c a b => do some [.cond (← compileOpd c) (← compileC P N a) (← compileC P N b)]
 |.block id a => do some [.block id (← compileC P N a)]
 |.loop a => do some [.loop (← compileC P N a)]
 |.exit id => some [.exit id]
 |.ret => some [.ret]
 |_ => none
def compileR (P : Program) : List ResultVar → Option (List RV)
 |[] => some []
 |.tmp t :: rs => do some (.tmp t :: (← compileR P rs))
 |.cell a t :: rs => do
  let ag ← aggP P t
  let s ← sizeP P t
  some (.cell a ag (if ag then s else 1) :: (← compileR P rs))
def compileF (P : Program) (fn : Func) : Option FX := do
 let c ← fn.body
 some ⟨fn.params.size + fn.nfree, fn.ntmps, ← compileR P fn.results.toList, ← compileC P fn.ntmps c⟩
structure Ext (E : Env) (w : World) (E' : Env) (w' : World) : Prop where
 le : Le E E'
 size : w.heap.size ≤ w'.heap.size
 known : ∀ a u, E'.F a = some u → E.F a = some u ∨ w.heap.size ≤ a.block ∨ ∃ b c, E.H b = some c ∧ E.β b = a.block
 frame : ∀ i, i < w.heap.size → (∀ b c, E.H b = some c → E.β b ≠ i) → w'.heap[i]? = w.heap[i]?
 own : ∀ b c, E'.H b = some c → w.heap.size ≤ E'.β b ∨ ∃ b' c', E.H b' = some c' ∧ E.β b' = E'.β b
theorem Ext.refl (E : Env) (w : World) : Ext E w E w := ⟨Le.refl E, Nat.le_refl _, fun _ _ h => .inl h, fun _ _ _ => rfl, fun b c h => .inr ⟨b, c, h, rfl⟩⟩
theorem Ext.trans {E E1 E2 : Env} {w w1 w2 : World} (h : Ext E w E1 w1) (k : Ext E1 w1 E2 w2) : Ext E w E2 w2 := by
 refine ⟨h.le.trans k.le, Nat.le_trans h.size k.size, fun a u hu => ?_, fun i hi hn => ?_, fun b c hc => ?_⟩
 ·rcases k.known a u hu with hu | hu | ⟨b, c, hc, he⟩
  ·exact h.known a u hu
  ·exact .inr (.inl (Nat.le_trans h.size hu))
  ·rcases h.own b c hc with ho | ⟨b', c', hb', he'⟩
   ·exact .inr (.inl (he ▸ ho))
   ·exact .inr (.inr ⟨b', c', hb', he'.trans he⟩)
 ·rw [← h.frame i hi hn]
  refine k.frame i (Nat.lt_of_lt_of_le hi h.size) fun b c hc he => ?_
  rcases h.own b c hc with ho | ⟨b', c', hb', he'⟩
  ·omega
  ·exact hn b' c' hb' (he'.trans he)
 ·rcases k.own b c hc with ho | ⟨b1, c1, hb1, he1⟩
  ·exact .inl (Nat.le_trans h.size ho)
  ·rcases h.own b1 c1 hb1 with ho | ⟨b', c', hb', he'⟩
   ·exact .inl (he1 ▸ ho)
   ·exact .inr ⟨b', c', hb', he'.trans he1⟩
section
variable {P : Program} {w₀ : World} {E : Env} {w : World}
theorem Ext.freeze (hI : Inv P w₀ E w) (T : List Nat) : Ext E w (E.freeze w T) w := by
 refine ⟨le_freeze hI T, Nat.le_refl _, fun a u hu => ?_, fun _ _ _ => rfl, fun b c hc => ?_⟩
 ·simp only [Env.freeze] at hu
  split at hu
  ·rename_i h
   obtain ⟨b, c, _, hb, he, _⟩ := h
   exact .inr (.inr ⟨b, c, hb, he⟩)
  ·exact .inl hu
 ·simp only [Env.freeze] at hc
  split at hc
  ·cases hc
  ·exact .inr ⟨b, c, hc, rfl⟩
theorem Ext.alike {w' : World} (ha : Alike w w') : Ext E w E w' := ⟨Le.refl E, by rw [ha.1]; exact Nat.le_refl _, fun _ _ h => .inl h, fun i _ _ => by rw [ha.1], fun b c h => .inr ⟨b, c, h, rfl⟩⟩
theorem Ext.post {E' : Env} {w' : World} {u : Upd} (hp : Post P w₀ E E' w w' u) : Ext E w E' w' := by
 refine ⟨hp.le, hp.size, fun a v hv => .inl (hp.known ▸ hv), fun i hi hn => hp.frame i hi fun b c hu hne => ?_, fun b c hc => ?_⟩
 ·cases hc : E.H b with
  |none => exact absurd hc hne
  |some c' => exact hn b c' hc
 ·by_cases h : ∃ c0, u = some (b, c0)
  ·obtain ⟨c0, h⟩ := h
   rcases hp.moved b c0 h with h1 | ⟨c', h1, h2⟩
   ·exact .inl h1
   ·exact .inr ⟨b, c', h1, h2⟩
  ·have hne : ∀ c0, u ≠ some (b, c0) := fun c0 e => h ⟨c0, e⟩
   have hpl := (hp.place b hne).1
   have hH : E'.H b = E.H b := by
    rw [hp.heap]
    cases u with
    |none => rfl
    |some p =>
     obtain ⟨b0, c0⟩ := p
     exact Heap.put_ne _ _ (fun e => hne c0 (by rw [e]))
   exact .inr ⟨b, c, hH ▸ hc, hpl.symm⟩
end
end Go.Pi
end
section
namespace Go.Pi
open Go.RowKit
def H0 (ch : Option Chunk) : Heap := fun b => if b = 0 then ch else none
structure Back (P : Program) (w₀ : World) (E : Env) (w : World) (ch : Option Chunk) (r : PV) (cells : List PV) (v : Value) (E' : Env) (w' : World) : Prop where
 rep : Rep E' r v
 deep : deepB r = true
 inv : Inv P w₀ E' w'
 ext : Ext E w E' w'
 chunk : ∀ c, ch = some c → E'.H 0 = some ⟨c.e, 0, cells, c.s⟩ ∧ deepL cells = true
def FnOk (P : Program) (f : Nat) : Prop := ∃ fn, P.funcs[f]? = some fn ∧ fn.body.isNone = false ∧ (fn.name == "runtime.NumGoroutine") = false
def SimCall (P : Program) (w₀ : World) (callF : CallF) : Prop :=
 ∀ f args ch r cells, callF f args ch = some (r, cells) → FnOk P f ∧ ((∀ c, ch = some c → c.gen = 0) → ∀ (E : Env) (w : World) (vs : List Value), Inv P w₀ E w → E.H = H0 ch → (∀ b g, E.K b g → g < 1) → Reps E args vs →
  Calls P f vs.toArray w fun e w' => ∃ v E', e = .returned v ∧ Back P w₀ E w ch r cells v E' w')
section
variable {P : Program} {w₀ : World} {E : Env} {w : World}
theorem Reps.deep {E E' : Env} (hF : ∀ a u, E.F a = some u → E'.F a = some u) {xs : List PV} {vs : List Value} (h : Reps E xs vs) (hd : deepL xs = true) : Reps E' xs vs :=
 ⟨h.1, fun i c v hc hv => (h.2 i c v hc hv).deep hF (deepL_mem hd c (List.mem_of_getElem? hc))⟩
theorem freeze_H (E : Env) (w : World) (T : List Nat) : (E.freeze w T).H = E.H.drop T := rfl
theorem settleL_all (hI : Inv P w₀ E w) {n : Nat} {xs ys : List PV} {vs : List Value} {ids : List Nat} (h : settleL (settle n E.H) xs = some (ys, ids)) (hR : Reps E xs vs) :
  Reps (E.freeze w ids) ys vs ∧ deepL ys = true :=
 let ⟨a, b, _⟩ := settleL_ok (T := ids) hI (fun x y v i h hT hx => settle_ok hI n x y v i h hT hx) xs ys vs ids h (fun _ h => h) hR
 ⟨a, b⟩
structure Called (P : Program) (w₀ : World) (E : Env) (w : World) (r : PV) (H' : Heap) (v : Value) (E' : Env) (w' : World) : Prop where
 rep : Rep E' r v
 inv : Inv P w₀ E' w'
 ext : Ext E w E' w'
 heap : E'.H = H'
 used : E'.K = E.K
theorem call_none {callF : CallF} (hS : SimCall P w₀ callF) (hI : Inv P w₀ E w) {f : Nat} {args ys : List PV} {ids : List Nat} {vs : List Value} {r : PV} {cells : List PV} (hset : settleL (settle depth E.H) args = some (ys, ids)) (hR : Reps E args vs)
  (hrun : callF f ys none = some (r, cells)) : Calls P f vs.toArray w fun e w' => ∃ v E', e = .returned v ∧ Called P w₀ E w r (E.H.drop ids) v E' w' := by
 obtain ⟨h1, h2⟩ := settleL_all hI hset hR
 have hI1 := inv_freeze hI ids
 have hX1 := Ext.freeze hI ids
 let E1 := E.freeze w ids
 let Ec : Env := ⟨fun _ _ => False, E1.F, E.β, E.κ, H0 none⟩
 have hIc : Inv P w₀ Ec w := ⟨hI1.below, hI1.cell, hI1.old, fun b c hc => by simp [Ec, H0] at hc⟩
 refine ((hS f ys none r cells hrun).2 (fun c h => by cases h) Ec w vs hIc rfl (fun _ _ h => h.elim) (Reps.deep (E := E1) (E' := Ec) (fun _ _ h => h) h1 h2)).mono ?_
 rintro e w' ⟨v, E2, rfl, hb⟩
 let E' : Env := ⟨E.K, E2.F, E.β, E.κ, E.H.drop ids⟩
 have hle : Le E1 E' := ⟨fun _ _ h => h, fun a u h => hb.ext.le.F a u h, fun b c' hc _ => ⟨c', hc, rfl, rfl, rfl⟩⟩
 have hframe : ∀ i, i < w.heap.size → w'.heap[i]? = w.heap[i]? := fun i hi => hb.ext.frame i hi fun b c hc => by simp [Ec, H0] at hc
 refine ⟨v, E', rfl, Rep.deep (E := E2) (E' := E') (fun _ _ h => h) hb.rep hb.deep, ⟨hb.inv.below, hb.inv.cell, hb.inv.old, fun x c hc => ?_⟩, ⟨hX1.le.trans hle, hb.ext.size, fun a u hu => ?_, fun i hi _ => hframe i hi, fun x c hc => ?_⟩, rfl, rfl⟩
 ·have hx := hI1.chunk x c hc
  have hlt := hI1.block_lt (b := x) hc
  refine ⟨hx.used, hx.last, hx.own, hx.apart, fun a ha => ?_, ?_, hx.flat⟩
  ·show E2.F a = none
   cases hF : E2.F a with
   |none => rfl
   |some u =>
    rcases hb.ext.known a u hF with h | h | ⟨b, c', h, _⟩
    ·have := hx.free a ha; rw [show E1.F a = some u from h] at this; cases this
    ·have : a.block = E.β x := ha
     have h' : w.heap.size ≤ a.block := h
     have : E.β x < w.heap.size := hlt
     omega
    ·simp [Ec, H0] at h
  ·obtain ⟨cs, h1, h2, h3, h4⟩ := hx.cells
   exact ⟨cs, (hframe _ hlt).trans h1, h2, h3, h4.mono hle⟩
 ·rcases hb.ext.known a u hu with h | h | ⟨b, c', h, _⟩
  ·exact hX1.known a u h
  ·exact .inr (.inl h)
  ·simp [Ec, H0] at h
 ·exact hX1.own x c hc
theorem call_some {callF : CallF} (hS : SimCall P w₀ callF) (hI : Inv P w₀ E w) {f b g : Nat} {rest ys : List PV} {ids : List Nat} {vs : List Value} {r : PV} {cells : List PV} {c : Chunk} (hc : E.H b = some c) (hg : c.gen = g) (hdc : deepL c.cells = true) (hbi : ids.contains b = false)
  (hset : settleL (settle depth E.H) rest = some (ys, ids)) (hR : Reps E (.ptr b g 0 :: rest) vs) (hrun : callF f (.ptr 0 0 0 :: ys) (some ⟨c.e, 0, c.cells, c.s⟩) = some (r, cells)) (hcl : cells.length = c.cells.length) :
  Calls P f vs.toArray w fun e w' => ∃ v E', e = .returned v ∧ Called P w₀ E w r ((E.H.drop ids).put b (some ⟨c.e, c.gen, cells, c.s⟩)) v E' w' := by
 obtain ⟨v0, us, rfl, hv0, hRr⟩ := hR.head
 obtain ⟨h1, h2⟩ := settleL_all hI hset hRr
 have hI1 := inv_freeze hI ids
 have hX1 := Ext.freeze hI ids
 have hb' : b ∉ ids := by simpa using hbi
 let E1 := E.freeze w ids
 have hc1 : E1.H b = some c := by show (if b ∈ ids then none else E.H b) = _; rw [if_neg hb', hc]
 have hx1 := hI1.chunk b c hc1
 let Ec : Env := ⟨fun x y => x = 0 ∧ y = 0, E1.F, fun _ => E.β b, fun _ => E.κ b, H0 (some ⟨c.e, 0, c.cells, c.s⟩)⟩
 have hIc : Inv P w₀ Ec w := by
  refine ⟨hI1.below, hI1.cell, hI1.old, fun x c' hx => ?_⟩
  simp only [Ec, H0] at hx
  split at hx
  ·rename_i hx0
   subst hx0
   injection hx with hx
   subst hx
   refine ⟨⟨rfl, rfl⟩, fun g' hg' hk => by have := hk.2; have : 0 < g' := hg'; omega, hx1.own, fun b' c'' hb' _ => ?_, hx1.free, ?_, hx1.flat⟩
   ·simp only [Ec, H0] at hb'
    split at hb'
    ·assumption
    ·cases hb'
   ·obtain ⟨cs, k1, k2, k3, k4⟩ := hx1.cells
    exact ⟨cs, k1, k2, k3, Reps.deep (E := E1) (E' := Ec) (fun _ _ h => h) k4 hdc⟩
  ·cases hx
 have hargs : Reps Ec (.ptr 0 0 0 :: ys) (v0 :: us) := by
  refine .cons ?_ (Reps.deep (E := E1) (E' := Ec) (fun _ _ h => h) h1 h2)
  obtain ⟨hv, _, hp⟩ := hv0.ptr_inv
  exact .ptr 0 0 0 v0 hv ⟨rfl, rfl⟩ fun _ _ _ => hp c hc hg
 refine ((hS f _ _ r cells hrun).2 (fun c' h => by injection h with h; rw [← h]) Ec w (v0 :: us) hIc rfl (fun _ _ h => by have := h.2; omega) hargs).mono ?_
 rintro e w' ⟨v, E2, rfl, hb2⟩
 obtain ⟨hch, hdcells⟩ := hb2.chunk _ rfl
 have hβ2 : E2.β 0 = E.β b := by
  obtain ⟨_, _, _, h3, _⟩ := hb2.ext.le.H 0 _ hch ⟨rfl, rfl⟩
  exact h3
 have hκ2 : E2.κ 0 = E.κ b := by
  obtain ⟨_, _, _, _, h3⟩ := hb2.ext.le.H 0 _ hch ⟨rfl, rfl⟩
  exact h3
 let E' : Env := ⟨E.K, E2.F, E.β, E.κ, (E.H.drop ids).put b (some ⟨c.e, c.gen, cells, c.s⟩)⟩
 have hle : Le E1 E' := by
  refine ⟨fun _ _ h => h, fun a u h => hb2.ext.le.F a u h, fun x c' hx _ => ?_⟩
  by_cases e : x = b
  ·subst e
   simp only [E', Heap.put_same, Option.some.injEq] at hx
   subst hx
   exact ⟨c, hc1, rfl, rfl, rfl⟩
  ·simp only [E', Heap.put_ne _ _ e] at hx
   exact ⟨c', hx, rfl, rfl, rfl⟩
 have hcown : ∀ i, (∃ x c', Ec.H x = some c' ∧ Ec.β x = i) → i = E.β b := by
  rintro i ⟨x, c', _, h⟩; exact h.symm
 have hframe : ∀ i, i < w.heap.size → i ≠ E.β b → w'.heap[i]? = w.heap[i]? := fun i hi hne => hb2.ext.frame i hi fun x c' hx he => hne he.symm
 refine ⟨v, E', rfl, Rep.deep (E := E2) (E' := E') (fun _ _ h => h) hb2.rep hb2.deep, ⟨hb2.inv.below, hb2.inv.cell, hb2.inv.old, fun x c' hx => ?_⟩, ⟨hX1.le.trans hle, hb2.ext.size, fun a u hu => ?_, fun i hi hn => ?_, fun x c' hx => ?_⟩, rfl, rfl⟩
 ·have hapart : ∀ y c'', E'.H y = some c'' → ∃ c3, E1.H y = some c3 := by
   intro y c'' hy
   by_cases e : y = b
   ·subst e; exact ⟨c, hc1⟩
   ·simp only [E', Heap.put_ne _ _ e] at hy; exact ⟨c'', hy⟩
  by_cases e : x = b
  ·subst e
   simp only [E', Heap.put_same, Option.some.injEq] at hx
   subst hx
   have h0 := hb2.inv.chunk 0 _ hch
   refine ⟨hx1.used, hx1.last, hx1.own, fun y c'' hy he => ?_, fun a ha => h0.free a (by rw [hβ2]; exact ha), ?_, h0.flat⟩
   ·obtain ⟨c3, h3⟩ := hapart y c'' hy
    exact hx1.apart y c3 h3 he
   ·obtain ⟨cs, k1, k2, k3, k4⟩ := h0.cells
    rw [hβ2] at k1
    rw [hκ2] at k3
    exact ⟨cs, k1, k2, k3, Reps.deep (E := E2) (E' := E') (fun _ _ h => h) k4 hdcells⟩
  ·simp only [E', Heap.put_ne _ _ e] at hx
   have hx' := hI1.chunk x c' hx
   have hlt := hI1.block_lt (b := x) hx
   have hne : E.β x ≠ E.β b := fun h => e (hx1.apart x c' hx h)
   refine ⟨hx'.used, hx'.last, hx'.own, fun y c'' hy he => ?_, fun a ha => ?_, ?_, hx'.flat⟩
   ·obtain ⟨c3, h3⟩ := hapart y c'' hy
    exact hx'.apart y c3 h3 he
   ·show E2.F a = none
    have ha' : a.block = E.β x := ha
    cases hF : E2.F a with
    |none => rfl
    |some u =>
     rcases hb2.ext.known a u hF with h | h | ⟨y, c'', h, he⟩
     ·have := hx'.free a ha; rw [show E1.F a = some u from h] at this; cases this
     ·have : E.β x < w.heap.size := hlt
      omega
     ·have : E.β b = a.block := he
      omega
   ·obtain ⟨cs, k1, k2, k3, k4⟩ := hx'.cells
    exact ⟨cs, (hframe _ hlt hne).trans k1, k2, k3, k4.mono hle⟩
 ·rcases hb2.ext.known a u hu with h | h | ⟨y, c'', h, he⟩
  ·exact hX1.known a u h
  ·exact .inr (.inl h)
  ·exact .inr (.inr ⟨b, c, hc, he⟩)
 ·exact hframe i hi (fun e => hn b c hc e.symm)
 ·by_cases e : x = b
  ·subst e; exact .inr ⟨x, c, hc, rfl⟩
  ·simp only [E', Heap.put_ne _ _ e] at hx
   exact hX1.own x c' hx
theorem call_fn {callF : CallF} (hS : SimCall P w₀ callF) {H H' : Heap} {f : Nat} {args : List PV} {r : PV} (hrun : runCall callF H f args = some (r, H')) : FnOk P f := by
 have hrun := runCall_0 hrun
 unfold runCall0 at hrun
 split at hrun
 ·split at hrun
  ·split at hrun
   ·simp only [Option.bind_eq_some_iff] at hrun
    obtain ⟨⟨r', cells⟩, hcall, _⟩ := hrun
    exact (hS _ _ _ _ _ hcall).1
   ·cases hrun
  ·cases hrun
 ·split at hrun
  ·simp only [Option.map_eq_some_iff, Prod.mk.injEq] at hrun
   obtain ⟨⟨r', cells⟩, hcall, _⟩ := hrun
   exact (hS _ _ _ _ _ hcall).1
  ·cases hrun
theorem call_sim {callF : CallF} (hS : SimCall P w₀ callF) (hI : Inv P w₀ E w) {f : Nat} {args : List PV} {vs : List Value} {r : PV} {H' : Heap} (hR : Reps E args vs) (hrun : runCall callF E.H f args = some (r, H')) :
  Calls P f vs.toArray w fun e w' => ∃ v E', e = .returned v ∧ Called P w₀ E w r H' v E' w' := by
 have hrun := runCall_0 hrun
 unfold runCall0 at hrun
 split at hrun
 ·rename_i b g rest
  split at hrun
  ·rename_i c ys ids hc hset
   split at hrun
   ·rename_i hcond
    simp only [Option.bind_eq_some_iff] at hrun
    obtain ⟨⟨r', cells⟩, hcall, hrun⟩ := hrun
    split at hrun
    ·rename_i hcl
     simp only [Option.some.injEq, Prod.mk.injEq] at hrun
     obtain ⟨rfl, rfl⟩ := hrun
     exact call_some hS hI hc hcond.1 hcond.2.1 hcond.2.2 hset hR hcall hcl
    ·cases hrun
   ·cases hrun
  ·cases hrun
 ·split at hrun
  ·rename_i ys ids hset
   simp only [Option.map_eq_some_iff, Prod.mk.injEq] at hrun
   obtain ⟨⟨r', cells⟩, hcall, rfl, rfl⟩ := hrun
   exact call_none hS hI hset hR hcall
  ·cases hrun
end
end Go.Pi
end
section
namespace Go.Pi
open Go.RowKit
def kCall : K → Bool
 |.app _ _ _ _ _ | .call _ _ | .callv _ _ => true
 |_ => false
theorem compile_kCall {P : Program} {o : Oper} {k : K} (h : compileOp P o = some k) (hk : kCall k = true) : ∃ c, o.op = .call c ∧ compileCall P c = some k := by
 obtain ⟨dst, op, ty, pos, aft, gd⟩ := o
 cases op with
 |call c => exact ⟨c, rfl, by simpa only [compileOp] using h⟩
 |slice t x lo hi mx =>
  exfalso
  cases mx with
  |some m => simp [compileOp] at h
  |none =>
   simp only [compileOp, bind, Option.bind_eq_some_iff] at h
   obtain ⟨_, _, _, _, _, _, h⟩ := h
   split at h <;> first
    |(simp only [Option.bind_eq_some_iff, Option.some.injEq] at h; obtain ⟨_, _, rfl⟩ := h; cases hk; done)
    |(simp only [Option.bind_eq_some_iff, Option.some.injEq] at h; obtain ⟨_, _, _, _, rfl⟩ := h; cases hk; done)
    |(cases h; done)
 |typeAssert x xt t ok =>
  exfalso
  cases ok with
  |false => simp [compileOp] at h
  |true =>
   simp only [compileOp, bind, Option.bind_eq_some_iff] at h
   obtain ⟨_, _, _, _, h⟩ := h
   split at h
   ·cases h
   ·cases h
   ·split at h
    ·simp only [Option.bind_eq_some_iff, Option.some.injEq] at h; obtain ⟨_, _, _, _, rfl⟩ := h; cases hk
    ·cases h
 |binOp op t x y yt =>
  exfalso
  simp only [compileOp, bind, Option.bind_eq_some_iff] at h
  obtain ⟨_, _, h⟩ := h
  split at h <;> first
   |(simp only [Option.bind_eq_some_iff, Option.some.injEq] at h; obtain ⟨_, _, _, _, rfl⟩ := h; cases hk; done)
   |(cases h; done)
 |convert src dst x =>
  exfalso
  simp only [compileOp, bind, Option.bind_eq_some_iff] at h
  obtain ⟨_, _, _, _, h⟩ := h
  split at h
  ·simp only [Option.bind_eq_some_iff, Option.some.injEq] at h; obtain ⟨_, _, rfl⟩ := h; cases hk
  ·split at h
   ·simp only [Option.map_eq_some_iff] at h; obtain ⟨_, _, rfl⟩ := h; cases hk
   ·cases h
  ·simp only [Option.bind_eq_some_iff, Option.some.injEq] at h; obtain ⟨_, _, rfl⟩ := h; cases hk
  ·cases h
 |makeInterface t x =>
  exfalso
  simp only [compileOp, bind, Option.bind_eq_some_iff] at h
  obtain ⟨_, _, h⟩ := h
  split at h
  ·cases h
  ·simp only [Option.bind_eq_some_iff, Option.some.injEq] at h; obtain ⟨_, _, rfl⟩ := h; cases hk
 |buildSlice t len ps =>
  exfalso
  simp only [compileOp, bind, Option.bind_eq_some_iff] at h
  obtain ⟨_, _, _, _, h⟩ := h
  split at h
  ·simp at h
  ·simp only [Option.bind_eq_some_iff] at h
   obtain ⟨_, _, h⟩ := h
   split at h
   ·cases h
   ·simp only [Option.bind_eq_some_iff, Option.some.injEq] at h; obtain ⟨_, _, rfl⟩ := h; cases hk
 |makeSlice t l c =>
  exfalso
  simp only [compileOp, bind, Option.bind_eq_some_iff] at h
  obtain ⟨_, _, _, _, _, _, _, _, h⟩ := h
  split at h
  ·simp at h
  ·simp only [Option.bind_eq_some_iff, Option.some.injEq] at h; obtain ⟨_, _, _, _, rfl⟩ := h; cases hk
 |fieldAddr t x f =>
  exfalso
  simp only [compileOp] at h
  split at h
  ·simp only [bind, Option.bind_eq_some_iff] at h
   obtain ⟨_, _, _, _, h⟩ := h
   split at h
   ·simp at h
   ·simp only [Option.bind_eq_some_iff, Option.some.injEq] at h; obtain ⟨_, _, rfl⟩ := h; cases hk
  ·cases h
 |index t x i =>
  exfalso
  simp only [compileOp, bind, Option.bind_eq_some_iff] at h
  obtain ⟨_, _, h⟩ := h
  split at h
  ·simp only [Option.bind_eq_some_iff, Option.some.injEq] at h; obtain ⟨_, _, _, _, rfl⟩ := h; cases hk
  ·cases h
 |_ =>
  exfalso
  first
   |(simp [compileOp] at h; done)
   |(simp only [compileOp, bind, Option.bind_eq_some_iff, Option.some.injEq] at h
     first
      |(obtain ⟨_, _, rfl⟩ := h; cases hk; done)
      |(obtain ⟨_, _, _, _, rfl⟩ := h; cases hk; done)
      |(obtain ⟨_, _, _, _, _, _, rfl⟩ := h; cases hk; done)
      |(obtain ⟨_, _, _, _, _, _, _, _, rfl⟩ := h; cases hk; done))
theorem compileCall_app {P : Program} {c : Call} {e s b : Nat} {yd yx : Opd} (h : compileCall P c = some (.app e s b yd yx)) :
  ∃ d x t u z, c = ⟨.builtin .append, #[d, x], #[t, u]⟩ ∧ compileOpd d = some yd ∧ compileOpd x = some yx ∧ P.underlying t = some (.slice e) ∧ ((∃ e', P.underlying u = some (.slice e')) ∨ P.underlying u = some .string) ∧ sizeP P e = some s ∧ s ≠ 0 ∧ bytesP P e = some b ∧ b ≠ 0 ∧ zeroP P e = some z ∧ z.length = s := by
 obtain ⟨cl, as, ts⟩ := c
 unfold compileCall at h
 simp only at h
 split at h
 ·simp only [bind, Option.bind_eq_some_iff] at h
  obtain ⟨_, _, h⟩ := h
  split at h <;> first
   |(simp only [Option.bind_eq_some_iff, Option.some.injEq] at h; obtain ⟨_, _, h⟩ := h; cases h; done)
   |(cases h; done)
 ·rename_i d x t u has hts
  simp only [bind, Option.bind_eq_some_iff] at h
  obtain ⟨e', he, s', hs, b', hb, z, hz, h⟩ := h
  have he' : P.underlying t = some (.slice e') := by
   unfold elemP at he
   split at he
   ·rename_i hu; injection he with he; rw [← he]; exact hu
   ·cases he
  split at h
  ·simp at h
  ·rename_i hcond
   simp only [Option.bind_eq_some_iff] at h
   obtain ⟨du, hdu, h⟩ := h
   split at h
   ·simp only [Option.bind_eq_some_iff, Option.some.injEq] at h
    obtain ⟨pd, hpd, px, hpx, h⟩ := h
    injection h with h1 h2 h3 h4 h5
    subst h1; subst h2; subst h3; subst h4; subst h5
    exact ⟨d, x, t, u, z, by rw [arr2 has, arr2 hts], hpd, hpx, he', .inl ⟨_, hdu⟩, hs, by omega, hb, by omega, hz, by omega⟩
   ·simp only [Option.bind_eq_some_iff, Option.some.injEq] at h
    obtain ⟨pd, hpd, px, hpx, h⟩ := h
    injection h with h1 h2 h3 h4 h5
    subst h1; subst h2; subst h3; subst h4; subst h5
    exact ⟨d, x, t, u, z, by rw [arr2 has, arr2 hts], hpd, hpx, he', .inr hdu, hs, by omega, hb, by omega, hz, by omega⟩
   ·cases h
 ·simp only [bind, Option.bind_eq_some_iff, Option.some.injEq] at h; obtain ⟨_, _, _, _, h⟩ := h; cases h
 ·simp only [bind, Option.bind_eq_some_iff, Option.some.injEq] at h; obtain ⟨_, _, _, _, h⟩ := h; cases h
 ·simp only [bind, Option.bind_eq_some_iff] at h
  obtain ⟨_, _, h⟩ := h
  split at h
  ·split at h
   ·cases h
   ·simp only [Option.bind_eq_some_iff, Option.some.injEq] at h; obtain ⟨_, _, h⟩ := h; cases h
  ·split at h
   ·split at h
    ·cases h
    ·split at h
     ·simp only [Option.bind_eq_some_iff, Option.some.injEq] at h; obtain ⟨_, _, h⟩ := h; cases h
     ·split at h
      ·simp only [Option.bind_eq_some_iff, Option.some.injEq] at h; obtain ⟨_, _, h⟩ := h; cases h
      ·cases h
   ·cases h
 ·simp only [bind, Option.bind_eq_some_iff, Option.some.injEq] at h; obtain ⟨_, _, h⟩ := h; cases h
 ·cases h
theorem compileCall_call {P : Program} {c : Call} {f : Nat} {l : List Opd} (h : compileCall P c = some (.call f l)) :
  ∃ as ts fn, c = ⟨.value (.func f), as, ts⟩ ∧ compileOpds as.toList = some l ∧ P.funcs[f]? = some fn ∧ fn.body.isNone = false ∧ (fn.name == "runtime.NumGoroutine") = false := by
 obtain ⟨cl, as, ts⟩ := c
 unfold compileCall at h
 simp only at h
 split at h
 ·simp only [bind, Option.bind_eq_some_iff] at h
  obtain ⟨_, _, h⟩ := h
  split at h <;> first
   |(simp only [Option.bind_eq_some_iff, Option.some.injEq] at h; obtain ⟨_, _, h⟩ := h; cases h; done)
   |(cases h; done)
 ·simp only [bind, Option.bind_eq_some_iff] at h
  obtain ⟨e', he, s', hs, b', hb, z, hz, h⟩ := h
  split at h
  ·simp at h
  ·simp only [Option.bind_eq_some_iff] at h
   obtain ⟨du, hdu, h⟩ := h
   split at h <;> first
    |(simp only [Option.bind_eq_some_iff, Option.some.injEq] at h; obtain ⟨_, _, _, _, h⟩ := h; cases h; done)
    |(cases h; done)
 ·simp only [bind, Option.bind_eq_some_iff, Option.some.injEq] at h; obtain ⟨_, _, _, _, h⟩ := h; cases h
 ·simp only [bind, Option.bind_eq_some_iff, Option.some.injEq] at h; obtain ⟨_, _, _, _, h⟩ := h; cases h
 ·simp only [bind, Option.bind_eq_some_iff] at h
  obtain ⟨fn, hfn, h⟩ := h
  split at h
  ·rename_i hb
   split at h
   ·cases h
   ·rename_i hn
    simp only [Option.bind_eq_some_iff, Option.some.injEq] at h
    obtain ⟨l', hl, h⟩ := h
    injection h with h1 h2
    subst h1; subst h2
    exact ⟨as, ts, fn, rfl, hl, hfn, by rw [hb]; rfl, by simpa using hn⟩
  ·split at h
   ·split at h
    ·cases h
    ·split at h
     ·simp only [Option.bind_eq_some_iff, Option.some.injEq] at h; obtain ⟨_, _, h⟩ := h; cases h
     ·split at h
      ·simp only [Option.bind_eq_some_iff, Option.some.injEq] at h; obtain ⟨_, _, h⟩ := h; cases h
      ·cases h
   ·cases h
 ·simp only [bind, Option.bind_eq_some_iff, Option.some.injEq] at h; obtain ⟨_, _, h⟩ := h; cases h
 ·cases h
theorem compileCall_callv {P : Program} {c : Call} {fo : Opd} {l : List Opd} (h : compileCall P c = some (.callv fo l)) :
  ∃ n as ts, c = ⟨.value (.tmp n), as, ts⟩ ∧ fo = .t n ∧ compileOpds as.toList = some l := by
 obtain ⟨cl, as, ts⟩ := c
 unfold compileCall at h
 simp only at h
 split at h
 ·simp only [bind, Option.bind_eq_some_iff] at h
  obtain ⟨_, _, h⟩ := h
  split at h <;> first
   |(simp only [Option.bind_eq_some_iff, Option.some.injEq] at h; obtain ⟨_, _, h⟩ := h; cases h; done)
   |(cases h; done)
 ·simp only [bind, Option.bind_eq_some_iff] at h
  obtain ⟨e', he, s', hs, b', hb, z, hz, h⟩ := h
  split at h
  ·simp at h
  ·simp only [Option.bind_eq_some_iff] at h
   obtain ⟨du, hdu, h⟩ := h
   split at h <;> first
    |(simp only [Option.bind_eq_some_iff, Option.some.injEq] at h; obtain ⟨_, _, _, _, h⟩ := h; cases h; done)
    |(cases h; done)
 ·simp only [bind, Option.bind_eq_some_iff, Option.some.injEq] at h; obtain ⟨_, _, _, _, h⟩ := h; cases h
 ·simp only [bind, Option.bind_eq_some_iff, Option.some.injEq] at h; obtain ⟨_, _, _, _, h⟩ := h; cases h
 ·simp only [bind, Option.bind_eq_some_iff] at h
  obtain ⟨fn, hfn, h⟩ := h
  split at h
  ·split at h
   ·cases h
   ·simp only [Option.bind_eq_some_iff, Option.some.injEq] at h; obtain ⟨_, _, h⟩ := h; cases h
  ·split at h
   ·split at h
    ·cases h
    ·split at h
     ·simp only [Option.bind_eq_some_iff, Option.some.injEq] at h; obtain ⟨_, _, h⟩ := h; cases h
     ·split at h
      ·simp only [Option.bind_eq_some_iff, Option.some.injEq] at h; obtain ⟨_, _, h⟩ := h; cases h
      ·cases h
   ·cases h
 ·simp only [bind, Option.bind_eq_some_iff, Option.some.injEq] at h
  obtain ⟨l', hl, h⟩ := h
  injection h with h1 h2
  subst h1; subst h2
  exact ⟨_, as, ts, rfl, rfl, hl⟩
 ·cases h
end Go.Pi
end
section
namespace Go.Pi
open Go.RowKit
theorem appRun_upd {H : Heap} {id st e s b : Nat} {d x v : PV} {b' : Nat} {c : Chunk} (h : appRun H id st e s b d x = some (v, some (b', c))) : c.gen = st ∧ b' ∈ (match d with | .row b _ _ => [b] | _ => [id]) := by
 unfold appRun at h
 split at h
 ·split at h
  ·split at h
   ·cases h
   ·split at h
    ·split at h <;> cases h
    ·cases h
   ·cases h
  ·split at h
   ·split at h
    ·cases h; exact ⟨rfl, by simp⟩
    ·cases h
   ·split at h
    ·split at h
     ·cases h; exact ⟨rfl, by simp⟩
     ·cases h
    ·cases h
   ·cases h
 ·cases h
theorem opRun_upd {ev : Opd → PV} {H : Heap} {id st : Nat} {k : K} {v : PV} {b : Nat} {c : Chunk} (hk : kCall k = false) (h : opRun ev H id st k = some (v, some (b, c))) :
  b ∈ (feet ev H id k).2 ∧ (c.gen = st ∨ ∃ c0, H b = some c0 ∧ c0.gen = c.gen) := by
 cases k with
 |app => cases hk
 |call => cases hk
 |callv => cases hk
 |new e z => simp only [opRun, Option.some.injEq, Prod.mk.injEq] at h; obtain ⟨_, rfl, rfl⟩ := h; exact ⟨by simp [feet], .inl rfl⟩
 |box e n x =>
  simp only [opRun] at h
  split at h
  ·split at h
   ·simp only [Option.some.injEq, Prod.mk.injEq] at h; obtain ⟨_, rfl, rfl⟩ := h; exact ⟨by simp [feet], .inl rfl⟩
   ·cases h
  ·cases h
 |bsl e s len z ps =>
  simp only [opRun, Option.map_eq_some_iff, Prod.mk.injEq, Option.some.injEq] at h
  obtain ⟨_, _, _, rfl, rfl⟩ := h
  exact ⟨by simp [feet], .inl rfl⟩
 |mksl e s b' z l c' =>
  simp only [opRun] at h
  split at h
  ·split at h
   ·simp only [Option.some.injEq, Prod.mk.injEq] at h; obtain ⟨_, rfl, rfl⟩ := h; exact ⟨by simp [feet], .inl rfl⟩
   ·cases h
  ·cases h
 |st n x y =>
  simp only [opRun, stRun] at h
  split at h
  ·rename_i b' g off vs hx hv
   split at h
   ·rename_i c0 hc0
    split at h
    ·simp only [Option.some.injEq, Prod.mk.injEq] at h; obtain ⟨_, rfl, rfl⟩ := h
     exact ⟨by simp [feet, hx], .inr ⟨c0, hc0, rfl⟩⟩
    ·cases h
   ·cases h
  ·cases h
 |build z ps => simp only [opRun, Option.map_eq_some_iff, Prod.mk.injEq] at h; obtain ⟨_, _, _, h⟩ := h; cases h
 |bin op x y => simp only [opRun, Option.map_eq_some_iff, Prod.mk.injEq] at h; obtain ⟨_, _, _, h⟩ := h; cases h
 |binp op x y => simp only [opRun, Option.map_eq_some_iff, Prod.mk.injEq] at h; obtain ⟨_, _, _, h⟩ := h; cases h
 |binb op x y => simp only [opRun, Option.map_eq_some_iff, Prod.mk.injEq] at h; obtain ⟨_, _, _, h⟩ := h; cases h
 |un op x => simp only [opRun, Option.map_eq_some_iff, Prod.mk.injEq] at h; obtain ⟨_, _, _, h⟩ := h; cases h
 |ix s x i => simp only [opRun, ixRun] at h; (repeat' split at h) <;> cases h
 |cstr x =>
  simp only [opRun] at h
  split at h
  ·cases h
  ·split at h
   ·simp only [Option.map_eq_some_iff, Prod.mk.injEq] at h; obtain ⟨_, _, _, h⟩ := h; cases h
   ·cases h
 |ext x i =>
  simp only [opRun] at h
  split at h
  ·simp only [Option.map_eq_some_iff, Prod.mk.injEq] at h; obtain ⟨_, _, _, h⟩ := h; cases h
  ·cases h
 |_ => simp only [opRun] at h; (repeat' split at h) <;> cases h
section
variable {P : Program} {w₀ : World} {E : Env} {w : World}
def Gok (w₀ : World) (G : Nat → PV) : Prop := ∀ n (E : Env), (∀ a u, w₀.cell? a = some u → E.F a = some u) → Rep E (G n) (.pointer (some ⟨n, 0, none⟩))
theorem ev_rep {G : Nat → PV} (hG : Gok w₀ G) (hI : Inv P w₀ E w) {t : Nat → PV} {a : Act} (hs : ∀ x, Rep E (t x) (a.tmps.getD x undef)) : ∀ x y, compileOpd x = some y → Rep E (ev G t y) (a.eval x) := by
 intro x y h
 cases x with
 |tmp n => simp only [compileOpd, Option.some.injEq] at h; subst h; exact hs n
 |const v =>
  simp only [compileOpd, Option.map_eq_some_iff] at h
  obtain ⟨x, hx, rfl⟩ := h
  exact (ofConst_rep hx E).1
 |global n => simp only [compileOpd, Option.some.injEq] at h; subst h; exact hG n E hI.old
 |func f =>
  simp only [compileOpd, Option.some.injEq] at h
  subst h
  exact .clo _ [] [] [] [] rfl (fun i hi => absurd hi (by simp)) rfl (fun i hi => absurd hi (by simp))
structure Stepd (P : Program) (w₀ : World) (E : Env) (w : World) (W : List Nat) (st : Nat) (r : PV) (H' : Heap) (z : Value) (E' : Env) (w' : World) : Prop where
 rep : Rep E' r z
 inv : Inv P w₀ E' w'
 ext : Ext E w E' w'
 heap : E'.H = H'
 used : ∀ b g, E'.K b g → E.K b g ∨ (g = st ∧ b ∈ W)
theorem go_sim {callF : CallF} (hS : SimCall P w₀ callF) {G : Nat → PV} (hG : Gok w₀ G) {o : Oper} {k : K} {a : Act} {t : Nat → PV} (hc : compileOp P o = some k) (hI : Inv P w₀ E w) (hs : ∀ x, Rep E (t x) (a.tmps.getD x undef))
  {id st : Nat} {r : PV} {H' : Heap} (hfr : ∀ b, b ∈ (feet (ev G t) E.H id k).2 → ∀ g, st ≤ g → ¬ E.K b g) (hid : kNew k = true → ∀ g, st ≤ g → ¬ E.K id g) (hrun : runGo callF (ev G t) E.H id st k = some (r, H')) {next : Act → World → Prop} {Q : Exit → Act → World → Prop}
  (hK : ∀ z E' w', Stepd P w₀ E w (feet (ev G t) E.H id k).2 st r H' z E' w' → next (a.put o.dst z) w') : o.wp P a w next Q := by
 have hev := ev_rep hG hI hs
 by_cases hk : kCall k = true
 ·obtain ⟨c, hop, hcc⟩ := compile_kCall hc hk
  obtain ⟨dst, op, ty, pos, aft, gd⟩ := o
  simp only at hop
  subst hop
  cases k with
  |app e s b yd yx =>
   obtain ⟨d, x, tt, u, z, rfl, hyd, hyx, ht, hu, hsz, hs0, hb, hb0, hz, hzl⟩ := compileCall_app hcc
   simp only [runGo, runK] at hrun
   cases hset : settle depth E.H (ev G t yx) with
   |none => simp [hset] at hrun
   |some yi =>
    obtain ⟨y, ids⟩ := yi
    simp only [hset, Option.map_eq_some_iff, Prod.mk.injEq] at hrun
    obtain ⟨⟨v, up⟩, happ, rfl, rfl⟩ := hrun
    have hI1 := inv_freeze hI ids
    have hX1 := Ext.freeze hI ids
    obtain ⟨hyR, _, _⟩ := settle_ok hI depth _ y _ ids hset (fun _ h => h) (hev x yx hyx)
    have hfeet : (feet (ev G t) E.H id (.app e s b yd yx)).2 = (match ev G t yd with | .row b _ _ => [b] | _ => [id]) ++ ids := by cases hh : ev G t yd <;> simp [feet, hset, hh]
    have hd1 : Done P w₀ (E.freeze w ids) w ((do pure (Next.value (← Builtin.append_ #[tt, u] ty #[a.eval d, a.eval x])) : Sem Next).run P w) v up := by
     by_cases hrow : ∃ c g l, ev G t yd = .row c g l
     ·obtain ⟨c, g, l, hrow⟩ := hrow
      have hcf : c ∈ (feet (ev G t) E.H id (.app e s b yd yx)).2 := by rw [hfeet, hrow]; simp
      have hdr := (hev d yd hyd).mono hX1.le
      rw [hrow] at hdr happ
      exact done_app (fresh := c) hI1 (hfr c hcf) (ty := ty) ht hu hsz hs0 hb hb0 hz hzl (fun c' g' l' h => by cases h; exact hfr c hcf) hdr hyR happ
     ·have hidm : id ∈ (feet (ev G t) E.H id (.app e s b yd yx)).2 := by
       rw [hfeet]
       cases hv : ev G t yd with
       |row c g l => exact absurd ⟨c, g, l, hv⟩ hrow
       |_ => simp
      exact done_app hI1 (hfr id hidm) (ty := ty) ht hu hsz hs0 hb hb0 hz hzl (fun c' g' l' h => absurd ⟨c', g', l', h⟩ hrow) ((hev d yd hyd).mono hX1.le) hyR happ
    obtain ⟨n, w', E', z', hrun', hn, hz', hp⟩ := hd1
    have hrun2 : (execOp a.eval ⟨dst, .call ⟨.builtin .append, #[d, x], #[tt, u]⟩, ty, pos, aft, gd⟩).run P w = .ok n w' := by
     rw [← hrun']; simp [execOp, resolve, invoke, builtin]
    have hst : Stepd P w₀ E w (feet (ev G t) E.H id (.app e s b yd yx)).2 st v ((E.H.drop ids).upd up) z' E' w' := by
     refine ⟨hz', hp.inv, hX1.trans (Ext.post hp), hp.heap, fun b' g hk' => ?_⟩
     rcases hp.used b' g hk' with h | ⟨c, hc, hg⟩
     ·exact .inl h
     ·subst hc
      obtain ⟨h1, h2⟩ := appRun_upd happ
      exact .inr ⟨hg.trans h1, by rw [hfeet]; exact List.mem_append_left _ h2⟩
    unfold Oper.wp
    rw [hrun2]
    rcases hn with rfl | ⟨rfl, rfl⟩
    ·exact hK z' E' w' hst
    ·exact hK undef E' w' hst
  |call f l =>
   obtain ⟨as, ts, fn, rfl, hl, hfn, hb, hname⟩ := compileCall_call hcc
   have hR := compileOpds_rep hev _ _ hl
   have hcs := call_sim hS hI hR hrun
   have hrun2 : (execOp a.eval ⟨dst, .call ⟨.value (.func f), as, ts⟩, ty, pos, aft, gd⟩).run P w = .ok (.enter f (as.toList.map a.eval).toArray) w := by
    have e1 : as.map a.eval = (as.toList.map a.eval).toArray := by apply Array.ext'; simp
    simp only [execOp, resolve, Deferred.ofValue, Act.eval, Sem.run_bind, Sem.run_pure, Result.andThen_ok, invoke, callFunc, run_program, hfn, hb, hname, e1]
    simp [hfn, hb, hname, e1]
   unfold Oper.wp
   rw [hrun2, Oper.upon_enter]
   refine hcs.mono ?_
   rintro e w' ⟨v, E', rfl, hcd⟩
   exact hK v E' w' ⟨hcd.rep, hcd.inv, hcd.ext, hcd.heap, fun b g h => .inl (hcd.used ▸ h)⟩
  |callv fo l =>
   obtain ⟨n, as, ts, rfl, rfl, hl⟩ := compileCall_callv hcc
   have hR := compileOpds_rep hev _ _ hl
   simp only [runGo] at hrun
   have hfo := hev (.tmp n) (.t n) rfl
   cases hv : ev G t (.t n) with
   |clo fx first caps =>
    rw [hv] at hfo
    cases fx with
    |func f =>
     simp only [hv] at hrun
     generalize hz : a.eval (.tmp n) = z at hfo
     cases hfo with
     |clo _ _ _ vs us hl1 h1 hl2 h2 =>
      have hRa : Reps E (first ++ l.map (ev G t) ++ caps) (vs ++ as.toList.map a.eval ++ us) := ((Reps.mk hl1 h1).append hR).append (Reps.mk hl2 h2)
      have hcs := call_sim hS hI hRa hrun
      obtain ⟨fn, hfn, hb, hname⟩ := call_fn hS hrun
      have hrun2 : (execOp a.eval ⟨dst, .call ⟨.value (.tmp n), as, ts⟩, ty, pos, aft, gd⟩).run P w = .ok (.enter f (vs ++ as.toList.map a.eval ++ us).toArray) w := by
       have e1 : vs.toArray ++ as.map a.eval ++ us.toArray = (vs ++ as.toList.map a.eval ++ us).toArray := by apply Array.ext'; simp
       simp only [execOp, resolve, hz, Deferred.ofValue, Sem.run_bind, Sem.run_pure, Result.andThen_ok, invoke, callFunc, run_program, hfn, hb, hname, e1]
       simp
      unfold Oper.wp
      rw [hrun2, Oper.upon_enter]
      refine hcs.mono ?_
      rintro e w' ⟨v, E', rfl, hcd⟩
      exact hK v E' w' ⟨hcd.rep, hcd.inv, hcd.ext, hcd.heap, fun b g h => .inl (hcd.used ▸ h)⟩
    |_ => simp [hv] at hrun
   |_ => simp [hv] at hrun
  |_ => cases hk
 ·have hk' : kCall k = false := by simpa using hk
  have hrun' : (opRun (ev G t) E.H id st k).map (fun r => (r.1, E.H.upd r.2)) = some (r, H') := by
   cases k <;> first | exact hrun | cases hk'
  simp only [Option.map_eq_some_iff, Prod.mk.injEq] at hrun'
  obtain ⟨⟨v, up⟩, hop, rfl, rfl⟩ := hrun'
  have hupd : ∀ b c, up = some (b, c) → b ∈ (feet (ev G t) E.H id k).2 ∧ (c.gen = st ∨ ∃ c0, E.H b = some c0 ∧ c0.gen = c.gen) := fun b c h => by
   subst h; exact opRun_upd hk' hop
  have hdone : Done P w₀ E w ((execOp a.eval o).run P w) v up := by
   exact op_ok (fresh := id) hc hI hev (fun hf => hid (by cases k <;> first | (cases hk'; done) | rfl | (cases hf; done))) (fun e s b d x c g l h => by subst h; cases hk') (fun f => rfl) hop
  obtain ⟨n, w', E', z', hrun', hn, hz', hp⟩ := hdone
  have hst : Stepd P w₀ E w (feet (ev G t) E.H id k).2 st v (E.H.upd up) z' E' w' := by
   refine ⟨hz', hp.inv, Ext.post hp, hp.heap, fun b' g hkk => ?_⟩
   rcases hp.used b' g hkk with h | ⟨c, hc, hg⟩
   ·exact .inl h
   ·obtain ⟨h1, h2⟩ := hupd b' c hc
    rcases h2 with h2 | ⟨c0, h3, h4⟩
    ·exact .inr ⟨hg.trans h2, h1⟩
    ·exact .inl (by rw [hg, ← h4]; exact (hI.chunk b' c0 h3).used)
  unfold Oper.wp
  rw [hrun']
  rcases hn with rfl | ⟨rfl, rfl⟩
  ·exact hK z' E' w' hst
  ·exact hK undef E' w' hst
end
end Go.Pi
end
