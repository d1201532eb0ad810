import Derived.KernelRfl
import Derived.Test.YtpnkedaceaodbaaGreatDoorP01
/- Part of the proof. -/
set_option linter.all false
section
namespace Go.Pi
open Go.RowKit
section
variable {P : Program} {w₀ : World} {E : Env} {w : World}
theorem read_isNaN {f : Ieee.Format} {n : Nat} (h : f.infRung < n % f.signWeight) (h1 : f.binade ≤ f.infRung) : (f.read n).isNaN = true := by
 unfold Ieee.Format.read
 rw [if_neg (by omega), if_neg (by omega), if_neg (by omega)]
 rfl
theorem read_nan (k : FloatKind) (x y t : Nat) : (k.format.read (Question.cut (.nanBits k x y) t)).isNaN = true := by
 cases k
 ·have e : Question.cut (.nanBits .f32 x y) t = (t % 2) * 2147483648 + 2139095040 + 1 + (t / 2) % 8388607 := by simp [Question.cut]
  have a : FloatKind.f32.format.signWeight = 2147483648 := by decide
  have b : FloatKind.f32.format.infRung = 2139095040 := by decide
  have c : FloatKind.f32.format.binade = 8388608 := by decide
  rw [e]
  refine read_isNaN ?_ ?_
  ·rw [a, b]
   have hr := Nat.mod_lt (t / 2) (show 0 < 8388607 by decide)
   generalize (t / 2) % 8388607 = r at *
   rcases Nat.mod_two_eq_zero_or_one t with h | h <;> rw [h] <;> omega
  ·rw [b, c]; omega
 ·have e : Question.cut (.nanBits .f64 x y) t = (t % 2) * 9223372036854775808 + 9218868437227405312 + 1 + (t / 2) % 4503599627370495 := by simp [Question.cut]
  have a : FloatKind.f64.format.signWeight = 9223372036854775808 := by decide
  have b : FloatKind.f64.format.infRung = 9218868437227405312 := by decide
  have c : FloatKind.f64.format.binade = 4503599627370496 := by decide
  rw [e]
  refine read_isNaN ?_ ?_
  ·rw [a, b]
   have hr := Nat.mod_lt (t / 2) (show 0 < 4503599627370495 by decide)
   generalize (t / 2) % 4503599627370495 = r at *
   rcases Nat.mod_two_eq_zero_or_one t with h | h <;> rw [h] <;> omega
  ·rw [b, c]; omega
theorem nan_order (k : FloatKind) (x y t m : Nat) : k.format.order (Question.cut (.nanBits k x y) t) m = none ∧ k.format.order m (Question.cut (.nanBits k x y) t) = none := by
 have h := read_nan k x y t
 unfold Ieee.Format.order
 generalize k.format.read (Question.cut (.nanBits k x y) t) = d at *
 cases d with
 |nan s f => exact ⟨by cases k.format.read m <;> rfl, by cases k.format.read m <;> rfl⟩
 |number => cases h
 |infinity => cases h
theorem done_val (hI : Inv P w₀ E w) {s : Sem Value} {v : PV} {z : Value} (hr : s.run P w = .ok z w) (h : Rep E v z) : Done P w₀ E w ((do pure (Next.value (← s)) : Sem Next).run P w) v none :=
 .here hI (z := z) (by simp only [Sem.run_bind, hr, Result.andThen_ok, Sem.run_pure]) h
theorem done_bin (hI : Inv P w₀ E w) {op : BinOp} {t : TypeId} {ox oy : Operand} {x y : PV} {a b : Value} {r : PV} (hx : Rep E x a) (hy : Rep E y b) (h : binRun op x y = some r) :
  Done P w₀ E w ((do pure (Next.value (← (do eqGuard op t ox oy a b; binOp op t a b))) : Sem Next).run P w) r none := by
 cases x with
 |int k n =>
  cases hx
  cases y with
  |int k' m =>
   cases hy
   by_cases hsh : op = .shl ∨ op = .shr
   ·rcases hsh with rfl | rfl
    all_goals
     simp only [binRun] at h
     split at h
     ·rename_i hm
      injection h with h; subst h
      refine done_val hI (z := .int k _) ?_ (.int k _)
      simp only [eqGuard_at_int, Sem.run_bind, Sem.run_pure, Result.andThen_ok, binOp, Op.shift]
      rw [if_neg (by omega)]
      simp
     ·cases h
   ·have hk : k = k' := by
     by_cases hk : k = k'
     ·exact hk
     ·cases op <;> simp [binRun, hk] at h hsh
    subst hk
    cases op <;> simp only [binRun, if_true] at h <;> first
     |(exact absurd (Or.inl rfl) hsh) | (exact absurd (Or.inr rfl) hsh)
     |(injection h with h; subst h; exact done_val hI (by simp [eqGuard_at_int, binOp, Op.intArith, Op.intBits, Op.intCmp, bits]; try rfl) (.int _ _))
     |(injection h with h; subst h; exact done_val hI (by simp [eqGuard_at_int, binOp, Op.intCmp]; try rfl) (.bool _))
     |(split at h
       ·cases h
       ·rename_i hm
        injection h with h; subst h
        exact done_val hI (by simp [eqGuard_at_int, binOp, Op.intDiv, hm]; try rfl) (.int _ _))
     |cases h
  |_ => simp [binRun] at h
 |str s =>
  cases hx
  cases y with
  |str s' =>
   cases hy
   cases op <;> simp only [binRun] at h <;> first
    |(injection h with h; subst h; exact done_val hI (by simp [eqGuard_at_string, binOp, Op.stringOp]; try rfl) (.bool _))
    |(split at h
      ·rename_i hm
       injection h with h; subst h
       refine done_val hI (z := .string (s ++ s')) ?_ (.str _)
       simp only [eqGuard_at_string, Sem.run_bind, Sem.run_pure, Result.andThen_ok, binOp, Op.stringOp]
       rw [if_neg (by simp only [IntKind.max_i64]; omega)]
       simp
      ·cases h)
    |cases h
  |_ => simp [binRun] at h
 |flt k n =>
  cases hx
  cases y with
  |flt k' m =>
   cases hy
   simp only [binRun] at h
   split at h
   ·rename_i hk
    subst hk
    cases op <;> first
     |(injection h with h; subst h; exact done_val hI (by simp [eqGuard_at_float, binOp, Op.floatCmp]; try rfl) (.bool _))
     |(simp only at h
       cases hs : k.format.sub n m with
       |some r' =>
        simp only [hs] at h
        injection h with h; subst h
        exact done_val hI (by simp [eqGuard_at_float, binOp, Op.floatArith, hs]; try rfl) (.flt _ _)
       |none =>
        simp only [hs] at h
        injection h with h; subst h
        refine ⟨_, w.drew, E, .float k (Question.cut (.nanBits k n m) (w.tape w.drawn (.nanBits k n m))), ?_, .inl rfl, .nan k _ ?_, .same hI (Alike.drew w)⟩
        ·simp [eqGuard_at_float, binOp, Op.floatArith, hs, Question.forced]
        ·exact fun m' => nan_order k n m _ m')
     |cases h
   ·cases h
  |_ => simp [binRun] at h
 |nan k =>
  cases y with
  |flt k' m =>
   cases hy
   simp only [binRun] at h
   split at h
   ·rename_i hk
    subst hk
    cases hx with
    |nan _ n hn =>
     cases op <;> first
      |(injection h with h; subst h; exact done_val hI (z := .bool false) (by simp [eqGuard_at_float, binOp, Op.floatCmp, (hn m).1]) (.bool _))
      |(injection h with h; subst h; exact done_val hI (z := .bool true) (by simp [eqGuard_at_float, binOp, Op.floatCmp, (hn m).1]) (.bool _))
      |cases h
   ·cases h
  |_ => simp [binRun] at h
 |_ => simp [binRun] at h
theorem run_equalIn_ptr (d : Nat) {t e : TypeId} (ht : P.underlying t = some (.pointer e)) (p q : Option Addr) (h : p = none ∨ q = none) : (Op.equalIn (d + 1) t (.pointer p) (.pointer q)).run P w = .ok (p.isNone && q.isNone) w := by
 simp only [Op.equalIn, Sem.run_bind, run_underlying ht, Result.andThen_ok]
 cases p with
 |none => cases q <;> rfl
 |some p => cases q with
  |none => rfl
  |some q => simp at h
theorem run_equalIn_bool (d : Nat) {t : TypeId} (ht : P.underlying t = some .bool) (p q : Bool) : (Op.equalIn (d + 1) t (.bool p) (.bool q)).run P w = .ok (p == q) w := by
 simp only [Op.equalIn, Sem.run_bind, run_underlying ht, Result.andThen_ok]
 rfl
theorem binOp_eq_ptr (t : TypeId) (p q : Option Addr) : binOp .eql t (.pointer p) (.pointer q) = (do pure (.bool (← Op.equal t (.pointer p) (.pointer q)))) ∧ binOp .neq t (.pointer p) (.pointer q) = (do pure (.bool (!(← Op.equal t (.pointer p) (.pointer q))))) := by
 cases p <;> cases q <;> exact ⟨rfl, rfl⟩
theorem done_binp (hI : Inv P w₀ E w) {op : BinOp} {t e : TypeId} {ox oy : Operand} {x y : PV} {a b : Value} {r : PV} (ht : P.underlying t = some (.pointer e)) (hx : Rep E x a) (hy : Rep E y b) (h : binpRun op x y = some r) :
  Done P w₀ E w ((do pure (Next.value (← (do eqGuard op t ox oy a b; binOp op t a b))) : Sem Next).run P w) r none := by
 have hp : ∀ {z : PV} {v : Value}, Rep E z v → (∃ cs, z = .fp cs) ∨ (∃ b g o, z = .ptr b g o) → ∃ q, v = .pointer (some q) := by
  intro z v hz hh
  rcases hh with ⟨cs, rfl⟩ | ⟨b, g, o, rfl⟩
  ·obtain ⟨q, _, rfl, _⟩ := hz.fp_inv; exact ⟨q, rfl⟩
  ·exact hz.ptr_inv.1
 have run : ∀ (op : BinOp) (p q : Option Addr) (c : Bool), (op = .eql ∨ op = .neq) → (p = none ∨ q = none) → c = (if op = .eql then (p.isNone && q.isNone) else !(p.isNone && q.isNone)) →
   (do eqGuard op t ox oy (.pointer p) (.pointer q); binOp op t (.pointer p) (.pointer q) : Sem Value).run P w = .ok (.bool c) w := by
  intro op p q c hop hn hc
  subst hc
  have he : (Op.equal t (.pointer p) (.pointer q)).run P w = .ok (p.isNone && q.isNone) w := run_equalIn_ptr 9999 ht p q hn
  rcases hop with rfl | rfl
  ·rw [(binOp_eq_ptr t p q).1, eqGuard_at_pointer]
   simp only [Sem.run_bind, Sem.run_pure, Result.andThen_ok, he, if_true]
  ·rw [(binOp_eq_ptr t p q).2, eqGuard_at_pointer]
   simp only [Sem.run_bind, Sem.run_pure, Result.andThen_ok, he]
   rfl
 have fin : ∀ (op : BinOp) (p q : Option Addr) (c : Bool), a = .pointer p → b = .pointer q → (op = .eql ∨ op = .neq) → (p = none ∨ q = none) → c = (if op = .eql then (p.isNone && q.isNone) else !(p.isNone && q.isNone)) →
   Done P w₀ E w ((do pure (Next.value (← (do eqGuard op t ox oy a b; binOp op t a b))) : Sem Next).run P w) (.bool c) none := by
  intro op p q c ha hb hop hn hc
  subst ha; subst hb
  exact done_val hI (run op p q c hop hn hc) (.bool _)
 unfold binpRun at h
 split at h
 ·injection h with h; subst h
  exact fin _ none none _ hx.nilp_inv hy.nilp_inv (.inl rfl) (.inl rfl) rfl
 ·injection h with h; subst h
  obtain ⟨q, hq⟩ := hp hx (.inl ⟨_, rfl⟩)
  exact fin _ (some q) none _ hq hy.nilp_inv (.inl rfl) (.inr rfl) rfl
 ·injection h with h; subst h
  obtain ⟨q, hq⟩ := hp hx (.inr ⟨_, _, _, rfl⟩)
  exact fin _ (some q) none _ hq hy.nilp_inv (.inl rfl) (.inr rfl) rfl
 ·injection h with h; subst h
  obtain ⟨q, hq⟩ := hp hy (.inl ⟨_, rfl⟩)
  exact fin _ none (some q) _ hx.nilp_inv hq (.inl rfl) (.inl rfl) rfl
 ·injection h with h; subst h
  obtain ⟨q, hq⟩ := hp hy (.inr ⟨_, _, _, rfl⟩)
  exact fin _ none (some q) _ hx.nilp_inv hq (.inl rfl) (.inl rfl) rfl
 ·injection h with h; subst h
  exact fin _ none none _ hx.nilp_inv hy.nilp_inv (.inr rfl) (.inl rfl) rfl
 ·injection h with h; subst h
  obtain ⟨q, hq⟩ := hp hx (.inl ⟨_, rfl⟩)
  exact fin _ (some q) none _ hq hy.nilp_inv (.inr rfl) (.inr rfl) rfl
 ·injection h with h; subst h
  obtain ⟨q, hq⟩ := hp hx (.inr ⟨_, _, _, rfl⟩)
  exact fin _ (some q) none _ hq hy.nilp_inv (.inr rfl) (.inr rfl) rfl
 ·injection h with h; subst h
  obtain ⟨q, hq⟩ := hp hy (.inl ⟨_, rfl⟩)
  exact fin _ none (some q) _ hx.nilp_inv hq (.inr rfl) (.inl rfl) rfl
 ·injection h with h; subst h
  obtain ⟨q, hq⟩ := hp hy (.inr ⟨_, _, _, rfl⟩)
  exact fin _ none (some q) _ hx.nilp_inv hq (.inr rfl) (.inl rfl) rfl
 ·cases h
theorem done_binb (hI : Inv P w₀ E w) {op : BinOp} {t : TypeId} {ox oy : Operand} {x y : PV} {a b : Value} {r : PV} (ht : P.underlying t = some .bool) (hx : Rep E x a) (hy : Rep E y b) (h : binbRun op x y = some r) :
  Done P w₀ E w ((do pure (Next.value (← (do eqGuard op t ox oy a b; binOp op t a b))) : Sem Next).run P w) r none := by
 have he : ∀ p q : Bool, (Op.equal t (.bool p) (.bool q)).run P w = .ok (p == q) w := fun p q => run_equalIn_bool 9999 ht p q
 unfold binbRun at h
 split at h
 ·injection h with h; subst h
  rw [hx.bool_inv, hy.bool_inv]
  refine done_val hI (z := .bool _) ?_ (.bool _)
  rw [eqGuard_at_bool]
  show (do pure (.bool (← Op.equal t _ _)) : Sem Value).run P w = _
  simp only [Sem.run_bind, he, Result.andThen_ok, Sem.run_pure]
 ·injection h with h; subst h
  rw [hx.bool_inv, hy.bool_inv]
  refine done_val hI (z := .bool _) ?_ (.bool _)
  rw [eqGuard_at_bool]
  show (do pure (.bool (!(← Op.equal t _ _))) : Sem Value).run P w = _
  simp only [Sem.run_bind, he, Result.andThen_ok, Sem.run_pure]
 ·cases h
theorem done_un (hI : Inv P w₀ E w) {op : UnOp} {x : PV} {a : Value} {r : PV} (hx : Rep E x a) (h : unRun op x = some r) : Done P w₀ E w ((do pure (Next.value (← Op.unary op a)) : Sem Next).run P w) r none := by
 unfold unRun at h
 split at h
 ·injection h with h; subst h; cases hx; exact done_val hI (z := .int _ _) (by simp [Op.unary, Op.intArith]) (.int _ _)
 ·injection h with h; subst h; cases hx; exact done_val hI (z := .float _ _) (by simp [Op.unary]) (.flt _ _)
 ·injection h with h; subst h; cases hx; exact done_val hI (z := .bool _) (by simp [Op.unary]) (.bool _)
 ·cases h
end
end Go.Pi
end
section
namespace Go.Pi
open Go.RowKit
section
variable {P : Program} {w₀ : World} {E : Env} {w : World}
theorem flatten_get2 {α : Type} {s : Nat} (hs : 0 < s) : ∀ (xs : List (List α)) (k : Nat), (∀ x, x ∈ xs → x.length = s) → xs.flatten[k]? = (xs[k / s]?).bind fun x => x[k % s]? := by
 intro xs
 induction xs with
 |nil => intro k _; simp
 |cons x xs ih =>
  intro k h
  have hx : x.length = s := h x (by simp)
  rw [List.flatten_cons, List.getElem?_append, hx]
  split
  ·rename_i hk
   rw [Nat.div_eq_of_lt hk, Nat.mod_eq_of_lt hk]
   simp
  ·rename_i hk
   rw [ih (k - s) (fun y hy => h y (by simp [hy]))]
   have e1 : k / s = (k - s) / s + 1 := by
    rw [Nat.div_eq_sub_div hs (by omega)]
   have e2 : k % s = (k - s) % s := Nat.mod_eq_sub_mod (by omega)
   rw [e1, e2]
   simp
theorem elems_ok (hI : Inv P w₀ E w) {s n : Nat} {x : PV} {v : Value} {cs : List PV} (hx : Rep E x v) (h : elemsOf E.H s x = some (n, cs)) :
  ∃ U : List Value, (Builtin.lenOf v).run P w = .ok n w ∧ (Builtin.firstCells s n v).run P w = .ok U.toArray w ∧ Reps E cs U ∧ (∀ c, c ∈ cs → c.flat = true) ∧ U.length = n * s ∧
   ((∃ s', x = .str s' ∧ s = 1) ∨ ∃ A c, v = .slice A n c ∧ ∀ a, A = some a → ∀ j u, U[j]? = some u → w.cell? (a.add j) = some u) := by
 cases x with
 |nils =>
  cases hx.nils_inv
  simp only [elemsOf, Option.some.injEq, Prod.mk.injEq] at h
  obtain ⟨rfl, rfl⟩ := h
  exact ⟨[], by simp [Builtin.lenOf], by simp [Builtin.firstCells], .nil E, by simp, by simp, .inr ⟨none, 0, rfl, fun a ha => by cases ha⟩⟩
 |sl xs =>
  simp only [elemsOf] at h
  split at h
  ·rename_i hall
   simp only [Option.some.injEq, Prod.mk.injEq] at h
   obtain ⟨rfl, rfl⟩ := h
   have hlen : ∀ y, y ∈ xs → y.length = s := by simpa using hall
   cases hx with
   |sl0 A c =>
    refine ⟨[], by simp [Builtin.lenOf], ?_, .nil E, by simp, by simp, .inr ⟨A, c, rfl, fun a _ j u hu => by simp at hu⟩⟩
    cases A with
    |none => simp [Builtin.firstCells]
    |some a => simp [Builtin.firstCells, loadCells, loadCellsFrom]
   |sl _ a c s' U hc hs' hf hF hR =>
    have hflat : ∀ c, c ∈ xs.flatten → c.flat = true := by
     intro c hc
     obtain ⟨y, hy, hc⟩ := List.mem_flatten.1 hc
     exact hf y hy c hc
    have hfl : xs.flatten.length = xs.length * s := by
     have : ∀ (l : List (List PV)), (∀ y, y ∈ l → y.length = s) → l.flatten.length = l.length * s := by
      intro l
      induction l with
      |nil => simp
      |cons y l ih => intro h; rw [List.flatten_cons, List.length_append, ih (fun z hz => h z (by simp [hz])), h y (by simp), List.length_cons, Nat.succ_mul]; omega
     exact this xs hlen
    rcases Nat.eq_zero_or_pos s with h0 | hs
    ·subst h0
     have hnil : xs.flatten = [] := List.eq_nil_of_length_eq_zero (by omega)
     refine ⟨[], by simp [Builtin.lenOf], by simp [Builtin.firstCells, loadCells, loadCellsFrom], by rw [hnil]; exact .nil E, hflat, by simp, .inr ⟨some a, c, rfl, fun _ _ j u hu => by simp at hu⟩⟩
    ·have hss : ∀ i (hi : i < xs.length), s' = s := fun i hi => (hs' i hi).symm.trans (hlen _ (List.getElem_mem hi))
     have hcell : ∀ j u, ((List.range (xs.length * s)).map fun k => U (k / s) (k % s))[j]? = some u → w.cell? (a.add j) = some u := by
      intro j u hu
      simp only [List.getElem?_map, Option.map_eq_some_iff] at hu
      obtain ⟨k, hk, rfl⟩ := hu
      obtain ⟨hj, hk⟩ := List.getElem?_eq_some_iff.1 hk
      simp at hj hk
      subst hk
      have hd : j / s < xs.length := (Nat.div_lt_iff_lt_mul hs).2 hj
      have := hF (j / s) (j % s) hd (by rw [hss _ hd]; exact Nat.mod_lt _ hs)
      rw [hss _ hd] at this
      have e : j / s * s + j % s = j := by rw [Nat.mul_comm]; exact Nat.div_add_mod j s
      rw [e] at this
      exact hI.cell _ _ this
     refine ⟨(List.range (xs.length * s)).map fun k => U (k / s) (k % s), by simp [Builtin.lenOf], ?_, ⟨by simp [hfl], fun k c u hc hu => ?_⟩, hflat, by simp, .inr ⟨some a, c, rfl, fun a' ha' => by cases ha'; exact hcell⟩⟩
     ·have := run_loadCells (P := P) w a _ hcell
      simp only [List.length_map, List.length_range] at this
      simpa [Builtin.firstCells] using this
     ·simp only [List.getElem?_map, Option.map_eq_some_iff] at hu
      obtain ⟨k', hk, rfl⟩ := hu
      obtain ⟨hj, hk⟩ := List.getElem?_eq_some_iff.1 hk
      simp at hj hk
      subst hk
      have hd : k / s < xs.length := (Nat.div_lt_iff_lt_mul hs).2 hj
      have hm : k % s < xs[k / s].length := by rw [hlen _ (List.getElem_mem hd)]; exact Nat.mod_lt _ hs
      rw [flatten_get2 hs xs k hlen, List.getElem?_eq_getElem hd, Option.bind_some, List.getElem?_eq_getElem hm] at hc
      injection hc with hc
      subst hc
      exact hR _ hd _ hm
  ·cases h
 |row b g len =>
  simp only [elemsOf] at h
  cases hb : E.H b with
  |none => simp [hb] at h
  |some c =>
   simp only [hb] at h
   split at h
   ·rename_i hg
    simp only [Option.some.injEq, Prod.mk.injEq] at h
    obtain ⟨rfl, rfl⟩ := h
    obtain ⟨_, _, hp⟩ := hx.row_inv
    obtain ⟨_, hv⟩ := hp c hb hg.1
    subst hv
    obtain ⟨U, h1, h2, h3⟩ := cells_chunk hI hb 0 (len * s) (by omega)
    have hcell : ∀ j u, U[j]? = some u → w.cell? ((⟨E.β b, 0, none⟩ : Addr).add j) = some u := fun j u hu => by
     have e : (⟨E.β b, 0, none⟩ : Addr).add j = ⟨E.β b, 0 + j, none⟩ := by unfold Addr.add; split <;> simp_all
     rw [e]; exact h3 j u hu
    refine ⟨U, by simp [Builtin.lenOf], ?_, by simpa using h2, fun x hx => (hI.chunk b c hb).flat x (List.mem_of_mem_take hx), h1, .inr ⟨_, _, rfl, fun a ha => by cases ha; exact hcell⟩⟩
    have := run_loadCells (P := P) w _ U hcell
    rw [h1] at this
    simpa [Builtin.firstCells] using this
   ·cases h
 |str t =>
  cases hx.str_inv
  simp only [elemsOf] at h
  split at h
  ·rename_i h1
   subst h1
   simp only [Option.some.injEq, Prod.mk.injEq] at h
   obtain ⟨rfl, rfl⟩ := h
   refine ⟨t.data.toList.map fun b => .int .u8 b.toNat, by simp [Builtin.lenOf], ?_, ⟨by simp, fun i c u hc hu => ?_⟩, ?_, by show _ = t.data.size * 1; simp, .inl ⟨t, rfl, rfl⟩⟩
   ·simp [Builtin.firstCells]
    apply Array.ext'
    simp
   ·simp only [List.getElem?_map, Option.map_eq_some_iff] at hc hu
    obtain ⟨a, ha, rfl⟩ := hc
    obtain ⟨b, hb, rfl⟩ := hu
    rw [ha] at hb
    cases hb
    exact .int _ _
   ·intro c hc
    simp at hc
    obtain ⟨a, _, rfl⟩ := hc
    rfl
  ·cases h
 |_ => simp [elemsOf] at h
theorem run_bytes (w : World) (f : Value → ByteArray → Sem (ForInStep ByteArray)) (hf : ∀ n r, (f (.int .u8 n) r).run P w = .ok (.yield (r.push (UInt8.ofNat n.toNat))) w) :
  ∀ (cs : List PV) (U : List Value) (l : List UInt8) (acc : ByteArray), Reps E cs U → bytesOfP cs = some l → (forIn U acc f : Sem ByteArray).run P w = .ok ⟨acc.data ++ l.toArray⟩ w := by
 intro cs
 induction cs with
 |nil =>
  intro U l acc hR h
  have hU : U = [] := List.eq_nil_of_length_eq_zero (by rw [← hR.1]; rfl)
  subst hU
  simp only [bytesOfP, Option.some.injEq] at h
  subst h
  simp
 |cons c cs ih =>
  intro U l acc hR h
  obtain ⟨u, us, rfl, hu, hR'⟩ := hR.head
  cases c with
  |int k n =>
   cases k <;> simp only [bytesOfP] at h <;> first | cases h; done | skip
   cases hr : bytesOfP cs with
   |none => simp [hr] at h
   |some r =>
    simp only [hr, Option.map_some, Option.some.injEq] at h
    subst h
    cases hu
    simp only [List.forIn_cons, Sem.run_bind, hf, Result.andThen_ok]
    rw [ih us r _ hR' hr]
    congr 2
    apply Array.ext'
    simp [ByteArray.push]
  |_ => simp [bytesOfP] at h
theorem done_cstr (hI : Inv P w₀ E w) {x : PV} {v : Value} {n : Nat} {cs : List PV} {l : List UInt8} (hx : Rep E x v) (hns : ∀ s, x ≠ .str s) (h : elemsOf E.H 1 x = some (n, cs)) (hl : bytesOfP cs = some l) :
  Done P w₀ E w ((do pure (Next.value (← Conv.bytesToString v)) : Sem Next).run P w) (.str ⟨l.toArray⟩) none := by
 obtain ⟨U, _, hrun, hR, _, hU, hv⟩ := elems_ok hI hx h
 rcases hv with ⟨s, rfl, _⟩ | ⟨A, c, rfl, hc⟩
 ·exact absurd rfl (hns s)
 ·refine done_val hI (z := .string ⟨l.toArray⟩) ?_ (.str _)
  cases A with
  |none =>
   have hU0 : U = [] := by
    simp [Builtin.firstCells] at hrun
    exact hrun
   subst hU0
   have hcs : cs = [] := List.eq_nil_of_length_eq_zero hR.1
   subst hcs
   simp only [bytesOfP, Option.some.injEq] at hl
   subst hl
   rfl
  |some a =>
   have hlc := run_loadCells (P := P) w a U (hc a rfl)
   rw [hU, Nat.mul_one] at hlc
   simp only [Conv.bytesToString, Sem.run_bind, hlc, Result.andThen_ok]
   rw [Array.forIn_toList.symm, run_bytes (P := P) w _ (fun n r => by simp) cs U l ByteArray.empty hR hl]
   simp
end
end Go.Pi
end
section
namespace Go.Pi
open Go.RowKit
section
variable {P : Program} {w₀ : World} {E : Env} {w : World}
theorem run_append_dst {t u e ty : TypeId} {s : Nat} (ht : P.underlying t = some (.slice e)) (hu : (∃ e', P.underlying u = some (.slice e')) ∨ P.underlying u = some .string) (hs : sizeP P e = some s)
  {base : Option Addr} {sLen sCap n : Nat} {x : Value} {new : Array Value} (hn : (Builtin.lenOf x).run P w = .ok n w) (hnew : (Builtin.firstCells s n x).run P w = .ok new w) (hfit : sLen + n ≤ sCap) {w' : World}
  (hst : match base with | some a => (storeCells (a.add (sLen * s)) new.toList).run P w = .ok () w' | none => w' = w) :
  (Builtin.append_ #[t, u] ty #[.slice base sLen sCap, x]).run P w = .ok (.slice base (sLen + n) sCap) w' := by
 have fin : (match base with
   |some a => (storeCells (a.add (sLen * s)) new.toList)
   |none => pure () : Sem Unit).run P w = .ok () w' := by
  cases base with
  |none => simp at hst; subst hst; rfl
  |some a => exact hst
 rcases hu with ⟨e', hu⟩ | hu
 all_goals
  simp only [Builtin.append_, List.getElem?_toArray, List.getElem?_cons_zero, List.getElem?_cons_succ, Sem.run_bind, run_underlying ht, run_underlying hu, Result.andThen_ok, run_sizeOf' hs, Sem.run_pure, Bool.false_eq_true, if_false, hn, hfit, if_true, Bool.not_false, hnew]
  cases base with
  |none => simp at hst; subst hst; simp
  |some a => simp at hst; simp [hst]
theorem run_append_grow {t u e ty : TypeId} {s b : Nat} (ht : P.underlying t = some (.slice e)) (hu : (∃ e', P.underlying u = some (.slice e')) ∨ P.underlying u = some .string) (hs : sizeP P e = some s) (hb : bytesP P e = some b) (hb0 : b ≠ 0)
  {base : Option Addr} {sLen sCap n : Nat} {x : Value} {old new : Array Value} (hn : (Builtin.lenOf x).run P w = .ok n w) (hnofit : ¬ sLen + n ≤ sCap) (hroom : (sLen + n) * b ≤ 140737488355328) {i : TypeInfo} {z : Value} (hi : P.info? e = some i) (hz : i.zero = some z)
  (ho : (Builtin.firstCells s sLen (.slice base sLen sCap)).run P w.drew = .ok old w.drew) (hnew : (Builtin.firstCells s n x).run P w.drew = .ok new w.drew) :
  ∃ newCap : Nat, sLen + n ≤ newCap ∧ (Builtin.append_ #[t, u] ty #[.slice base sLen sCap, x]).run P w = .ok (.slice (some ⟨w.drew.heap.size, 0, none⟩) (sLen + n) newCap)
   (w.drew.alloc (.cells (old ++ new ++ Builtin.zeroCells z.cells (newCap - (sLen + n))) e)) := by
 have hib : i.bytes = b := by unfold bytesP at hb; simpa [hi] using hb
 have hfits := growslice_fits (need := sLen + n) (old := sCap) (bytes := b) (by omega) hroom
 have hneed : ((sLen + n : Nat) : Int) ≤ IntKind.i64.max := by
  have h1 : (sLen + n) * 1 ≤ (sLen + n) * b := Nat.mul_le_mul_left _ (by omega)
  simp only [IntKind.max_i64]
  omega
 refine ⟨(Question.appendCap (sLen + n) sCap e).cut (w.tape w.drawn (.appendCap (sLen + n) sCap e)), ?_, ?_⟩
 ·simp [Question.cut]
 ·rcases hu with ⟨e', hu⟩ | hu
  all_goals
   simp only [Builtin.append_, List.getElem?_toArray, List.getElem?_cons_zero, List.getElem?_cons_succ, Sem.run_bind, run_underlying ht, run_underlying hu, Result.andThen_ok, run_sizeOf' hs, Sem.run_pure, Bool.false_eq_true, if_false, hn, hnofit, Bool.not_false, if_true,
    run_typeInfo' hi, Sem.run_ite, hib]
   rw [if_neg (by intro h; omega)]
   simp only [Sem.run_pure, Result.andThen_ok, Nat.reducePow]
   rw [if_neg (by omega)]
   simp only [Sem.run_pure, Result.andThen_ok, run_choose, Question.forced, Bool.false_eq_true, if_false, run_askRoom, Sem.run_bind]
   rw [show ({ w with drawn := w.drawn + 1 } : World) = w.drew from rfl, ho]
   simp only [Result.andThen_ok, hnew]
   simp only [zeroValue, Sem.run_bind, run_typeInfo' hi, hz, Result.andThen_ok, newRow, run_newObj, Sem.run_pure]
   rfl
end
end Go.Pi
end
section
namespace Go.Pi
open Go.RowKit
section
variable {P : Program} {w₀ : World} {E : Env} {w : World}
theorem zeroCells_size (z : Array Value) (m : Nat) : (Builtin.zeroCells z m).size = m * z.size := by simp [Builtin.zeroCells]
theorem done_app (hI : Inv P w₀ E w) {fresh st : Nat} (hfr : ∀ g, st ≤ g → ¬ E.K fresh g) {t u e ty : TypeId} {s b : Nat} (ht : P.underlying t = some (.slice e)) (hu : (∃ e', P.underlying u = some (.slice e')) ∨ P.underlying u = some .string)
  (hs : sizeP P e = some s) (hs0 : s ≠ 0) (hb : bytesP P e = some b) (hb0 : b ≠ 0) {z : List PV} (hz : zeroP P e = some z) (hzl : z.length = s) {d x : PV} {vd vx : Value} (hfc : ∀ c g l, d = .row c g l → ∀ g', st ≤ g' → ¬ E.K c g') (hd : Rep E d vd) (hx : Rep E x vx) {r : PV} {up : Upd}
  (h : appRun E.H fresh st e s b d x = some (r, up)) : Done P w₀ E w ((do pure (Next.value (← Builtin.append_ #[t, u] ty #[vd, vx])) : Sem Next).run P w) r up := by
 unfold appRun at h
 cases hel : elemsOf E.H s x with
 |none => simp [hel] at h
 |some nc =>
  obtain ⟨n, cs⟩ := nc
  obtain ⟨U, hlen, hfirst, hR, hF, hUl, _⟩ := elems_ok hI hx hel
  simp only [hel] at h
  obtain ⟨i, zv, hi, hiz, _, hzE⟩ := zeroP_run hz
  have hzs : zv.cells.size = s := by rw [← Array.length_toList, ← (hzE E).1.1]; exact hzl
  have hinfo : ∀ i, P.info? e = some i → i.size = s := by intro i hi; unfold sizeP at hs; simpa [hi] using hs
  have hnil : n = 0 → cs = [] := fun h0 => List.eq_nil_of_length_eq_zero (by rw [hR.1, hUl, h0]; simp)
  split at h
  ·rename_i hn0
   subst hn0
   have hU0 : U = [] := List.eq_nil_of_length_eq_zero (by rw [hUl]; simp)
   subst hU0
   cases d with
   |nils =>
    cases hd.nils_inv
    simp only [Option.some.injEq, Prod.mk.injEq] at h
    obtain ⟨rfl, rfl⟩ := h
    exact done_val hI (run_append_dst ht hu hs hlen hfirst (Nat.le_refl _) rfl) .nils
   |row c g len =>
    simp only at h
    cases hc : E.H c with
    |none => simp [hc] at h
    |some ch =>
     simp only [hc] at h
     split at h
     ·rename_i hg
      simp only [Option.some.injEq, Prod.mk.injEq] at h
      obtain ⟨rfl, rfl⟩ := h
      obtain ⟨_, hk, hp⟩ := hd.row_inv
      obtain ⟨hle, hv⟩ := hp ch hc hg
      subst hv
      exact done_val hI (run_append_dst ht hu hs hlen hfirst (by omega) (by simp [storeCells])) (.row c g len _ ⟨_, _, rfl, hle⟩ hk hp)
     ·cases h
   |_ => simp at h
  ·rename_i hn0
   have hI' := hI.alike (Alike.drew w)
   obtain ⟨U', hlen', hfirst', hR', _, hUl', _⟩ := elems_ok hI' hx hel
   cases d with
   |nils =>
    cases hd.nils_inv
    simp only at h
    split at h
    ·rename_i hroom
     simp only [Option.some.injEq, Prod.mk.injEq] at h
     obtain ⟨rfl, rfl⟩ := h
     obtain ⟨cap, hcap, hrun⟩ := run_append_grow (P := P) (w := w) (ty := ty) (base := none) (sLen := 0) (sCap := 0) (old := #[]) ht hu hs hb hb0 hlen (by omega) (by simpa using hroom) hi hiz (by simp [Builtin.firstCells]) hfirst'
     rw [Nat.zero_add] at hcap hrun
     have hsz : (#[] ++ U'.toArray ++ Builtin.zeroCells zv.cells (cap - n)).size = cap * s := by
      simp only [Array.size_append, zeroCells_size, hzs]
      simp only [List.size_toArray, hUl', List.length_nil, Nat.zero_add]
      rw [← Nat.add_mul]; congr 1; omega
     refine done_row hI hfr (w1 := w.drew) (cap := cap) (e := e) (vs := #[] ++ U'.toArray ++ Builtin.zeroCells zv.cells (cap - n)) ?_ (fun i hi => by rw [hinfo i hi, hsz]; exact Nat.le_refl _) hcap ?_ hF (Alike.drew w) ?_
     ·rw [hsz, hR'.1, hUl']; exact Nat.mul_le_mul_right _ hcap
     ·rw [hR'.1]
      simpa using hR'
     ·simp only [Sem.run_bind, hrun, Result.andThen_ok, Sem.run_pure]
    ·cases h
   |row c g len =>
    simp only at h
    cases hc : E.H c with
    |none => simp [hc] at h
    |some ch =>
     simp only [hc] at h
     split at h
     ·rename_i hg
      obtain ⟨hg1, hg2, hg3, hg4⟩ := hg
      simp only [Option.some.injEq, Prod.mk.injEq] at h
      obtain ⟨rfl, rfl⟩ := h
      obtain ⟨_, hk, hp⟩ := hd.row_inv
      obtain ⟨hle, hv⟩ := hp ch hc hg1
      subst hv
      have hh := hI.chunk c ch hc
      have hgs : ch.gen ≤ st := by
       by_cases h1 : ch.gen ≤ st
       ·exact h1
       ·exact absurd hh.used (hfc c g len rfl ch.gen (by omega))
      obtain ⟨cs0, hcs0, k1, k2, k3⟩ := hh.cells
      have hkap : E.κ c * s ≤ cs0.size := by
       have := k2 i (by rw [hg2]; exact hi)
       rwa [hinfo i hi] at this
      have hflat : ∀ x, x ∈ ch.cells.take (len * s) ++ cs → x.flat = true := by
       intro x hx
       rcases List.mem_append.1 hx with hx | hx
       ·exact hh.flat x (List.mem_of_mem_take hx)
       ·exact hF x hx
      have hlenc : (ch.cells.take (len * s) ++ cs).length = (len + n) * s := by
       rw [List.length_append, List.length_take, hR.1, hUl, Nat.add_mul]; omega
      by_cases hfit : len + n ≤ E.κ c
      ·have hone : ∀ q, q ∈ U → q.oneCell' = true := by
        intro q hq
        obtain ⟨j, hj, rfl⟩ := List.getElem_of_mem hq
        exact (hR.get j (by rw [hR.1]; exact hj)).oneCell (hF _ (List.getElem_mem _))
       have hfits : len * s + n * s ≤ cs0.size := by rw [← Nat.add_mul]; exact Nat.le_trans (Nat.mul_le_mul_right _ hfit) hkap
       have ha : (⟨E.β c, 0, none⟩ : Addr).add (len * s) = ⟨E.β c, len * s, none⟩ := by unfold Addr.add; split <;> simp_all
       have hst := run_storeCells (P := P) (E.β c) ch.e U w (len * s) 0 cs0 hone hcs0 (by rw [hUl]; omega)
       have hrun := run_append_dst (P := P) (w := w) (ty := ty) (base := some ⟨E.β c, 0, none⟩) ht hu hs hlen hfirst hfit (w' := World.setBlock w (E.β c) (.cells (putRow cs0 (len * s) U) ch.e (0, 0))) (by
        simp only [ha]; simpa using hst)
       have hpost := Post.set (c' := ⟨e, st, ch.cells.take (len * s) ++ cs, s⟩) hI hc hg2.symm (by show ch.gen ≤ st; exact hgs) hflat (putRow cs0 (len * s) U)
        (by rw [putRow_size _ _ _ (by rw [hUl]; omega)]; show (ch.cells.take (len * s) ++ cs).length ≤ _; rw [hlenc, Nat.add_mul]; exact hfits)
        (fun i hi => by rw [putRow_size _ _ _ (by rw [hUl]; omega)]; exact k2 i hi)
        (by
         show Reps E (ch.cells.take (len * s) ++ cs) (List.take (ch.cells.take (len * s) ++ cs).length _)
         rw [hlenc]
         have e1 : (putRow cs0 (len * s) U).toList.take ((len + n) * s) = cs0.toList.take (len * s) ++ U := by
          simp only [putRow]
          rw [List.take_append_of_le_length (by simp [hUl]; rw [Nat.add_mul]; omega)]
          rw [List.take_of_length_le (by simp [hUl]; rw [Nat.add_mul]; omega)]
         rw [e1]
         refine Reps.append ?_ hR
         have := k3.take (len * s)
         rwa [List.take_take, Nat.min_eq_left hg3] at this)
       refine ⟨_, _, E.set c ⟨e, st, ch.cells.take (len * s) ++ cs, s⟩, _, by simp only [Sem.run_bind, hrun, Result.andThen_ok, Sem.run_pure]; rfl, .inl rfl, .row c st (len + n) _ ⟨_, _, rfl, hfit⟩ (Or.inr ⟨rfl, rfl⟩) (fun c' _ _ => ⟨hfit, rfl⟩), hpost⟩
      ·have hel2 : elemsOf E.H s (.row c g len) = some (len, ch.cells.take (len * s)) := by simp [elemsOf, hc, hg1, hg3]
       obtain ⟨O, _, hofirst, hoR, _, hOl, _⟩ := elems_ok hI' (.row c g len _ ⟨_, _, rfl, hle⟩ hk hp) hel2
       obtain ⟨cap, hcap, hrun⟩ := run_append_grow (P := P) (w := w) (ty := ty) (base := some ⟨E.β c, 0, none⟩) (sLen := len) (sCap := E.κ c) ht hu hs hb hb0 hlen hfit hg4 hi hiz hofirst hfirst'
       have hsz : (O.toArray ++ U'.toArray ++ Builtin.zeroCells zv.cells (cap - (len + n))).size = cap * s := by
        simp only [Array.size_append, zeroCells_size, hzs, List.size_toArray, hOl, hUl']
        rw [← Nat.add_mul, ← Nat.add_mul]; congr 1; omega
       have hpost := Post.new (P := P) hI' c cap ⟨e, st, ch.cells.take (len * s) ++ cs, s⟩ (fun g' hg' => hfc c g len rfl g' hg') hflat
        (O.toArray ++ U'.toArray ++ Builtin.zeroCells zv.cells (cap - (len + n)))
        (by show (ch.cells.take (len * s) ++ cs).length ≤ _; rw [hlenc, hsz]; exact Nat.mul_le_mul_right _ hcap)
        (fun i hi => by rw [hinfo i hi, hsz]; exact Nat.le_refl _)
        (by
         show Reps E (ch.cells.take (len * s) ++ cs) (List.take (ch.cells.take (len * s) ++ cs).length _)
         have e1 : (O.toArray ++ U'.toArray ++ Builtin.zeroCells zv.cells (cap - (len + n))).toList.take ((len + n) * s) = O ++ U' := by
          simp only [Array.toList_append]
          rw [List.take_append_of_le_length (by simp [hOl, hUl']; rw [Nat.add_mul]; omega)]
          rw [List.take_of_length_le (by simp [hOl, hUl']; rw [Nat.add_mul]; omega)]
         rw [hlenc, e1]
         exact hoR.append hR')
       refine ⟨_, _, E.new w.drew.heap.size c cap ⟨e, st, ch.cells.take (len * s) ++ cs, s⟩, _, by simp only [Sem.run_bind, hrun, Result.andThen_ok, Sem.run_pure]; rfl, .inl rfl, .row c st (len + n) _ ⟨_, _, rfl, hcap⟩ (Or.inr ⟨rfl, rfl⟩) (fun c' _ _ => ?_), ⟨hpost.le, hpost.inv, hpost.heap, hpost.used, hpost.moved, hpost.known, hpost.place, hpost.size, fun i hi hn => hpost.frame i hi hn⟩⟩
       simp [Env.new, hcap]
     ·cases h
   |_ => simp at h
end
end Go.Pi
end
section
namespace Go.Pi
open Go.RowKit
section
variable {P : Program} {w₀ : World} {E : Env} {w : World}
theorem done_alloc (hI : Inv P w₀ E w) {fresh st : Nat} (hfr : ∀ g, st ≤ g → ¬ E.K fresh g) {e : TypeId} {z : List PV} (hz : zeroP P e = some z) :
  Done P w₀ E w ((do pure (Next.value (← Instr.alloc e true (.tuple #[]))) : Sem Next).run P w) (.ptr fresh st 0) (some (fresh, ⟨e, st, z, 0⟩)) := by
 obtain ⟨i, v, _, _, hrun, hzE⟩ := zeroP_run hz
 obtain ⟨h1, h2⟩ := hzE E
 refine done_new hI hfr (vs := v.cells) h1 h2 ?_
 simp only [Instr.alloc, Sem.run_bind, hrun, Result.andThen_ok]
 simp [newVar, newRow]
theorem done_box (hI : Inv P w₀ E w) {fresh st : Nat} (hfr : ∀ g, st ≤ g → ¬ E.K fresh g) {e : TypeId} {x : PV} {v : Value} {cs : List PV} (hx : Rep E x v) (hc : cellsOf x = some cs) :
  Done P w₀ E w ((do pure (Next.value (← Instr.box e v)) : Sem Next).run P w) (.ptr fresh st 0) (some (fresh, ⟨e, st, cs, 0⟩)) := by
 obtain ⟨h1, h2⟩ := cellsOf_rep hx hc
 refine done_new hI hfr (vs := v.cells) h1 h2 ?_
 simp [Instr.box, newVar, newRow]
theorem done_mksl (hI : Inv P w₀ E w) {fresh st : Nat} (hfr : ∀ g, st ≤ g → ¬ E.K fresh g) {t e : TypeId} {s b : Nat} {z : List PV} (ht : P.underlying t = some (.slice e)) (hs : sizeP P e = some s) (hs0 : s ≠ 0) (hb : bytesP P e = some b) (hb0 : b ≠ 0)
  (hz : zeroP P e = some z) (hzl : z.length = s) {kl kc : IntKind} {l c : Int} (h : 0 ≤ l ∧ l ≤ c ∧ c * b ≤ 140737488355328) :
  Done P w₀ E w ((do pure (Next.value (← Instr.makeSlice t (.int kl l) (.int kc c))) : Sem Next).run P w) (.row fresh st l.toNat) (some (fresh, ⟨e, st, (List.replicate l.toNat z).flatten, s⟩)) := by
 obtain ⟨h0, h1, h2⟩ := h
 obtain ⟨i, v, hi, _, hrun, hzE⟩ := zeroP_run hz
 have hib : i.bytes = b := by unfold bytesP at hb; simpa [hi] using hb
 have hzs : v.cells.size = s := by rw [← Array.length_toList, ← (hzE E).1.1]; exact hzl
 have hinfo : ∀ i, P.info? e = some i → i.size = s := by intro i hi; unfold sizeP at hs; simpa [hi] using hs
 have hcb : c ≤ 140737488355328 := by
  have hb1 : (1 : Int) ≤ (b : Int) := by omega
  have : c * 1 ≤ c * (b : Int) := Int.mul_le_mul_of_nonneg_left hb1 (by omega)
  omega
 have wc : IntKind.i64.wrap c = c := by simp [IntKind.wrap, IntKind.bits, IntKind.signed]; omega
 have wl : IntKind.i64.wrap l = l := by simp [IntKind.wrap, IntKind.bits, IntKind.signed]; omega
 have hbc : (b : Int) * c ≤ 140737488355328 := by rw [Int.mul_comm]; exact h2
 have hR0 := zeros_rep (hzE E).1 (by omega) c.toNat
 rw [hzl] at hR0
 have hsz : ((Array.range (c.toNat * s)).map (v.cells[· % v.cells.size]!)).size = c.toNat * s := by simp
 refine done_row hI hfr (cap := c.toNat) (vs := if c.toNat * s = 0 then #[] else (Array.range (c.toNat * s)).map (v.cells[· % v.cells.size]!)) ?_ ?_ (by omega) ?_ (flat_replicate (hzE E).2 _) (Alike.refl w) ?_
 ·have : l.toNat * s ≤ c.toNat * s := Nat.mul_le_mul_right _ (by omega)
  split <;> simp [hzl] <;> omega
 ·intro i hi
  rw [hinfo i hi]
  split
  ·omega
  ·rw [hsz]; exact Nat.le_refl _
 ·have e1 : (List.replicate l.toNat z).flatten = ((List.replicate c.toNat z).flatten).take (l.toNat * s) := by
   have : c.toNat = l.toNat + (c.toNat - l.toNat) := by omega
   rw [this, ← List.replicate_append_replicate, List.flatten_append, List.take_append_of_le_length (by simp [hzl]), List.take_of_length_le (by simp [hzl])]
  have hll : ((List.replicate l.toNat z).flatten).length = l.toNat * s := by simp [hzl]
  rw [hll]
  split
  ·rename_i hcs
   have : l.toNat * s ≤ c.toNat * s := Nat.mul_le_mul_right _ (by omega)
   have hn : (List.replicate l.toNat z).flatten = [] := List.eq_nil_of_length_eq_zero (by omega)
   rw [hn]; simpa using Reps.nil E
  ·rw [e1]
   exact hR0.take _
 ·have hrest : ∀ n, n = c.toNat * s → ((do
    let zero ← if n = 0 then pure #[] else do pure (← zeroValue e).cells
    let a ← newRow e ((Array.range n).map (zero[· % zero.size]!))
    pure (.slice (some a) l.toNat c.toNat) : Sem Value).run P w) = .ok (.slice (some ⟨w.heap.size, 0, none⟩) l.toNat c.toNat) (w.alloc (.cells (if c.toNat * s = 0 then #[] else (Array.range (c.toNat * s)).map (v.cells[· % v.cells.size]!)) e)) := by
   intro n hn
   subst hn
   by_cases h0 : c.toNat * s = 0
   ·simp [h0, newRow, Array.range_zero']
   ·simp only [h0, if_false, Sem.run_bind, hrun, Result.andThen_ok, Sem.run_pure]
    simp [newRow]
  simp only [Instr.makeSlice, Sem.run_bind, run_underlying ht, Result.andThen_ok, asInt, asIntOf, Sem.run_pure, run_typeInfo' hi, hib, wc, wl]
  rw [if_neg (by
   simp only [Bool.or_eq_true, decide_eq_true_eq]
   omega)]
  simp only [Sem.run_bind, run_askRoom, Result.andThen_ok, run_sizeOf' hs]
  have := hrest _ rfl
  rw [this]
  rfl
theorem bound_ok {ρ : Operand → Value} {ev : Opd → PV} (hev : ∀ x y, compileOpd x = some y → Rep E (ev y) (ρ x)) {lo : Option Operand} {lo' : Option Opd} (h : compileOpt lo = some lo') {d n : Nat} (hb : boundP d ev lo' = some n) :
  (lo = none ∧ n = d) ∨ ∃ x k, lo = some x ∧ ρ x = .int k n := by
 cases lo with
 |none => simp [compileOpt] at h; subst h; simp [boundP] at hb; exact .inl ⟨rfl, hb.symm⟩
 |some x =>
  cases hx : compileOpd x with
  |none => simp [compileOpt, hx] at h
  |some y =>
   simp [compileOpt, hx] at h
   subst h
   have hr := hev x y hx
   simp only [boundP] at hb
   cases hy : ev y with
   |int k m =>
    simp only [hy] at hb
    split at hb
    ·injection hb with hb
     rw [hy] at hr
     refine .inr ⟨x, k, rfl, ?_⟩
     rw [hr.int_inv]
     congr 1
     omega
    ·cases hb
   |_ => simp [hy] at hb
theorem sliceBounds_ok {ρ : Operand → Value} {isS : Bool} {len cap l h : Nat} {lo hi : Option Operand} (hlo : (lo = none ∧ l = 0) ∨ ∃ x k, lo = some x ∧ ρ x = .int k l) (hhi : (hi = none ∧ h = len) ∨ ∃ x k, hi = some x ∧ ρ x = .int k h) (hlh : l ≤ h) (hhc : h ≤ cap) :
  (Instr.sliceBounds isS len cap (lo.map ρ) (hi.map ρ) none).run P w = .ok (l, h, cap) w := by
 have b1 : ∀ (k : IntKind) (n y : Nat) (code : BoundsCode), n ≤ y → (Instr.sliceBound (.int k n) y code).run P w = .ok n w := by
  intro k n y code hn
  simp only [Instr.sliceBound, asIntOf, Sem.run_bind, Sem.run_pure, Result.andThen_ok, Sem.run_ite]
  rw [if_pos (by omega)]
  simp
 rcases hlo with ⟨rfl, rfl⟩ | ⟨x, k, rfl, hx⟩ <;> rcases hhi with ⟨rfl, rfl⟩ | ⟨y, k', rfl, hy⟩
 ·simp [Instr.sliceBounds]
 ·simp only [Instr.sliceBounds, Option.map_none, Option.map_some, hy, Sem.run_bind, Sem.run_pure, Result.andThen_ok, b1 _ _ _ _ hhc]
 ·simp only [Instr.sliceBounds, Option.map_none, Option.map_some, hx, Sem.run_bind, Sem.run_pure, Result.andThen_ok, b1 _ _ _ _ hlh]
 ·simp only [Instr.sliceBounds, Option.map_some, hx, hy, Sem.run_bind, Sem.run_pure, Result.andThen_ok, b1 _ _ _ _ hhc, b1 _ _ _ _ hlh]
theorem done_sstr (hI : Inv P w₀ E w) {ρ : Operand → Value} {t : TypeId} {s : ByteArray} {l h : Nat} {lo hi : Option Operand} (ht : P.underlying t = some .string) (hlo : (lo = none ∧ l = 0) ∨ ∃ x k, lo = some x ∧ ρ x = .int k l) (hhi : (hi = none ∧ h = s.size) ∨ ∃ x k, hi = some x ∧ ρ x = .int k h) (hlh : l ≤ h) (hhc : h ≤ s.size) :
  Done P w₀ E w ((do pure (Next.value (← Instr.sliceAt t (.string s) (lo.map ρ) (hi.map ρ) none)) : Sem Next).run P w) (.str (s.extract l h)) none := by
 refine done_val hI (z := .string (s.extract l h)) ?_ (.str _)
 simp only [Instr.sliceAt, Instr.slice, Sem.run_bind, run_underlying ht, Result.andThen_ok, Option.isSome_none, Bool.false_eq_true, if_false, Sem.run_pure, sliceBounds_ok hlo hhi hlh hhc]
theorem done_ssl (hI : Inv P w₀ E w) {ρ : Operand → Value} {t e : TypeId} {s : Nat} {A : Option Addr} {len cap l h : Nat} {lo hi : Option Operand} (ht : P.underlying t = some (.slice e)) (hs : sizeP P e = some s) (hlo : (lo = none ∧ l = 0) ∨ ∃ x k, lo = some x ∧ ρ x = .int k l) (hhi : (hi = none ∧ h = len) ∨ ∃ x k, hi = some x ∧ ρ x = .int k h) (hlh : l ≤ h) (hhc : h ≤ cap)
  {r : PV} (hr : Rep E r (.slice (if cap = l then A else A.map (·.add (l * s))) (h - l) (cap - l))) :
  Done P w₀ E w ((do pure (Next.value (← Instr.sliceAt t (.slice A len cap) (lo.map ρ) (hi.map ρ) none)) : Sem Next).run P w) r none := by
 refine done_val hI ?_ hr
 simp only [Instr.sliceAt, Instr.slice, Sem.run_bind, run_underlying ht, Result.andThen_ok, run_sizeOf' hs, Sem.run_pure, sliceBounds_ok hlo hhi hlh hhc]
theorem rep_sub {xs : List (List PV)} {v : Value} (hx : Rep E (.sl xs) v) {s l h : Nat} (hall : ∀ c, c ∈ xs → c.length = s) (hlh : l ≤ h) (hh : h ≤ xs.length) :
  ∃ A c, v = .slice A xs.length c ∧ xs.length ≤ c ∧ Rep E (.sl ((xs.take h).drop l)) (.slice (if c = l then A else A.map (·.add (l * s))) (h - l) (c - l)) := by
 have hlen : ((xs.take h).drop l).length = h - l := by simp; omega
 cases hx with
 |sl0 A c =>
  have h0 : h = 0 := by simpa using hh
  subst h0
  have l0 : l = 0 := by omega
  subst l0
  refine ⟨A, c, rfl, by simp, ?_⟩
  exact .sl0 _ _
 |sl _ a c s' U hc hs' hf hF hR =>
  refine ⟨some a, c, rfl, hc, ?_⟩
  by_cases hlh' : l = h
  ·subst hlh'
   have : (xs.take l).drop l = [] := List.eq_nil_of_length_eq_zero (by omega)
   rw [this, Nat.sub_self]
   exact .sl0 _ _
  ·have hne : c ≠ l := by omega
   rw [if_neg hne]
   have hget : ∀ i (hi : i < ((xs.take h).drop l).length), ((xs.take h).drop l)[i] = xs[l + i]'(by rw [hlen] at hi; omega) := by
    intro i hi
    simp
   have hss : s' = s := by
    have h1 := hs' l (by omega)
    rw [← h1]; exact hall _ (List.getElem_mem _)
   subst hss
   have key := Rep.sl (E := E) ((xs.take h).drop l) (a.add (l * s')) (c - l) s' (fun i j => U (l + i) j) (by rw [hlen]; omega) (fun i hi => by rw [hget i hi]; exact hs' _ _) (fun x hx c hc => hf x (List.mem_of_mem_take (List.mem_of_mem_drop hx)) c hc)
    (fun i j hi hj => by
     rw [hlen] at hi
     have := hF (l + i) j (by omega) hj
     rw [addr_add, show l * s' + (i * s' + j) = (l + i) * s' + j by rw [Nat.add_mul]; omega]
     exact this)
    (fun i hi j hj => by
     have e := hget i hi
     have := hR (l + i) (by rw [hlen] at hi; omega) j (by rw [e] at hj; exact hj)
     simp only [e]
     exact this)
   rw [hlen] at key
   exact key
end
end Go.Pi
end
section
namespace Go.Pi
open Go.RowKit
section
variable {P : Program} {w₀ : World} {E : Env} {w : World}
theorem compileOpds_rep {ρ : Operand → Value} {ev : Opd → PV} (hev : ∀ x y, compileOpd x = some y → Rep E (ev y) (ρ x)) : ∀ (xs : List Operand) (ys : List Opd), compileOpds xs = some ys → Reps E (ys.map ev) (xs.map ρ) := by
 intro xs
 induction xs with
 |nil => intro ys h; simp [compileOpds] at h; subst h; exact .nil E
 |cons x xs ih =>
  intro ys h
  simp only [compileOpds, bind, Option.bind_eq_some_iff] at h
  obtain ⟨y, hy, r, hr, h⟩ := h
  simp only [Option.some.injEq] at h
  subst h
  exact .cons (hev x y hy) (ih r hr)
theorem asNat_ok {m n : Nat} {x : PV} {v : Value} (hx : Rep E x v) (h : asNat m x = some n) : ∃ k, v = .int k n ∧ n < m := by
 cases x with
 |int k i =>
  simp only [asNat] at h
  split at h
  ·injection h with h
   subst h
   refine ⟨k, ?_, by omega⟩
   rw [hx.int_inv]; congr 1; omega
  ·cases h
 |_ => simp [asNat] at h
theorem done_ix (hI : Inv P w₀ E w) {t e : TypeId} {s : Nat} {x i : PV} {vx vi : Value} (ht : P.underlying t = some (.slice e)) (hs : sizeP P e = some s) (hx : Rep E x vx) (hi : Rep E i vi) {r : PV} {u : Upd}
  (h : ixRun s x i = some (r, u)) : Done P w₀ E w ((do pure (Next.value (← Instr.indexAt t vx vi)) : Sem Next).run P w) r u := by
 unfold ixRun at h
 have hrun : ∀ (a : Addr) (len cap n : Nat) (k : IntKind), n < len → (Instr.indexAt t (.slice (some a) len cap) (.int k n)).run P w = .ok (.pointer (some (a.add (n * s)))) w := by
  intro a len cap n k hn
  simp only [Instr.indexAt, asIntOf, Sem.run_bind, Sem.run_pure, Result.andThen_ok, run_underlying ht, Sem.run_ite]
  simp only [Bool.and_false, run_sizeOf' hs, Result.andThen_ok]
  rw [if_pos (by omega)]
  simp
 cases x with
 |sl xs =>
  simp only at h
  cases hn : asNat xs.length i with
  |none => simp [hn] at h
  |some n =>
   obtain ⟨k, rfl, hlt⟩ := asNat_ok hi hn
   simp only [hn, List.getElem?_eq_getElem hlt] at h
   split at h
   ·rename_i hlen
    simp only [Option.some.injEq, Prod.mk.injEq] at h
    obtain ⟨rfl, rfl⟩ := h
    cases hx with
    |sl0 => simp at hlt
    |sl _ a c s' U hc hs' hf hF hR =>
     have hss : s' = s := (hs' n hlt).symm.trans hlen
     subst hss
     refine done_val hI (hrun a _ c n k hlt) (.fp _ _ (fun j => U n j) (fun c hc => hf _ (List.getElem_mem _) c hc) (fun j hj => ?_) (fun j hj => hR n hlt j hj))
     rw [addr_add]; exact hF n j hlt (by rw [hs' n hlt] at hj; exact hj)
   ·cases h
 |row b g len =>
  simp only at h
  cases hn : asNat len i with
  |none => simp [hn] at h
  |some n =>
   obtain ⟨k, rfl, hlt⟩ := asNat_ok hi hn
   simp only [hn, Option.some.injEq, Prod.mk.injEq] at h
   obtain ⟨rfl, rfl⟩ := h
   obtain ⟨⟨a, c, rfl, _⟩, hk, hp⟩ := hx.row_inv
   refine done_val hI (hrun a _ c n k hlt) (.ptr b g (n * s) _ ⟨_, rfl⟩ hk fun ch hc hg => ?_)
   have := (hp ch hc hg).2
   injection this with e1 _ _
   injection e1 with e1
   rw [e1]
   unfold Addr.add
   split <;> simp_all
 |_ => simp at h
end
end Go.Pi
end
section
namespace Go.Pi
theorem fb1 : (Extern.allGenericRows.lookup "math.Float64bits").isNone = true := by kernel_rfl
theorem fb2 : (Extern.allTypedRows.lookup "math.Float64bits").isNone = true := by kernel_rfl
theorem fb3 : Extern.allRows.lookup "math.Float64bits" = some Extern.MathFloatBits.float64bits := by kernel_rfl
theorem fb4 : (Extern.allNextRows.lookup "math.Float64bits").isNone = true := by kernel_rfl
theorem fb5 : (Extern.allNextRows.lookup "").isNone = true := by kernel_rfl
theorem ff1 : (Extern.allGenericRows.lookup "math.Float64frombits").isNone = true := by kernel_rfl
theorem ff2 : (Extern.allTypedRows.lookup "math.Float64frombits").isNone = true := by kernel_rfl
theorem ff3 : Extern.allRows.lookup "math.Float64frombits" = some Extern.MathFloatBits.float64frombits := by kernel_rfl
theorem ff4 : (Extern.allNextRows.lookup "math.Float64frombits").isNone = true := by kernel_rfl
theorem find_fb {fn : Func} (h : fn.name = "math.Float64bits") (ho : fn.origin = "") : Extern.findNext fn = none ∧ Extern.find fn = some Extern.MathFloatBits.float64bits := by
 have g1 := Option.isNone_iff_eq_none.1 fb1
 have g2 := Option.isNone_iff_eq_none.1 fb2
 have g4 := Option.isNone_iff_eq_none.1 fb4
 have g5 := Option.isNone_iff_eq_none.1 fb5
 exact ⟨by simp [Extern.findNext, h, ho, g4, g5], by simp [Extern.find, h, g1, g2, fb3]⟩
theorem find_ff {fn : Func} (h : fn.name = "math.Float64frombits") (ho : fn.origin = "") : Extern.findNext fn = none ∧ Extern.find fn = some Extern.MathFloatBits.float64frombits := by
 have g1 := Option.isNone_iff_eq_none.1 ff1
 have g2 := Option.isNone_iff_eq_none.1 ff2
 have g4 := Option.isNone_iff_eq_none.1 ff4
 have g5 := Option.isNone_iff_eq_none.1 fb5
 exact ⟨by simp [Extern.findNext, h, ho, g4, g5], by simp [Extern.find, h, g1, g2, ff3]⟩
end Go.Pi
end
section
namespace Go.Pi
open Go.RowKit
section
variable {P : Program} {w₀ : World} {E : Env} {w : World}
def kF : K → Bool
 |.new _ _ | .box _ _ _ | .bsl _ _ _ _ _ | .mksl _ _ _ _ _ _ | .app _ _ _ _ _ => true
 |_ => false
theorem run_fb (n : Nat) : Extern.MathFloatBits.float64bits #[.float .f64 n] = pure (.int .u64 n) := rfl
theorem run_ff (n : Int) : Extern.MathFloatBits.float64frombits #[.int .u64 n] = pure (.float .f64 n.toNat) := rfl
theorem arr1 {α : Type} {a : Array α} {x : α} (h : a.toList = [x]) : a = #[x] := by apply Array.ext'; simpa using h
theorem arr2 {α : Type} {a : Array α} {x y : α} (h : a.toList = [x, y]) : a = #[x, y] := by apply Array.ext'; simpa using h
theorem call_ok {ρ : Operand → Value} {dst : Option Tmp} {c : Call} {ty : TypeId} {pos : String} {aft : Array Edge} {gd : Option (Nat × Bool)} {k : K} {ev : Opd → PV} {fresh st : Nat} {r : PV} {u : Upd} (hc : compileCall P c = some k) (hI : Inv P w₀ E w) (hev : ∀ x y, compileOpd x = some y → Rep E (ev y) (ρ x)) (hfr : kF k = true → ∀ g, st ≤ g → ¬ E.K fresh g) (hfc : ∀ e s b d x c g l, k = .app e s b d x → ev d = .row c g l → ∀ g', st ≤ g' → ¬ E.K c g') (hρ : ∀ f, ρ (.func f) = .func (.func f) #[] #[])
  (hr : opRun ev E.H fresh st k = some (r, u)) : Done P w₀ E w ((execOp ρ ⟨dst, .call c, ty, pos, aft, gd⟩).run P w) r u := by
 obtain ⟨cl, as, ts⟩ := c
 unfold compileCall at hc
 simp only at hc
 split at hc
 ·rename_i x t has hts
  have has := arr1 has
  have hts := arr1 hts
  subst has; subst hts
  simp only [bind, Option.bind_eq_some_iff] at hc
  obtain ⟨d, hd, hc⟩ := hc
  split at hc
  ·simp only [Option.bind_eq_some_iff, Option.some.injEq] at hc
   obtain ⟨y, hy, rfl⟩ := hc
   have hx := hev x y hy
   simp only [opRun] at hr
   cases hv : ev y with
   |str s =>
    rw [hv] at hx
    simp only [hv, Option.some.injEq, Prod.mk.injEq] at hr
    obtain ⟨rfl, rfl⟩ := hr
    refine .here hI (z := .int .i64 s.size) ?_ (.int _ _)
    simp [execOp, resolve, invoke, builtin, Builtin.len_, run_underlying hd, hx.str_inv, goInt]
   |_ => simp [hv] at hr
  ·simp only [Option.bind_eq_some_iff, Option.some.injEq] at hc
   obtain ⟨y, hy, rfl⟩ := hc
   have hx := hev x y hy
   have run : ∀ (A : Option Addr) (n c : Nat), ρ x = .slice A n c → (execOp ρ ⟨dst, .call ⟨.builtin .len, #[x], #[t]⟩, ty, pos, aft, gd⟩).run P w = .ok (.value (.int .i64 n)) w := by
    intro A n c hA
    simp [execOp, resolve, invoke, builtin, Builtin.len_, run_underlying hd, hA, goInt]
   simp only [opRun] at hr
   cases hv : ev y with
   |sl xs =>
    rw [hv] at hx
    simp only [hv, Option.some.injEq, Prod.mk.injEq] at hr
    obtain ⟨rfl, rfl⟩ := hr
    generalize hz : ρ x = z at hx
    cases hx with
    |sl0 A c => exact .here hI (run _ _ _ hz) (.int _ _)
    |sl _ a c => exact .here hI (run _ _ _ hz) (.int _ _)
   |nils =>
    rw [hv] at hx
    simp only [hv, Option.some.injEq, Prod.mk.injEq] at hr
    obtain ⟨rfl, rfl⟩ := hr
    exact .here hI (run _ _ _ hx.nils_inv) (.int _ _)
   |row b g len =>
    rw [hv] at hx
    simp only [hv, Option.some.injEq, Prod.mk.injEq] at hr
    obtain ⟨rfl, rfl⟩ := hr
    obtain ⟨⟨a, c, ha, _⟩, _⟩ := hx.row_inv
    exact .here hI (run _ _ _ ha) (.int _ _)
   |_ => simp [hv] at hr
  ·cases hc
 ·rename_i d x t t2 has hts
  have has := arr2 has
  have hts := arr2 hts
  subst has; subst hts
  simp only [bind, Option.bind_eq_some_iff] at hc
  obtain ⟨e, he, s, hs, b, hb, z, hz, hc⟩ := hc
  have he' : P.underlying t = some (.slice e) := by
   unfold elemP at he
   split at he
   ·rename_i hu; injection he with he; rw [← he]; exact hu
   ·cases he
  split at hc
  ·simp at hc
  ·rename_i hcond
   simp only [Option.bind_eq_some_iff] at hc
   obtain ⟨du, hdu, hc⟩ := hc
   have hu : ((∃ e', P.underlying t2 = some (.slice e')) ∨ P.underlying t2 = some .string) ∧ ∃ yd yx, compileOpd d = some yd ∧ compileOpd x = some yx ∧ k = .app e s b yd yx := by
    split at hc
    ·simp only [Option.bind_eq_some_iff, Option.some.injEq] at hc
     obtain ⟨yd, hyd, yx, hyx, rfl⟩ := hc
     exact ⟨.inl ⟨_, hdu⟩, yd, yx, hyd, hyx, rfl⟩
    ·simp only [Option.bind_eq_some_iff, Option.some.injEq] at hc
     obtain ⟨yd, hyd, yx, hyx, rfl⟩ := hc
     exact ⟨.inr hdu, yd, yx, hyd, hyx, rfl⟩
    ·cases hc
   obtain ⟨hu, yd, yx, hyd, hyx, rfl⟩ := hu
   have := done_app (P := P) (w₀ := w₀) hI (hfr rfl) (ty := ty) he' hu hs (by omega) hb (by omega) hz (by omega) (fun c g l h => hfc _ _ _ _ _ c g l rfl h) (hev d yd hyd) (hev x yx hyx) hr
   simpa [execOp, resolve, invoke, builtin] using this
 ·rename_i x y has
  have has := arr2 has
  subst has
  simp only [bind, Option.bind_eq_some_iff, Option.some.injEq] at hc
  obtain ⟨p, hp, q, hq, rfl⟩ := hc
  simp only [opRun] at hr
  have h1 := hev x p hp
  have h2 := hev y q hq
  cases hvp : ev p with
  |int k1 a =>
   cases hvq : ev q with
   |int k2 b =>
    rw [hvp] at h1
    rw [hvq] at h2
    simp only [hvp, hvq, Option.some.injEq, Prod.mk.injEq] at hr
    obtain ⟨rfl, rfl⟩ := hr
    refine .here hI (z := .int k1 (if b > a then b else a)) ?_ (.int _ _)
    simp [execOp, resolve, invoke, builtin, Builtin.max_, Builtin.max2, h1.int_inv, h2.int_inv]
   |_ => simp [hvp, hvq] at hr
  |_ => simp [hvp] at hr
 ·rename_i x y has
  have has := arr2 has
  subst has
  simp only [bind, Option.bind_eq_some_iff, Option.some.injEq] at hc
  obtain ⟨p, hp, q, hq, rfl⟩ := hc
  simp only [opRun] at hr
  have h1 := hev x p hp
  have h2 := hev y q hq
  cases hvp : ev p with
  |int k1 a =>
   cases hvq : ev q with
   |int k2 b =>
    rw [hvp] at h1
    rw [hvq] at h2
    simp only [hvp, hvq, Option.some.injEq, Prod.mk.injEq] at hr
    obtain ⟨rfl, rfl⟩ := hr
    refine .here hI (z := .int k1 (if b < a then b else a)) ?_ (.int _ _)
    simp [execOp, resolve, invoke, builtin, Builtin.min_, Builtin.min2, h1.int_inv, h2.int_inv]
   |_ => simp [hvp, hvq] at hr
  |_ => simp [hvp] at hr
 ·simp only [bind, Option.bind_eq_some_iff] at hc
  obtain ⟨fn, hfn, hc⟩ := hc
  split at hc
  ·split at hc
   ·cases hc
   ·simp only [Option.bind_eq_some_iff, Option.some.injEq] at hc
    obtain ⟨l, hl, rfl⟩ := hc
    simp [opRun] at hr
  ·rename_i hbody
   split at hc
   ·rename_i x has
    have has := arr1 has
    subst has
    split at hc
    ·cases hc
    ·rename_i ho
     have ho' : fn.origin = "" := by simpa using ho
     have hbn : fn.body.isNone = true := by rw [hbody]; rfl
     split at hc
     ·rename_i hname
      simp only [Option.bind_eq_some_iff, Option.some.injEq] at hc
      obtain ⟨y, hy, rfl⟩ := hc
      have hx := hev x y hy
      obtain ⟨f1, f2⟩ := find_fb hname ho'
      have hng : (fn.name == "runtime.NumGoroutine") = false := by rw [hname]; decide
      simp only [opRun] at hr
      split at hr
      ·rename_i n hv
       rw [hv] at hx
       simp only [Option.some.injEq, Prod.mk.injEq] at hr
       obtain ⟨rfl, rfl⟩ := hr
       refine .here hI (z := .int .u64 n) ?_ (.int _ _)
       simp [execOp, resolve, Deferred.ofValue, hρ, invoke, callFunc, hname, hx.flt_inv, hfn, hbody, f1, f2, run_fb]
      ·cases hr
     ·split at hc
      ·rename_i hname
       simp only [Option.bind_eq_some_iff, Option.some.injEq] at hc
       obtain ⟨y, hy, rfl⟩ := hc
       have hx := hev x y hy
       obtain ⟨f1, f2⟩ := find_ff hname ho'
       have hng : (fn.name == "runtime.NumGoroutine") = false := by rw [hname]; decide
       simp only [opRun] at hr
       split at hr
       ·rename_i n hv
        rw [hv] at hx
        simp only [Option.some.injEq, Prod.mk.injEq] at hr
        obtain ⟨rfl, rfl⟩ := hr
        refine .here hI (z := .float .f64 n.toNat) ?_ (.flt _ _)
        simp [execOp, resolve, Deferred.ofValue, hρ, invoke, callFunc, hname, hx.int_inv, hfn, hbody, f1, f2, run_ff]
       ·cases hr
      ·cases hc
   ·cases hc
 ·simp only [bind, Option.bind_eq_some_iff, Option.some.injEq] at hc
  obtain ⟨l, hl, rfl⟩ := hc
  simp [opRun] at hr
 ·cases hc
theorem op_ok {ρ : Operand → Value} {o : Oper} {k : K} {ev : Opd → PV} {fresh st : Nat} {r : PV} {u : Upd} (hc : compileOp P o = some k) (hI : Inv P w₀ E w) (hev : ∀ x y, compileOpd x = some y → Rep E (ev y) (ρ x)) (hfr : kF k = true → ∀ g, st ≤ g → ¬ E.K fresh g) (hfc : ∀ e s b d x c g l, k = .app e s b d x → ev d = .row c g l → ∀ g', st ≤ g' → ¬ E.K c g') (hρ : ∀ f, ρ (.func f) = .func (.func f) #[] #[])
  (hr : opRun ev E.H fresh st k = some (r, u)) : Done P w₀ E w ((execOp ρ o).run P w) r u := by
 obtain ⟨dst, op, ty, pos, aft, gd⟩ := o
 cases op with
 |move x =>
  simp only [compileOp, bind, Option.bind_eq_some_iff, Option.some.injEq] at hc
  obtain ⟨y, hy, rfl⟩ := hc
  simp only [opRun, Option.some.injEq, Prod.mk.injEq] at hr
  obtain ⟨rfl, rfl⟩ := hr
  exact .here hI (z := ρ x) rfl (hev x y hy)
 |assign x =>
  simp only [compileOp, bind, Option.bind_eq_some_iff, Option.some.injEq] at hc
  obtain ⟨y, hy, rfl⟩ := hc
  simp only [opRun, Option.some.injEq, Prod.mk.injEq] at hr
  obtain ⟨rfl, rfl⟩ := hr
  exact .here hI (z := ρ x) rfl (hev x y hy)
 |pick c a b =>
  simp only [compileOp, bind, Option.bind_eq_some_iff, Option.some.injEq] at hc
  obtain ⟨yc, hyc, ya, hya, yb, hyb, rfl⟩ := hc
  simp only [opRun] at hr
  cases hcv : ev yc with
  |bool t =>
   simp only [hcv, Option.some.injEq, Prod.mk.injEq] at hr
   obtain ⟨rfl, rfl⟩ := hr
   have h1 := hev c yc hyc
   rw [hcv] at h1
   refine .here hI (z := if t then ρ a else ρ b) ?_ (by cases t; exact hev b yb hyb; exact hev a ya hya)
   simp only [execOp, h1.bool_inv, Sem.run_bind, asBool, Sem.run_pure, Result.andThen_ok]
  |_ => simp [hcv] at hr
 |alloc e =>
  simp only [compileOp, bind, Option.bind_eq_some_iff, Option.some.injEq] at hc
  obtain ⟨z, hz, rfl⟩ := hc
  simp only [opRun, Option.some.injEq, Prod.mk.injEq] at hr
  obtain ⟨rfl, rfl⟩ := hr
  exact done_alloc hI (hfr rfl) hz
 |box e x =>
  simp only [compileOp, bind, Option.bind_eq_some_iff, Option.some.injEq] at hc
  obtain ⟨n, hn, y, hy, rfl⟩ := hc
  simp only [opRun] at hr
  cases hcs : cellsOf (ev y) with
  |none => simp [hcs] at hr
  |some cs =>
   simp only [hcs] at hr
   split at hr
   ·simp only [Option.some.injEq, Prod.mk.injEq] at hr
    obtain ⟨rfl, rfl⟩ := hr
    exact done_box hI (hfr rfl) (hev x y hy) hcs
   ·cases hr
 |build t ps =>
  simp only [compileOp, bind, Option.bind_eq_some_iff, Option.some.injEq] at hc
  obtain ⟨l, hl, z, hz, qs, hq, rfl⟩ := hc
  simp only [opRun, Option.map_eq_some_iff, Prod.mk.injEq] at hr
  obtain ⟨cs, hcs, rfl, rfl⟩ := hr
  exact done_build hI hev hz hl hq hcs
 |buildSlice t len ps =>
  simp only [compileOp, bind, Option.bind_eq_some_iff, Option.some.injEq] at hc
  obtain ⟨e, he, s, hs, hc⟩ := hc
  split at hc
  ·simp at hc
  ·rename_i hcond
   simp only [Option.bind_eq_some_iff, Option.some.injEq] at hc
   obtain ⟨z, hz, hc⟩ := hc
   split at hc
   ·cases hc
   ·rename_i hzl
    simp only [Option.bind_eq_some_iff, Option.some.injEq] at hc
    obtain ⟨qs, hq, rfl⟩ := hc
    simp only [opRun, Option.map_eq_some_iff, Prod.mk.injEq] at hr
    obtain ⟨cs, hcs, rfl, rfl⟩ := hr
    have he' : P.underlying t = some (.slice e) := by
     unfold elemP at he
     split at he
     ·rename_i hu; injection he with he; rw [← he]; exact hu
     ·cases he
    exact done_bsl hI hev (hfr rfl) he' hs (by omega) (by omega) hz (by omega) hq hcs
 |load t x =>
  simp only [compileOp, bind, Option.bind_eq_some_iff, Option.some.injEq] at hc
  obtain ⟨ag, hag, s, hs, y, hy, rfl⟩ := hc
  exact done_ld hI hag hs (hev x y hy) hr
 |store t x v =>
  simp only [compileOp, bind, Option.bind_eq_some_iff, Option.some.injEq] at hc
  obtain ⟨s, hs, y, hy, z, hz, rfl⟩ := hc
  exact done_st hI hs (hev x y hy) (hev v z hz) hr
 |nilCheck x =>
  simp only [compileOp, bind, Option.bind_eq_some_iff, Option.some.injEq] at hc
  obtain ⟨y, hy, rfl⟩ := hc
  have hx := hev x y hy
  simp only [opRun] at hr
  cases hv : ev y with
  |ptr b g o =>
   rw [hv] at hx
   simp only [hv, Option.some.injEq, Prod.mk.injEq] at hr
   obtain ⟨rfl, rfl⟩ := hr
   obtain ⟨⟨a, ha⟩, _⟩ := hx.ptr_inv
   exact .here hI (z := .pointer (some a)) (by simp [execOp, ha]) (ha ▸ hx)
  |fp cs =>
   rw [hv] at hx
   simp only [hv, Option.some.injEq, Prod.mk.injEq] at hr
   obtain ⟨rfl, rfl⟩ := hr
   obtain ⟨a, _, ha, _⟩ := hx.fp_inv
   exact .here hI (z := .pointer (some a)) (by simp [execOp, ha]) (ha ▸ hx)
  |ifc t v =>
   rw [hv] at hx
   simp only [hv, Option.some.injEq, Prod.mk.injEq] at hr
   obtain ⟨rfl, rfl⟩ := hr
   obtain ⟨a, ha, _⟩ := hx.ifc_inv
   exact .here hI (z := .iface t a) (by simp [execOp, ha]) (ha ▸ hx)
  |clo f as bs =>
   rw [hv] at hx
   cases f with
   |func f =>
    simp only [hv, Option.some.injEq, Prod.mk.injEq] at hr
    obtain ⟨rfl, rfl⟩ := hr
    generalize hz : ρ x = z at hx
    cases hx with
    |clo _ _ _ vs us hl h hl' h' => exact .here hI (z := .func (.func f) vs.toArray us.toArray) (by simp [execOp, hz]) (.clo _ _ _ vs us hl h hl' h')
   |_ => simp [hv] at hr
  |_ => simp [hv] at hr
 |binOp op t x y yt =>
  simp only [compileOp, bind, Option.bind_eq_some_iff] at hc
  obtain ⟨d, hd, hc⟩ := hc
  split at hc <;> first
   |cases hc; done
   |(simp only [Option.bind_eq_some_iff, Option.some.injEq] at hc
     obtain ⟨a, ha, b, hb, rfl⟩ := hc
     simp only [opRun, Option.map_eq_some_iff, Prod.mk.injEq] at hr
     obtain ⟨v, hv, rfl, rfl⟩ := hr
     first
      |exact done_binp hI hd (hev x a ha) (hev y b hb) hv
      |exact done_bin hI (hev x a ha) (hev y b hb) hv
      |exact done_binb hI hd (hev x a ha) (hev y b hb) hv)
 |unOp op t x =>
  simp only [compileOp, bind, Option.bind_eq_some_iff, Option.some.injEq] at hc
  obtain ⟨y, hy, rfl⟩ := hc
  simp only [opRun, Option.map_eq_some_iff, Prod.mk.injEq] at hr
  obtain ⟨v, hv, rfl, rfl⟩ := hr
  exact done_un hI (hev x y hy) hv
 |convert src dst x =>
  simp only [compileOp, bind, Option.bind_eq_some_iff] at hc
  obtain ⟨ds, hds, dd, hdd, hc⟩ := hc
  split at hc
  ·simp only [Option.bind_eq_some_iff, Option.some.injEq] at hc
   obtain ⟨y, hy, rfl⟩ := hc
   have hx := hev x y hy
   simp only [opRun] at hr
   cases hv : ev y with
   |int k n =>
    rw [hv] at hx
    simp only [hv, Option.some.injEq, Prod.mk.injEq] at hr
    obtain ⟨rfl, rfl⟩ := hr
    refine done_val hI (z := .int _ _) ?_ (.int _ _)
    rw [hx.int_inv]
    simp [convert, run_underlying hds, run_underlying hdd, Conv.intToInt]
   |_ => simp [hv] at hr
  ·split at hc
   ·rename_i he
    simp only [Option.map_eq_some_iff] at hc
    obtain ⟨y, hy, rfl⟩ := hc
    have hx := hev x y hy
    simp only [opRun] at hr
    split at hr
    ·cases hr
    ·rename_i hns
     cases hel : elemsOf E.H 1 (ev y) with
     |none => simp [hel] at hr
     |some nc =>
      obtain ⟨n, cs⟩ := nc
      simp only [hel, Option.map_eq_some_iff, Prod.mk.injEq] at hr
      obtain ⟨l, hl, rfl, rfl⟩ := hr
      have hd := done_cstr hI hx (fun s hs => hns s hs) hel hl
      obtain ⟨n', w', E', z, hrun, hn, hz, hp⟩ := hd
      refine ⟨n', w', E', z, ?_, hn, hz, hp⟩
      rw [← hrun]
      have hcv : (convert src dst (ρ x)).run P w = (Conv.bytesToString (ρ x)).run P w := by
       unfold convert
       simp only [Sem.run_bind, run_underlying hds, run_underlying hdd, Result.andThen_ok]
       obtain ⟨U, _, _, _, _, _, hv⟩ := elems_ok hI hx hel
       rcases hv with ⟨s', hs', _⟩ | ⟨A, c, hA, _⟩
       ·exact absurd hs' (hns s')
       ·rw [hA]
        simp only [Sem.run_bind, run_underlying he, Result.andThen_ok]
      simp only [execOp, Sem.run_bind, hcv]
   ·cases hc
  ·simp only [Option.bind_eq_some_iff, Option.some.injEq] at hc
   obtain ⟨y, hy, rfl⟩ := hc
   have hx := hev x y hy
   simp only [opRun] at hr
   cases hv : ev y with
   |str s =>
    rw [hv] at hx
    simp only [hv, Option.some.injEq, Prod.mk.injEq] at hr
    obtain ⟨rfl, rfl⟩ := hr
    refine done_val hI (z := .string s) ?_ (.str _)
    rw [hx.str_inv]
    simp [convert, run_underlying hds, run_underlying hdd]
   |_ => simp [hv] at hr
  ·cases hc
 |makeInterface t x =>
  simp only [compileOp, bind, Option.bind_eq_some_iff] at hc
  obtain ⟨d, hd, hc⟩ := hc
  split at hc
  ·cases hc
  ·rename_i hni
   simp only [Option.bind_eq_some_iff, Option.some.injEq] at hc
   obtain ⟨y, hy, rfl⟩ := hc
   simp only [opRun, Option.some.injEq, Prod.mk.injEq] at hr
   obtain ⟨rfl, rfl⟩ := hr
   refine done_val hI (z := .iface t (ρ x)) ?_ (.ifc _ _ _ (hev x y hy))
   simp only [Instr.makeInterface, Sem.run_bind, run_underlying hd, Result.andThen_ok]
   cases d <;> first | rfl | exact absurd rfl (hni _)
 |makeFunc fn a b =>
  simp only [compileOp, bind, Option.bind_eq_some_iff, Option.some.injEq] at hc
  obtain ⟨as, ha, bs, hb, rfl⟩ := hc
  simp only [opRun, Option.some.injEq, Prod.mk.injEq] at hr
  obtain ⟨rfl, rfl⟩ := hr
  have h1 := compileOpds_rep hev _ _ ha
  have h2 := compileOpds_rep hev _ _ hb
  refine done_val hI (z := .func fn (a.map ρ) (b.map ρ)) rfl ?_
  have := Rep.clo (E := E) fn _ _ _ _ h1.1 (fun i hi => h1.get i hi) h2.1 (fun i hi => h2.get i hi)
  have e1 : ∀ q : Array Operand, q.map ρ = (q.toList.map ρ).toArray := fun q => by apply Array.ext'; simp
  rw [e1, e1]
  exact this
 |makeSlice t l c =>
  simp only [compileOp, bind, Option.bind_eq_some_iff] at hc
  obtain ⟨e, he, z, hz, s, hs, b, hb, hc⟩ := hc
  split at hc
  ·simp at hc
  ·rename_i hcond
   simp only [Option.bind_eq_some_iff, Option.some.injEq] at hc
   obtain ⟨yl, hyl, yc, hyc, rfl⟩ := hc
   have he' : P.underlying t = some (.slice e) := by
    unfold elemP at he
    split at he
    ·rename_i hu; injection he with he; rw [← he]; exact hu
    ·cases he
   have hl := hev l yl hyl
   have hcc := hev c yc hyc
   simp only [opRun] at hr
   cases hvl : ev yl with
   |int kl vl =>
    cases hvc : ev yc with
    |int kc vc =>
     rw [hvl] at hl
     rw [hvc] at hcc
     simp only [hvl, hvc] at hr
     split at hr
     ·rename_i hb3
      simp only [Option.some.injEq, Prod.mk.injEq] at hr
      obtain ⟨rfl, rfl⟩ := hr
      have := done_mksl hI (hfr rfl) (kl := kl) (kc := kc) he' hs (by omega) hb (by omega) hz (by omega) hb3
      simpa only [execOp, hl.int_inv, hcc.int_inv] using this
     ·cases hr
    |_ => simp [hvl, hvc] at hr
   |_ => simp [hvl] at hr
 |slice t x lo hi mx =>
  cases mx with
  |some m => simp [compileOp] at hc
  |none =>
   simp only [compileOp, bind, Option.bind_eq_some_iff] at hc
   obtain ⟨lo', hlo, hi', hhi, d, hd, hc⟩ := hc
   split at hc
   ·simp only [Option.bind_eq_some_iff, Option.some.injEq] at hc
    obtain ⟨y, hy, rfl⟩ := hc
    have hx := hev x y hy
    simp only [opRun] at hr
    cases hv : ev y with
    |str s =>
     rw [hv] at hx
     simp only [hv] at hr
     cases hl : boundP 0 ev lo' with
     |none => simp [hl] at hr
     |some l =>
      cases hh : boundP s.size ev hi' with
      |none => simp [hl, hh] at hr
      |some h =>
       simp only [hl, hh] at hr
       split at hr
       ·rename_i hb
        simp only [Option.some.injEq, Prod.mk.injEq] at hr
        obtain ⟨rfl, rfl⟩ := hr
        have := done_sstr (P := P) (w₀ := w₀) hI (ρ := ρ) hd (bound_ok hev hlo hl) (bound_ok hev hhi hh) hb.1 hb.2
        simpa only [execOp, hx.str_inv, Option.map_none] using this
       ·cases hr
    |_ => simp [hv] at hr
   ·simp only [Option.bind_eq_some_iff, Option.some.injEq] at hc
    obtain ⟨s, hs, y, hy, rfl⟩ := hc
    have hx := hev x y hy
    simp only [opRun] at hr
    cases hv : ev y with
    |sl xs =>
     rw [hv] at hx
     simp only [hv] at hr
     cases hl : boundP 0 ev lo' with
     |none => simp [hl] at hr
     |some l =>
      cases hh : boundP xs.length ev hi' with
      |none => simp [hl, hh] at hr
      |some h =>
       simp only [hl, hh] at hr
       split at hr
       ·rename_i hb
        simp only [Option.some.injEq, Prod.mk.injEq] at hr
        obtain ⟨rfl, rfl⟩ := hr
        obtain ⟨A, c, hvx, hlc, hrep⟩ := rep_sub hx (s := s) (by simpa using hb.2.2) hb.1 hb.2.1
        have := done_ssl (P := P) (w₀ := w₀) hI (ρ := ρ) (A := A) (len := xs.length) (cap := c) hd hs (bound_ok hev hlo hl) (bound_ok hev hhi hh) hb.1 (by omega) hrep
        simpa only [execOp, hvx, Option.map_none] using this
       ·cases hr
    |nils =>
     rw [hv] at hx
     simp only [hv] at hr
     split at hr
     ·rename_i hl hh
      simp only [Option.some.injEq, Prod.mk.injEq] at hr
      obtain ⟨rfl, rfl⟩ := hr
      have := done_ssl (P := P) (w₀ := w₀) hI (ρ := ρ) (A := none) (len := 0) (cap := 0) (r := .nils) hd hs (bound_ok hev hlo hl) (bound_ok hev hhi hh) (Nat.le_refl _) (Nat.le_refl _) .nils
      simpa only [execOp, hx.nils_inv, Option.map_none] using this
     ·cases hr
    |row b g len =>
     rw [hv] at hx
     simp only [hv] at hr
     split at hr
     ·rename_i h hl hh
      split at hr
      ·rename_i hle
       simp only [Option.some.injEq, Prod.mk.injEq] at hr
       obtain ⟨rfl, rfl⟩ := hr
       obtain ⟨⟨a, c, hvx, hlc⟩, hk, hp⟩ := hx.row_inv
       have := done_ssl (P := P) (w₀ := w₀) hI (ρ := ρ) (A := some a) (len := len) (cap := c) (r := .row b g h) hd hs (bound_ok hev hlo hl) (bound_ok hev hhi hh) (Nat.zero_le _) (by omega) (by
        have ea : (if c = 0 then some a else (some a).map (·.add (0 * s))) = some a := by
         split
         ·rfl
         ·simp [Addr.add]
        rw [ea, Nat.sub_zero, Nat.sub_zero]
        refine .row b g h _ ⟨_, _, rfl, by omega⟩ hk fun ch hc hg => ?_
        obtain ⟨h1, h2⟩ := hp ch hc hg
        rw [hvx] at h2
        injection h2 with e1 _ e3
        rw [e1, e3]
        exact ⟨by omega, rfl⟩)
       simpa only [execOp, hvx, Option.map_none] using this
      ·cases hr
     ·cases hr
    |_ => simp [hv] at hr
   ·cases hc
 |fieldAddr t x f =>
  simp only [compileOp] at hc
  split at hc
  ·rename_i fs hu
   simp only [bind, Option.bind_eq_some_iff] at hc
   obtain ⟨fd, hfd, s, hs, hc⟩ := hc
   split at hc
   ·simp at hc
   ·rename_i hs0
    simp only [Option.bind_eq_some_iff, Option.some.injEq] at hc
    obtain ⟨y, hy, rfl⟩ := hc
    have hx := hev x y hy
    have hrun : ∀ a : Addr, (Instr.fieldAt t (.pointer (some a)) f).run P w = .ok (.pointer (some (a.add fd.offset))) w := by
     intro a
     simp only [Instr.fieldAt, Sem.run_bind, run_underlying hu, Result.andThen_ok, hfd, Instr.sureAddr, Sem.run_pure, fieldPlace, run_sizeOf' hs, hs0, if_false]
    simp only [opRun] at hr
    cases hv : ev y with
    |ptr b g o =>
     rw [hv] at hx
     simp only [hv, Option.some.injEq, Prod.mk.injEq] at hr
     obtain ⟨rfl, rfl⟩ := hr
     obtain ⟨⟨a, ha⟩, hk, hp⟩ := hx.ptr_inv
     refine done_val hI (by rw [ha]; exact hrun a) (.ptr _ _ _ _ ⟨_, rfl⟩ hk fun ch hc hg => ?_)
     have := hp ch hc hg
     rw [ha] at this
     injection this with e1
     injection e1 with e1
     rw [e1]
     unfold Addr.add
     split <;> simp_all
    |fp cs =>
     rw [hv] at hx
     simp only [hv, Option.some.injEq, Prod.mk.injEq] at hr
     obtain ⟨rfl, rfl⟩ := hr
     obtain ⟨a, U, ha, hf, hF, hR⟩ := hx.fp_inv
     refine done_val hI (by rw [ha]; exact hrun a) (.fp _ _ (fun j => U (fd.offset + j)) (fun c hc => hf c (List.mem_of_mem_drop hc)) (fun j hj => ?_) fun j hj => ?_)
     ·rw [addr_add]; exact hF _ (by simp at hj; omega)
     ·simp only [List.getElem_drop]; exact hR _ (by simp at hj; omega)
    |_ => simp [hv] at hr
  ·cases hc
 |indexAddr t x i =>
  simp only [compileOp, bind, Option.bind_eq_some_iff, Option.some.injEq] at hc
  obtain ⟨e, he, s, hs, y, hy, z, hz, rfl⟩ := hc
  have he' : P.underlying t = some (.slice e) := by
   unfold elemP at he
   split at he
   ·rename_i hu; injection he with he; rw [← he]; exact hu
   ·cases he
  simp only [opRun] at hr
  exact done_ix hI he' hs (hev x y hy) (hev i z hz) hr
 |index t x i =>
  simp only [compileOp, bind, Option.bind_eq_some_iff] at hc
  obtain ⟨d, hd, hc⟩ := hc
  split at hc
  ·simp only [Option.bind_eq_some_iff, Option.some.injEq] at hc
   obtain ⟨y, hy, z, hz, rfl⟩ := hc
   have hx := hev x y hy
   have hi := hev i z hz
   simp only [opRun] at hr
   cases hv : ev y with
   |str s =>
    rw [hv] at hx
    simp only [hv] at hr
    cases hn : asNat s.size (ev z) with
    |none => simp [hn] at hr
    |some n =>
     simp only [hn, Option.some.injEq, Prod.mk.injEq] at hr
     obtain ⟨rfl, rfl⟩ := hr
     obtain ⟨k, hk, hlt⟩ := asNat_ok hi hn
     refine done_val hI (z := .int .u8 (s.data.toList.getD n 0).toNat) ?_ (.int _ _)
     rw [hx.str_inv, hk]
     simp only [Instr.index, asIntOf, Sem.run_bind, Sem.run_pure, Result.andThen_ok, run_underlying hd]
     rw [if_pos (by omega)]
     have e1 : s[((n : Int).toNat)]? = some (s.data.toList.getD n 0) := by
      simp only [Int.toNat_natCast]
      rw [getElem?_pos s n hlt]
      congr 1
      rw [List.getD_eq_getElem?_getD, List.getElem?_eq_getElem (by simpa using hlt)]
      rfl
     rw [e1]
     rfl
   |_ => simp [hv] at hr
  ·cases hc
 |typeAssert x xt t ok =>
  cases ok with
  |false => simp [compileOp] at hc
  |true =>
   simp only [compileOp, bind, Option.bind_eq_some_iff] at hc
   obtain ⟨d, hd, i, hi, hc⟩ := hc
   split at hc
   ·cases hc
   ·cases hc
   ·rename_i hni hinv
    split at hc
    ·rename_i z0 hz0
     simp only [Option.bind_eq_some_iff, Option.some.injEq] at hc
     obtain ⟨z, hz, y, hy, rfl⟩ := hc
     have hx := hev x y hy
     have hzr := (ofConst_rep hz E).1
     have hzero : (zeroValue t).run P w = .ok z0 w := by simp [zeroValue, run_typeInfo' hi, hz0]
     have hnif : ∀ ms, d ≠ .interface ms := fun ms e => hni ms e
     simp only [opRun] at hr
     have tup2 : ∀ (p : PV) (q : Value) (b : Bool), Rep E p q → Rep E (.tup [p, .bool b]) (.tuple #[q, .bool b]) := fun p q b hpq => (Reps.cons hpq (.cons (.bool b) (.nil E))).tup
     cases hv : ev y with
     |nili =>
      rw [hv] at hx
      simp only [hv, Option.some.injEq, Prod.mk.injEq] at hr
      obtain ⟨rfl, rfl⟩ := hr
      refine done_val hI (z := .tuple #[z0, .bool false]) ?_ (tup2 _ _ _ hzr)
      rw [hx.nili_inv]
      simp only [Instr.typeAssert, Sem.run_bind, run_underlying hd, Result.andThen_ok]
      cases d <;> first | exact absurd rfl (hnif _) | simp [hzero]
     |ifc u v =>
      rw [hv] at hx
      obtain ⟨q, hq, hqr⟩ := hx.ifc_inv
      simp only [hv] at hr
      split at hr
      ·rename_i hut
       simp only [Option.some.injEq, Prod.mk.injEq] at hr
       obtain ⟨rfl, rfl⟩ := hr
       refine done_val hI (z := .tuple #[q, .bool true]) ?_ (tup2 _ _ _ hqr)
       rw [hq]
       simp only [Instr.typeAssert, Sem.run_bind, run_underlying hd, Result.andThen_ok]
       cases d <;> first | exact absurd rfl (hnif _) | simp [hut]
      ·rename_i hut
       simp only [Option.some.injEq, Prod.mk.injEq] at hr
       obtain ⟨rfl, rfl⟩ := hr
       refine done_val hI (z := .tuple #[z0, .bool false]) ?_ (tup2 _ _ _ hzr)
       rw [hq]
       simp only [Instr.typeAssert, Sem.run_bind, run_underlying hd, Result.andThen_ok]
       cases d <;> first | exact absurd rfl (hnif _) | simp [hut, hzero]
     |_ => simp [hv] at hr
    ·cases hc
 |extract x i =>
  simp only [compileOp, bind, Option.bind_eq_some_iff, Option.some.injEq] at hc
  obtain ⟨y, hy, rfl⟩ := hc
  have hx := hev x y hy
  simp only [opRun] at hr
  cases hv : ev y with
  |tup vs =>
   rw [hv] at hx
   simp only [hv, Option.map_eq_some_iff, Prod.mk.injEq] at hr
   obtain ⟨v, hvi, rfl, rfl⟩ := hr
   obtain ⟨us, hus, hR⟩ := hx.tup_inv
   obtain ⟨hlt, hvi⟩ := List.getElem?_eq_some_iff.1 hvi
   have hlt' : i < us.length := by rw [← hR.1]; exact hlt
   refine done_val hI (z := us[i]) ?_ (by have := hR.get i hlt; rw [hvi] at this; exact this)
   rw [hus]
   simp [Instr.extract, hlt']
  |_ => simp [hv] at hr
 |call c =>
  simp only [compileOp] at hc
  exact call_ok hc hI hev hfr hfc hρ hr
 |_ => simp [compileOp] at hc
end
end Go.Pi
end
