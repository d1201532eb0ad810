import Derived.Test.YtpnkedaceaodbaaGreatDoorP09
/- Part of the proof. -/
set_option linter.all false
section
namespace Go.Pi
theorem near_of {N m D U : Nat} (hm : m < 9007199254740992) (hU : 10000000000000000 * U ≤ m * D) (hD : 0 < D) (h1 : 2 * (N - m * D) ≤ U) (h2 : 2 * (m * D - N) ≤ U) :
  (m * D ≤ N → 2 * (N - m * D) < D) ∧ (N < m * D → 2 * (m * D - N) < D) ∧ (N < m * D → m = 4503599627370496 → 4 * (m * D - N) < D) := by
 have h3 : m * D ≤ 9007199254740991 * D := Nat.mul_le_mul_right _ (by omega)
 refine ⟨fun _ => by omega, fun _ => by omega, fun _ h => ?_⟩
 subst h
 omega
theorem best_near {x y Q : Nat} (hy : 0 < y) (hQ : Q = if y ≤ 2 * (x % y) then x / y + 1 else x / y) : 2 * (x - Q * y) ≤ y ∧ 2 * (Q * y - x) ≤ y := by
 have h := Nat.div_add_mod x y
 have hr := Nat.mod_lt x hy
 have e1 : (x / y + 1) * y = y * (x / y) + y := by grind
 have e2 : x / y * y = y * (x / y) := Nat.mul_comm _ _
 split at hQ
 ·subst hQ; rw [e1]; omega
 ·subst hQ; rw [e2]; omega
theorem two_mul_sub_le {b u v w : Nat} (hb : 0 < b) (h : 2 * (b * u - b * v) ≤ b * w) : 2 * (u - v) ≤ w := by
 rw [← Nat.mul_sub, ← Nat.mul_assoc, Nat.mul_comm 2 b, Nat.mul_assoc] at h
 exact Nat.le_of_mul_le_mul_left h hb
theorem short_aux {P a b m u B N y' x' t Q : Nat} (hb : 0 < b) (hB : 0 < B) (hu : 0 < u) (hx : a * P = m * u * b) (hm : m < 9007199254740992) (hlo : 10000000000000000 * t * b ≤ a * B)
  (n1 : 2 * (x' - Q * y') ≤ y') (n2 : 2 * (Q * y' - x') ≤ y') (hy' : y' = b * t) (hx' : x' = a * B) (hN : N = Q * t) :
  (m * (B * u) ≤ N * P → 2 * (N * P - m * (B * u)) < B * u) ∧ (N * P < m * (B * u) → 2 * (m * (B * u) - N * P) < B * u) ∧ (N * P < m * (B * u) → m = 4503599627370496 → 4 * (m * (B * u) - N * P) < B * u) := by
 subst hy' hx' hN
 have e1 : b * (Q * t * P) = P * (Q * (b * t)) := by grind
 have e2 : b * (m * (B * u)) = P * (a * B) := by grind
 refine near_of (U := P * t) hm ?_ (Nat.mul_pos hB hu) ?_ ?_
 ·refine Nat.le_of_mul_le_mul_left ?_ hb
  rw [e2, show b * (10000000000000000 * (P * t)) = P * (10000000000000000 * t * b) by grind]
  exact Nat.mul_le_mul_left _ hlo
 ·refine two_mul_sub_le hb ?_
  rw [e1, e2, ← Nat.mul_sub, show b * (P * t) = P * (b * t) by grind, show 2 * (P * (Q * (b * t) - a * B)) = P * (2 * (Q * (b * t) - a * B)) by grind]
  exact Nat.mul_le_mul_left _ n2
 ·refine two_mul_sub_le hb ?_
  rw [e1, e2, ← Nat.mul_sub, show b * (P * t) = P * (b * t) by grind, show 2 * (P * (a * B - Q * (b * t))) = P * (2 * (a * B - Q * (b * t))) by grind]
  exact Nat.mul_le_mul_left _ n1
theorem short_up {P a b m E i Q r : Nat} (hb : 0 < b) (hx : a * P = m * 2 ^ E * b) (hm : m < 9007199254740992) (hE : E = 0 ∨ 4503599627370496 ≤ m) (hE2 : E ≤ 2045)
  (hlo : 10000000000000000 * 10 ^ i * b ≤ a) (hQ : Q = if b * 10 ^ i ≤ 2 * (a % (b * 10 ^ i)) then a / (b * 10 ^ i) + 1 else a / (b * 10 ^ i)) (hr : RndR P (Q * 10 ^ i) 1 r) : r = E * 4503599627370496 + m := by
 have hp : 0 < 10 ^ i := Nat.pow_pos (by decide)
 have h2 : 0 < 2 ^ E := Nat.pow_pos (by decide)
 obtain ⟨n1, n2⟩ := best_near (Nat.mul_pos hb hp) hQ
 obtain ⟨c1, c2, c3⟩ := short_aux (B := 1) (N := Q * 10 ^ i) hb (by decide) h2 hx hm (by omega) n1 n2 rfl (by omega) rfl
 exact rnd_back (by decide) hr hm hE hE2 c1 c2 c3
theorem short_down {P a b m E j Q r : Nat} (hb : 0 < b) (hx : a * P = m * 2 ^ E * b) (hm : m < 9007199254740992) (hE : E = 0 ∨ 4503599627370496 ≤ m) (hE2 : E ≤ 2045)
  (hlo : 10000000000000000 * b ≤ a * 10 ^ j) (hQ : Q = if b ≤ 2 * (a * 10 ^ j % b) then a * 10 ^ j / b + 1 else a * 10 ^ j / b) (hr : RndR P Q (10 ^ j) r) : r = E * 4503599627370496 + m := by
 have hp : 0 < 10 ^ j := Nat.pow_pos (by decide)
 have h2 : 0 < 2 ^ E := Nat.pow_pos (by decide)
 obtain ⟨n1, n2⟩ := best_near hb hQ
 obtain ⟨c1, c2, c3⟩ := short_aux (B := 10 ^ j) (N := Q) (t := 1) hb hp h2 hx hm (by omega) n1 n2 (by omega) rfl (by omega)
 exact rnd_back hp hr hm hE hE2 c1 c2 c3
theorem rnd_end {P A B E q r v : Nat} (h : RndAt P A B E) (hq : q = A * P / (B * 2 ^ E)) (hr : r = A * P % (B * 2 ^ E)) {q2 : Nat} (hq2 : q2 = if B * 2 ^ E < 2 * r ∨ 2 * r = B * 2 ^ E ∧ q % 2 = 1 then q + 1 else q)
  (hv : v = min (E * 4503599627370496 + q2) (2047 * 4503599627370496)) : RndR P A B v := by
 subst hq hr hq2
 exact ⟨E, h, by rw [hv, rndQ]⟩
end Go.Pi
end
section
namespace Go.Pi
def exK (K n ref : Int) : Prop :=
 (K = 32 → 0 ≤ ref) ∧ (K = 10 ∨ K = 13 ∨ K = 28 ∨ K = 16 → n = 1) ∧ (K = 29 ∨ K = 20 → n ≤ 1) ∧ (K = 14 ∨ K = 17 → n = 2) ∧ (K = 15 → n = 3) ∧ (K = 18 ∨ K = 19 → 1 ≤ n) ∧
  0 ≤ K ∧ K ≤ 32 ∧ K ≠ 23 ∧ K ≠ 24 ∧ K ≠ 27
def stK (K ne nk ref : Int) : Prop :=
 (K = 3 ∨ K = 19 → ne = 1) ∧ (K = 18 → ne ≤ 1) ∧ (K = 9 → ne = 2 ∧ nk = 2) ∧ (K = 10 ∨ K = 11 → ne = 1 ∧ nk = 2) ∧ (K = 12 ∨ K = 13 ∨ K = 14 → ne = 1 ∧ nk = 1) ∧ (K = 8 → ne = 1 ∧ 1 ≤ nk ∧ nk ≤ 2) ∧
  (K = 17 → nk = 1 ∧ 0 ≤ ref) ∧ (K = 16 → ne = 1) ∧ 0 ≤ K ∧ K ≤ 21
def tryK (c4 c8 nk nd : Int) : Prop := (c4 ≠ 0 ∧ c8 = 0 ∧ nk = 2 ∨ c4 = 0 ∧ c8 ≠ 0 ∧ nk = 2 ∧ nd = 0 ∨ c4 ≠ 0 ∧ c8 ≠ 0 ∧ nk = 3) ∧ nd ≤ 1
mutual
inductive OkE : List PV → Prop
 |mk (kind op ref chain flags : Int) (num str text kids props parts fns classes : PV) (hx : exK kind (els kids).length ref) (hk : ∀ y, y ∈ els kids → OkE y) (hp : kind = 12 → ∀ y, y ∈ els props → OkP y)
   (hq : kind = 20 → ∀ y, y ∈ els parts → OkQ y) (hc1 : kind = 30 → (els classes).length = 1) (hc : kind = 30 → ∀ y, y ∈ els classes → OkC y) :
   OkE [.int .i64 kind, .int .i64 op, .int .i64 ref, .int .i64 chain, .int .i64 flags, num, str, text, kids, props, parts, fns, classes]
inductive OkP : List PV → Prop
 |mk (kind flags key value : PV) (h1 : (els key).length ≤ 1) (h2 : (els value).length ≤ 1) (hk : ∀ y, y ∈ els key → OkE y) (hv : ∀ y, y ∈ els value → OkE y) : OkP [kind, flags, key, value]
inductive OkQ : List PV → Prop
 |mk (value str text : PV) (h1 : (els value).length = 1) (hv : ∀ y, y ∈ els value → OkE y) : OkQ [value, str, text]
inductive OkB : List PV → Prop
 |mk (kind ref : Int) (items rest : PV) (h0 : 0 ≤ kind) (h3 : kind ≤ 3) (h1 : kind = 1 → 0 ≤ ref) (hi : kind = 2 ∨ kind = 3 → ∀ y, y ∈ els items → OkI kind y) : OkB [.int .i64 kind, .int .i64 ref, items, rest]
inductive OkI : Int → List PV → Prop
 |mk (pk flags : Int) (key dflt b0 b1 b2 b3 : PV) (h1 : (els key).length ≤ 1) (h2 : (els dflt).length ≤ 1) (h3 : pk = 3 → (els key).length = 0 → flags = 2) (hk : pk = 3 → ∀ y, y ∈ els key → OkE y) (hd : ∀ y, y ∈ els dflt → OkE y) (hb : OkB [b0, b1, b2, b3]) :
   OkI pk [.int .i64 flags, key, dflt, b0, b1, b2, b3]
inductive OkA : List PV → Prop
 |mk (b0 b1 b2 b3 dflt : PV) (hb : OkB [b0, b1, b2, b3]) (h1 : (els dflt).length ≤ 1) (hd : ∀ y, y ∈ els dflt → OkE y) : OkA [b0, b1, b2, b3, dflt]
inductive OkF : List PV → Prop
 |mk (name flags args body : PV) (ha : ∀ y, y ∈ els args → OkA y) (hb : ∀ y, y ∈ els body → OkS y) : OkF [name, flags, args, body]
inductive OkM : List PV → Prop
 |mk (kind flags : Int) (key value init block : PV) (h1 : (els key).length ≤ 1) (h2 : (els value).length ≤ 1) (h3 : (els init).length ≤ 1) (h4 : kind ≠ 6 → (els key).length = 1) (hk : ∀ y, y ∈ els key → OkE y) (hv : ∀ y, y ∈ els value → OkE y)
   (hi : ∀ y, y ∈ els init → OkE y) (hb : kind = 6 → ∀ y, y ∈ els block → OkS y) : OkM [.int .i64 kind, .int .i64 flags, key, value, init, block]
inductive OkC : List PV → Prop
 |mk (name ext members : PV) (h1 : (els ext).length ≤ 1) (he : ∀ y, y ∈ els ext → OkE y) (hm : ∀ y, y ∈ els members → OkM y) : OkC [name, ext, members]
inductive OkD : List PV → Prop
 |mk (b0 b1 b2 b3 value : PV) (hb : OkB [b0, b1, b2, b3]) (h1 : (els value).length ≤ 1) (hv : ∀ y, y ∈ els value → OkE y) : OkD [b0, b1, b2, b3, value]
inductive OkK : List PV → Prop
 |mk (value body : PV) (h1 : (els value).length ≤ 1) (hv : ∀ y, y ∈ els value → OkE y) (hb : ∀ y, y ∈ els body → OkS y) : OkK [value, body]
inductive OkS : List PV → Prop
 |mk (kind op ref flags : Int) (str exprs kids decls cases fns classes : PV) (hx : stK kind (els exprs).length (els kids).length ref) (he : ∀ y, y ∈ els exprs → OkE y) (hk : ∀ y, y ∈ els kids → OkS y)
   (hd : kind = 4 ∨ kind = 15 → ∀ y, y ∈ els decls → OkD y) (hd1 : kind = 4 → 1 ≤ (els decls).length) (hf1 : kind = 5 → (els fns).length = 1 ∧ ∀ y, y ∈ els fns → ∃ (n : Int) (l : List PV), y = .int .i64 n :: l ∧ 0 ≤ n) (hf : kind = 5 → ∀ y, y ∈ els fns → OkF y)
   (hc1 : kind = 6 → (els classes).length = 1 ∧ ∀ y, y ∈ els classes → ∃ (n : Int) (l : List PV), y = .int .i64 n :: l ∧ 0 ≤ n) (hc : kind = 6 → ∀ y, y ∈ els classes → OkC y) (hw : kind = 16 → ∀ y, y ∈ els cases → OkK y)
   (ht : kind = 15 → tryK (bits .and .i64 flags 4) (bits .and .i64 flags 8) (els kids).length (els decls).length ∧ (∀ y, y ∈ els kids → ∃ l : List PV, y = .int .i64 7 :: l) ∧ ∀ y, y ∈ els decls → ∃ b0 b1 b2 b3 v : PV, y = [b0, b1, b2, b3, v] ∧ (els v).length = 0) :
   OkS [.int .i64 kind, .int .i64 op, .int .i64 ref, .int .i64 flags, str, exprs, kids, decls, cases, fns, classes]
end
def OkR (p : Prop) (r : PV) : Prop := ∃ b, r = .bool b ∧ (b = true → p)
def Upto (P : List PV → Prop) (v : PV) (i : Nat) : Prop := ∀ j y, j < i → (els v)[j]? = some y → P y
theorem Upto.zero {P : List PV → Prop} {v : PV} : Upto P v 0 := fun j y h => absurd h (Nat.not_lt_zero _)
theorem Upto.succ {P : List PV → Prop} {v : PV} {i : Nat} {y : List PV} (h : Upto P v i) (hy : (els v)[i]? = some y) (hp : P y) : Upto P v (i + 1) := by
 intro j z hj hz
 rcases Nat.lt_or_ge j i with hj2 | hj2
 ·exact h j z hj2 hz
 ·have : j = i := by omega
  subst this
  rw [hy] at hz
  cases hz
  exact hp
theorem Upto.succ' {P : List PV → Prop} {v : PV} {i : Nat} (h : Upto P v i) (hp : ∀ y, (els v)[i]? = some y → P y) : Upto P v (i + 1) := by
 intro j z hj hz
 rcases Nat.lt_or_ge j i with hj2 | hj2
 ·exact h j z hj2 hz
 ·have : j = i := by omega
  subst this
  exact hp z hz
theorem Upto.all {P : List PV → Prop} {v : PV} {i : Nat} (h : Upto P v i) (hi : (els v).length ≤ i) : ∀ y, y ∈ els v → P y := by
 intro y hy
 obtain ⟨j, hj, e⟩ := List.getElem_of_mem hy
 exact h j y (by omega) (by rw [List.getElem?_eq_getElem hj, e])
theorem one_all {P : List PV → Prop} {v : PV} {y : List PV} (hl : (els v).length = 1) (hy : (els v)[0]? = some y) (hp : P y) : ∀ z, z ∈ els v → P z := by
 intro z hz
 obtain ⟨j, hj, e⟩ := List.getElem_of_mem hz
 have : j = 0 := by omega
 subst this
 rw [List.getElem?_eq_getElem hj, e] at hy
 cases hy
 exact hp
theorem none_all {P : List PV → Prop} {v : PV} (hl : (els v).length = 0) : ∀ z, z ∈ els v → P z := fun z hz => by rw [List.eq_nil_of_length_eq_zero hl] at hz; cases hz
end Go.Pi
end
