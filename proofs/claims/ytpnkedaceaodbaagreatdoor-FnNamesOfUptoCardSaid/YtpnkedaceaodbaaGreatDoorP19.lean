import Derived.Test.YtpnkedaceaodbaaGreatDoorP06
import Derived.Test.YtpnkedaceaodbaaGreatDoorP07
import Derived.Test.YtpnkedaceaodbaaGreatDoorP08
import Derived.Test.YtpnkedaceaodbaaGreatDoorP09
import Derived.Test.YtpnkedaceaodbaaGreatDoorP15
/- Part of the proof. -/
set_option linter.all false
section
namespace Go.Pi
section
variable {T : Nat → Option FX} {X : CallF} {G : Nat → PV} {Q : Ex → St → Prop} {w : List Wk}
variable {i len id n : Nat} {tr : Trk} {d : Option Nat} {os : List XO} {t : Nat → PV} {H : Heap}
def Sc (T : Nat → Option FX) (X : CallF) (G : Nat → PV) (f : Nat) (s : ByteArray) (args : List PV) (Pre : Int → Prop) (R : Int → Int → Int → Int → PV → Prop) : Prop :=
 ∀ (e : Nat) (sc ln : Bool) (at0 bad0 : Int), 0 ≤ at0 → at0 ≤ (s.size : Int) → Pre at0 → ∃ r cells, Fn T X G f (.ptr 0 0 0 :: args) (some ⟨e, 0, [.str s, .int .i64 at0, .bool sc, .bool ln, .int .i64 bad0], 0⟩) r cells ∧
  ∃ (at1 : Int) (ln1 : Bool) (bad1 : Int), cells = [.str s, .int .i64 at1, .bool sc, .bool ln1, .int .i64 bad1] ∧ at0 ≤ at1 ∧ at1 ≤ (s.size : Int) ∧ R at0 bad0 at1 bad1 r
theorem MC_sc {f b g e : Nat} {s : ByteArray} {sc ln : Bool} {at0 bad0 : Int} {args : List PV} {Pre : Int → Prop} {R : Int → Int → Int → Int → PV → Prop} (hM : Sc T X G f s args Pre R)
  (h0 : H b = some ⟨e, g, [.str s, .int .i64 at0, .bool sc, .bool ln, .int .i64 bad0], 0⟩) (h1 : 0 ≤ at0) (h2 : at0 ≤ (s.size : Int)) (hp : Pre at0) (hd : deepL args = true)
  (k : ∀ r (at1 : Int) (ln1 : Bool) (bad1 : Int), at0 ≤ at1 → at1 ≤ (s.size : Int) → R at0 bad0 at1 bad1 r → M T X G (.ops i os len tr :: w) ⟨put t d r, H.put b (some ⟨e, g, [.str s, .int .i64 at1, .bool sc, .bool ln1, .int .i64 bad1], 0⟩), n⟩ Q) (hro : roF f = false := by rfl) :
  MC T X G f (.ptr b g 0 :: args) d i os len tr w t H n Q := by
 obtain ⟨r, cells, hf, at1, ln1, bad1, rfl, ha, hb, hr⟩ := hM e sc ln at0 bad0 h1 h2 hp
 refine MC_ptr hro h0 rfl (by rfl) (settleL_deep hd) (by rfl) ⟨r, _, hf, rfl, ?_⟩
 rw [drop_none]
 exact k r at1 ln1 bad1 ha hb hr
def ScR (T : Nat → Option FX) (X : CallF) (G : Nat → PV) (f : Nat) (s : ByteArray) (args : List PV) (R : Int → PV → Prop) : Prop :=
 ∀ (e : Nat) (sc ln : Bool) (at0 bad0 : Int), 0 ≤ at0 → at0 ≤ (s.size : Int) → ∃ r, Fn T X G f (.ptr 0 0 0 :: args) (some ⟨e, 0, [.str s, .int .i64 at0, .bool sc, .bool ln, .int .i64 bad0], 0⟩) r [.str s, .int .i64 at0, .bool sc, .bool ln, .int .i64 bad0] ∧ R at0 r
theorem MC_scR {f b g e : Nat} {s : ByteArray} {sc ln : Bool} {at0 bad0 : Int} {args : List PV} {R : Int → PV → Prop} (hM : ScR T X G f s args R)
  (h0 : H b = some ⟨e, g, [.str s, .int .i64 at0, .bool sc, .bool ln, .int .i64 bad0], 0⟩) (h1 : 0 ≤ at0) (h2 : at0 ≤ (s.size : Int)) (hd : deepL args = true)
  (k : ∀ r, R at0 r → M T X G (.ops i os len tr :: w) ⟨put t d r, H, n⟩ Q) (hro : roF f = true := by rfl) :
  MC T X G f (.ptr b g 0 :: args) d i os len tr w t H n Q := by
 obtain ⟨r, hf, hr⟩ := hM e sc ln at0 bad0 h1 h2
 exact MC_ro hro h0 rfl (by rfl) (settleL_deep hd) (by simp [eqPVs, eqPV]) ⟨r, hf, k r hr⟩
def byt (s : ByteArray) (m : Int) : Int := ((s.data.toList.getD m.toNat 0).toNat : Int)
theorem byt_0 {s : ByteArray} {m : Int} : 0 ≤ byt s m := Int.natCast_nonneg _
theorem byt_lt {s : ByteArray} {m : Int} : byt s m < 256 := by
 unfold byt
 have := (s.data.toList.getD m.toNat 0).toNat_lt
 omega
def MSX (T : Nat → Option FX) (X : CallF) (G : Nat → PV) (v j : PV) (d : Option Nat) (i : Nat) (os : List XO) (len : Nat) (tr : Trk) (w : List Wk) (t : Nat → PV) (H : Heap) (n : Nat) (Q : Ex → St → Prop) : Prop :=
 ∃ s m, v = .str s ∧ (∃ k, j = .int k m) ∧ (0 ≤ m ∧ m < (s.size : Int)) ∧ M T X G (.ops i os len tr :: w) ⟨put t d (.int .u8 (byt s m)), H, n⟩ Q
theorem M_sxE {x j : Opd} (h : MSX T X G (ev G t x) (ev G t j) d (i + 1) os len (push tr ([], [])) w t H n Q) : M T X G (.ops i (⟨d, none, id, .sx x j⟩ :: os) len tr :: w) ⟨t, H, n⟩ Q := by
 obtain ⟨s, m, h1, ⟨k, h2⟩, h3, h4⟩ := h
 rw [M_sx]
 have e : runK (ev G t) H id (n + i) (.sx x j) = some (.int .u8 (byt s m), H) := by
  simp only [runK, opRun, h1, h2, asNat]
  rw [if_pos h3]
  rfl
 rw [e, MR_some]
 exact h4
theorem MSX_re {s : ByteArray} {m : Int} {k : IntKind} (h1 : 0 ≤ m) (h2 : m < (s.size : Int)) (h : ∀ b, b = byt s m → 0 ≤ b → b < 256 → M T X G (.ops i os len tr :: w) ⟨put t d (.int .u8 b), H, n⟩ Q) : MSX T X G (.str s) (.int k m) d i os len tr w t H n Q :=
 ⟨s, m, rfl, ⟨k, rfl⟩, ⟨h1, h2⟩, h _ rfl byt_0 byt_lt⟩
def subs (s : ByteArray) (a b : Int) : ByteArray := s.extract a.toNat b.toNat
theorem subs_size {s : ByteArray} {a b : Int} (h0 : 0 ≤ a) (h1 : a ≤ b) (h2 : b ≤ (s.size : Int)) : ((subs s a b).size : Int) = b - a := by
 unfold subs
 rw [ByteArray.size_extract]
 omega
def bndP (d : Int) : Option PV → Option Int
 |none => some d
 |some (.int _ n) => some n
 |_ => none
def MSS (T : Nat → Option FX) (X : CallF) (G : Nat → PV) (v : PV) (lo hi : Option PV) (d : Option Nat) (i : Nat) (os : List XO) (len : Nat) (tr : Trk) (w : List Wk) (t : Nat → PV) (H : Heap) (n : Nat) (Q : Ex → St → Prop) : Prop :=
 ∃ (s : ByteArray) (a b : Int), v = .str s ∧ bndP 0 lo = some a ∧ bndP s.size hi = some b ∧ (0 ≤ a ∧ a ≤ b ∧ b ≤ (s.size : Int)) ∧ M T X G (.ops i os len tr :: w) ⟨put t d (.str (subs s a b)), H, n⟩ Q
theorem bound_of {dd : Nat} {x : Option Opd} {a : Int} (h : bndP dd (x.map (ev G t)) = some a) (h0 : 0 ≤ a) : boundP dd (ev G t) x = some a.toNat := by
 cases x with
 |none => simp only [Option.map_none, bndP, Option.some.injEq] at h; subst h; rfl
 |some x =>
  simp only [Option.map_some] at h
  unfold bndP at h
  simp only [boundP]
  cases hx : ev G t x with
  |int k n =>
   simp only [hx, Option.some.injEq] at h
   subst h
   simp only [if_pos h0]
  |_ => simp [hx] at h
theorem M_sstrE {x : Opd} {lo hi : Option Opd} (h : MSS T X G (ev G t x) (lo.map (ev G t)) (hi.map (ev G t)) d (i + 1) os len (push tr ([], [])) w t H n Q) : M T X G (.ops i (⟨d, none, id, .sstr x lo hi⟩ :: os) len tr :: w) ⟨t, H, n⟩ Q := by
 obtain ⟨s, a, b, h1, h2, h3, ⟨h4, h5, h6⟩, h7⟩ := h
 rw [M_sstr]
 have e1 : boundP 0 (ev G t) lo = some a.toNat := bound_of (dd := 0) h2 h4
 have e2 : boundP s.size (ev G t) hi = some b.toNat := bound_of h3 (by omega)
 have e : runK (ev G t) H id (n + i) (.sstr x lo hi) = some (.str (subs s a b), H) := by
  simp only [runK, opRun, h1, e1, e2]
  rw [if_pos ⟨by omega, by omega⟩]
  rfl
 rw [e, MR_some]
 exact h7
theorem MSS_re {s : ByteArray} {lo hi : Option PV} {a b : Int} (e1 : bndP 0 lo = some a) (e2 : bndP s.size hi = some b) (h0 : 0 ≤ a) (h1 : a ≤ b) (h2 : b ≤ (s.size : Int)) (h : ∀ z, z = subs s a b → (z.size : Int) = b - a → M T X G (.ops i os len tr :: w) ⟨put t d (.str z), H, n⟩ Q) :
  MSS T X G (.str s) lo hi d i os len tr w t H n Q := ⟨s, a, b, rfl, e1, e2, ⟨h0, h1, h2⟩, h _ rfl (subs_size h0 h1 h2)⟩
theorem bs_size {l : List Nat} : (bs l).size = l.length := by
 simp only [bs, ByteArray.size, List.size_toArray, List.length_map]
noncomputable def ansB (X : CallF) (G : Nat → PV) (T : Nat → Option FX) (f : Nat) (args : List PV) : Bool := by
 classical exact if h : ∃ b, Pure T X G f args (fun r => r = .bool b) then h.choose else false
theorem ansB_of {f : Nat} {args : List PV} (h : Pure T X G f args (fun r => ∃ b, r = .bool b)) : Pure T X G f args (fun r => r = .bool (ansB X G T f args)) := by
 have h2 : ∃ b, Pure T X G f args (fun r => r = .bool b) := by
  obtain ⟨r, c, h1, b, h2⟩ := h
  exact ⟨b, r, c, h1, h2⟩
 unfold ansB
 rw [dif_pos h2]
 exact h2.choose_spec
noncomputable def ansI (X : CallF) (G : Nat → PV) (T : Nat → Option FX) (f : Nat) (args : List PV) (P : Int → Prop) : Int := by
 classical exact if h : ∃ b, P b ∧ Pure T X G f args (fun r => r = .int .i64 b) then h.choose else 0
theorem ansI_of {f : Nat} {args : List PV} {P : Int → Prop} (h : Pure T X G f args (fun r => ∃ b, r = .int .i64 b ∧ P b)) : P (ansI X G T f args P) ∧ Pure T X G f args (fun r => r = .int .i64 (ansI X G T f args P)) := by
 have h2 : ∃ b, P b ∧ Pure T X G f args (fun r => r = .int .i64 b) := by
  obtain ⟨r, c, h1, b, h2, h3⟩ := h
  exact ⟨b, h3, r, c, h1, h2⟩
 unfold ansI
 rw [dif_pos h2]
 exact h2.choose_spec
noncomputable def ansP (X : CallF) (G : Nat → PV) (T : Nat → Option FX) (f : Nat) (args : List PV) (P : Int → Int → Prop) : Int × Int := by
 classical exact if h : ∃ p : Int × Int, P p.1 p.2 ∧ Pure T X G f args (fun r => r = .tup [.int .i64 p.1, .int .i64 p.2]) then h.choose else (0, 0)
theorem ansP_of {f : Nat} {args : List PV} {P : Int → Int → Prop} (h : Pure T X G f args (fun r => ∃ a b, r = .tup [.int .i64 a, .int .i64 b] ∧ P a b)) :
  P (ansP X G T f args P).1 (ansP X G T f args P).2 ∧ Pure T X G f args (fun r => r = .tup [.int .i64 (ansP X G T f args P).1, .int .i64 (ansP X G T f args P).2]) := by
 have h2 : ∃ p : Int × Int, P p.1 p.2 ∧ Pure T X G f args (fun r => r = .tup [.int .i64 p.1, .int .i64 p.2]) := by
  obtain ⟨r, c, h1, a, b, h2, h3⟩ := h
  exact ⟨(a, b), h3, r, c, h1, h2⟩
 unfold ansP
 rw [dif_pos h2]
 exact h2.choose_spec
end
theorem resOf_nil : resOf [] = .tup [] := rfl
attribute [go_sem] resOf_nil M_nil
end Go.Pi
end
section
open Go Go.Pi
namespace Go.Pi
variable {p q a : Prop}
set_option maxRecDepth 100000
set_option maxHeartbeats 0
def RnP (s : ByteArray) (at0 : Int) (r n : Int) : Prop := 0 ≤ r ∧ r ≤ 1114111 ∧ 0 ≤ n ∧ n ≤ 4 ∧ at0 + n ≤ (s.size : Int)
section
variable {X : CallF} {G : Nat → PV}
namespace QCa1
theorem fB1 (x : a) (g : q) (h : a → q → p := by (intro x g; exact n1 (j x hTT) g)) : p := h x g
theorem kA1 (h : p := by
 first
 |((simp [*]; done)) <;> exact As1
 |fail) : p := h
end QCa1
theorem c148 (lo n hi : Int) : Pure Tab X G 148 [.int .i64 lo, .int .i64 n, .int .i64 hi] (fun r => r = .bool (decide (lo ≤ n ∧ n ≤ hi))) := by
 refine Fn_of T148 (by simp) ?_
 refine n0 ?_
 open QCa1 in exact As1
namespace QCa2
theorem fB1 (x : a) (g : q) (h : a → q → p := by (intro x g; exact n1 (j x hTT) g)) : p := h x g
theorem kB1 (h : p := by
 first
 |(refine MC_pure (c148 _ _ _) pP dD1 ?_; rintro _ rfl; (refine fB1 hTT ?_; exact As1))
 |fail) : p := h
end QCa2
theorem c128 (n : Int) : Pure Tab X G 128 [.int .i64 n] (fun r => r = .bool (decide (48 ≤ n ∧ n ≤ 57))) := by
 refine Fn_of T128 (by simp) ?_
 refine n0 ?_
 open QCa2 in exact As1
namespace QCa3
theorem fB1 (x : a) (g : q) (h : a → q → p := by (intro x g; exact n1 (j x hTT) g)) : p := h x g
theorem kA1 (h : p := by
 first
 |(exact ⟨_, rfl⟩) <;> exact As1
 |fail) : p := h
end QCa3
theorem c125' (n : Int) : Pure Tab X G 125 [.int .i64 n] BoolR := by
 refine Fn_of T125 (by simp) ?_
 refine n0 ?_
 open QCa3 in exact As1
noncomputable def leF (X : CallF) (G : Nat → PV) (n : Int) : Bool := ansB X G Tab 125 [.int .i64 n]
theorem c125 (n : Int) : Pure Tab X G 125 [.int .i64 n] (fun r => r = .bool (leF X G n)) := ansB_of (c125' n)
namespace QCa4
theorem fB1 (x : a) (g : q) (h : a → q → p := by (intro x g; exact n1 (j x hTT) g)) : p := h x g
theorem kA1 (h : p := by
 first
 |(exact ⟨_, rfl⟩) <;> exact As1
 |fail) : p := h
theorem kB1 (h : p := by
 first
 |(refine MC_pure (c148 _ _ _) pP dD1 ?_; rintro _ rfl; (refine fB1 hTT ?_; exact As1))
 |fail) : p := h
end QCa4
theorem c126 (n : Int) : Pure Tab X G 126 [.int .i64 n] BoolR := by
 refine Fn_of T126 (by simp) ?_
 refine n0 ?_
 open QCa4 in exact As1
namespace QCa5
theorem fB1 (x : a) (g : q) (h : a → q → p := by (intro x g; exact n1 (j x hTT) g)) : p := h x g
theorem kA1 (h : p := by
 first
 |((refine ⟨_, rfl, ?_⟩; omega)) <;> exact As1
 |fail) : p := h
theorem kB1 (h : p := by
 first
 |(refine MC_pure (c128 _) pP dD1 ?_; rintro _ rfl; (refine fB1 hTT ?_; exact As1))
 |(refine MC_pure (c148 _ _ _) pP dD1 ?_; rintro _ rfl; (refine fB1 hTT ?_; exact As1))
 |fail) : p := h
end QCa5
theorem c168' (n : Int) (h0 : 0 ≤ n) (h1 : n < 256) : Pure Tab X G 168 [.int .i64 n] (fun r => ∃ v, r = .int .i64 v ∧ (-1 ≤ v ∧ v ≤ 15)) := by
 refine Fn_of T168 (by simp) ?_
 refine n0 ?_
 open QCa5 in exact As1
noncomputable def hxF (X : CallF) (G : Nat → PV) (n : Int) : Int := ansI X G Tab 168 [.int .i64 n] (fun v => -1 ≤ v ∧ v ≤ 15)
theorem c168 (n : Int) (h0 : 0 ≤ n) (h1 : n < 256) : Pure Tab X G 168 [.int .i64 n] (fun r => ∃ v, r = .int .i64 v ∧ v = hxF X G n ∧ -1 ≤ v ∧ v ≤ 15) := by
 obtain ⟨h2, r, c, h3, h4⟩ := ansI_of (c168' (X := X) (G := G) n h0 h1)
 exact ⟨r, c, h3, _, h4, rfl, h2⟩
namespace QCa7
theorem fB2 (x : a) (g : q) (h : a → q → p := by (intro x g; exact n1 (j x (j h0 (j h1 (j h7 (j h8 (j h9 (j h10 hTT))))))) g)) : p := h x g
theorem kN2 (h : p := by
 first
 |(refine next _ ?_ _ ⟨_, _, by (exact c1 (j h0 (j h1 (j h7 (j h8 (j h9 h10)))))), by (exact c1 (j h0 (j h1 (j h7 (j h8 (j h9 h10)))))), by (exact c1 (j h0 (j h1 (j h7 (j h8 (j h9 h10)))))), by (exact c1 (j h0 (j h1 (j h7 (j h8 (j h9 h10)))))), by (exact c1 (j h0 (j h1 (j h7 (j h8 (j h9 h10)))))), by (exact c1 (j h0 (j h1 (j h7 (j h8 (j h9 h10)))))), wM, rfl⟩; exact wM)
 |fail) : p := h
theorem kA2 (h : p := by
 first
 |((refine ⟨_, _, rfl, ?_⟩; unfold RnP; omega)) <;> exact As2
 |fail) : p := h
end QCa7
namespace QCa8
theorem fB2 (x : a) (g : q) (h : a → q → p := by (intro x g; exact n1 (j x (j h0 (j h1 (j h7 (j h8 (j h9 (j h10 hTT))))))) g)) : p := h x g
theorem kN2 (h : p := by
 first
 |(refine next _ ?_ _ ⟨_, _, by (exact c1 (j h0 (j h1 (j h7 (j h8 (j h9 h10)))))), by (exact c1 (j h0 (j h1 (j h7 (j h8 (j h9 h10)))))), by (exact c1 (j h0 (j h1 (j h7 (j h8 (j h9 h10)))))), by (exact c1 (j h0 (j h1 (j h7 (j h8 (j h9 h10)))))), by (exact c1 (j h0 (j h1 (j h7 (j h8 (j h9 h10)))))), by (exact c1 (j h0 (j h1 (j h7 (j h8 (j h9 h10)))))), wM, rfl⟩; exact wM)
 |fail) : p := h
theorem kA2 (h : p := by
 first
 |((refine ⟨_, _, rfl, ?_⟩; unfold RnP; omega)) <;> exact As2
 |fail) : p := h
end QCa8
namespace QCa9
theorem fB2 (x : a) (g : q) (h : a → q → p := by (intro x g; exact n1 (j x (j h0 (j h1 (j h7 (j h8 (j h9 (j h10 hTT))))))) g)) : p := h x g
theorem kN2 (h : p := by
 first
 |(refine next _ ?_ _ ⟨_, _, by (exact c1 (j h0 (j h1 (j h7 (j h8 (j h9 h10)))))), by (exact c1 (j h0 (j h1 (j h7 (j h8 (j h9 h10)))))), by (exact c1 (j h0 (j h1 (j h7 (j h8 (j h9 h10)))))), by (exact c1 (j h0 (j h1 (j h7 (j h8 (j h9 h10)))))), by (exact c1 (j h0 (j h1 (j h7 (j h8 (j h9 h10)))))), by (exact c1 (j h0 (j h1 (j h7 (j h8 (j h9 h10)))))), wM, rfl⟩; exact wM)
 |fail) : p := h
theorem kA2 (h : p := by
 first
 |((refine ⟨_, _, rfl, ?_⟩; unfold RnP; omega)) <;> exact As2
 |fail) : p := h
end QCa9
namespace QCa6
theorem fB1 (x : a) (g : q) (h : a → q → p := by (intro x g; exact n1 (j x hTT) g)) : p := h x g
theorem kA1 (h : p := by
 first
 |((refine ⟨_, _, rfl, ?_⟩; unfold RnP; omega)) <;> exact As1
 |fail) : p := h
theorem y1_0 (h : p := by
 first
 |skip
  (exfalso; omega)
  done
 |fail) : p := h
theorem y1_1 (h : p := by
 first
 |skip
  skip
  refine M_loop (fun m' s' => ∃ (i r : Int), s'.t 0 = .str s ∧ s'.t 1 = .int .i64 at0 ∧ s'.t 7 = .int .i64 2 ∧ s'.t 8 = .int .i64 r ∧ s'.t 9 = .int .i64 128 ∧ s'.t 10 = .int .i64 i ∧ (1 ≤ i) ∧ m' = (2 - i).toNat) ?_ (n := _) ⟨_, _, by (exact c0), by (exact c0), by (exact c0), by (exact c0), by (exact c0), by (exact c0), wM, rfl⟩
  rintro m' ⟨t, H, k⟩ ⟨i, r, h0, h1, h7, h8, h9, h10, hq0, hm⟩ next
  simp only at h0 h1 h7 h8 h9 h10
  refine n1 (j h0 (j h1 (j h7 (j h8 (j h9 h10))))) ?_
  open QCa7 in exact As2
  done
 |fail) : p := h
theorem y1_2 (h : p := by
 first
 |skip
  skip
  refine M_loop (fun m' s' => ∃ (i r : Int), s'.t 0 = .str s ∧ s'.t 1 = .int .i64 at0 ∧ s'.t 7 = .int .i64 3 ∧ s'.t 8 = .int .i64 r ∧ s'.t 9 = .int .i64 2048 ∧ s'.t 10 = .int .i64 i ∧ (1 ≤ i) ∧ m' = (3 - i).toNat) ?_ (n := _) ⟨_, _, by (exact c0), by (exact c0), by (exact c0), by (exact c0), by (exact c0), by (exact c0), wM, rfl⟩
  rintro m' ⟨t, H, k⟩ ⟨i, r, h0, h1, h7, h8, h9, h10, hq0, hm⟩ next
  simp only at h0 h1 h7 h8 h9 h10
  refine n1 (j h0 (j h1 (j h7 (j h8 (j h9 h10))))) ?_
  open QCa8 in exact As2
  done
 |fail) : p := h
theorem y1_3 (h : p := by
 first
 |skip
  skip
  refine M_loop (fun m' s' => ∃ (i r : Int), s'.t 0 = .str s ∧ s'.t 1 = .int .i64 at0 ∧ s'.t 7 = .int .i64 4 ∧ s'.t 8 = .int .i64 r ∧ s'.t 9 = .int .i64 65536 ∧ s'.t 10 = .int .i64 i ∧ (1 ≤ i) ∧ m' = (4 - i).toNat) ?_ (n := _) ⟨_, _, by (exact c0), by (exact c0), by (exact c0), by (exact c0), by (exact c0), by (exact c0), wM, rfl⟩
  rintro m' ⟨t, H, k⟩ ⟨i, r, h0, h1, h7, h8, h9, h10, hq0, hm⟩ next
  simp only at h0 h1 h7 h8 h9 h10
  refine n1 (j h0 (j h1 (j h7 (j h8 (j h9 h10))))) ?_
  open QCa9 in exact As2
  done
 |fail) : p := h
theorem kZ1 (h : p := by
 first
 |skip
  all_goals first
  |exact y1_0
  |exact y1_1
  |exact y1_2
  |exact y1_3
  |fail
  done
 |fail) : p := h
end QCa6
theorem c85' {s : ByteArray} (at0 : Int) (hs : s.size ≤ 4398046511104) (h0 : 0 ≤ at0) (h1 : at0 ≤ (s.size : Int)) : Pure Tab X G 85 [.str s, .int .i64 at0] (fun v => ∃ r n, v = .tup [.int .i64 r, .int .i64 n] ∧ RnP s at0 r n) := by
 refine Fn_of T85 (by simp) ?_
 refine n0 ?_
 open QCa6 in exact As1
noncomputable def rnF (X : CallF) (G : Nat → PV) (s : ByteArray) (at0 : Int) : Int × Int := ansP X G Tab 85 [.str s, .int .i64 at0] (RnP s at0)
theorem c85 {s : ByteArray} (at0 : Int) (hs : s.size ≤ 4398046511104) (h0 : 0 ≤ at0) (h1 : at0 ≤ (s.size : Int)) : Pure Tab X G 85 [.str s, .int .i64 at0] (fun v => ∃ r n, v = .tup [.int .i64 r, .int .i64 n] ∧ r = (rnF X G s at0).1 ∧ n = (rnF X G s at0).2 ∧ 0 ≤ r ∧ r ≤ 1114111 ∧ 0 ≤ n ∧ n ≤ 4 ∧ at0 + n ≤ (s.size : Int)) := by
 obtain ⟨h2, r, c, h3, h4⟩ := ansP_of (c85' (X := X) (G := G) at0 hs h0 h1)
 exact ⟨r, c, h3, _, _, h4, rfl, rfl, h2⟩
def isV (s : ByteArray) (at0 : Int) (t : ByteArray) : Bool := decide ((t.size : Int) ≤ s.size - at0) && ((subs s at0 (at0 + t.size)).toList == t.toList)
namespace QCa10
theorem fB1 (x : a) (g : q) (h : a → q → p := by (intro x g; exact n1 (j x hTT) g)) : p := h x g
theorem kA1 (h : p := by
 first
 |((refine ⟨_, rfl, fun _ => by omega, ?_⟩; simp [isV, *]; done)) <;> exact As1
 |((refine ⟨_, rfl, fun h => absurd h Bool.false_ne_true, ?_⟩; simp [isV, *]; done)) <;> exact As1
 |fail) : p := h
end QCa10
theorem c121 {s : ByteArray} (hs : s.size ≤ 4398046511104) (t : ByteArray) (ht : t.size ≤ 4398046511104) : ScR Tab X G 121 s [.str t] (fun at0 r => ∃ b', r = .bool b' ∧ (b' = true → at0 + (t.size : Int) ≤ (s.size : Int)) ∧ b' = isV s at0 t) := by
 intro e sc ln at0 bad0 h0 h1
 have key : ∃ r cells, Fn Tab X G 121 (.ptr 0 0 0 :: [.str t]) (some ⟨e, 0, [.str s, .int .i64 at0, .bool sc, .bool ln, .int .i64 bad0], 0⟩) r cells ∧ cells = [.str s, .int .i64 at0, .bool sc, .bool ln, .int .i64 bad0] ∧ ∃ b', r = .bool b' ∧ (b' = true → at0 + (t.size : Int) ≤ (s.size : Int)) ∧ b' = isV s at0 t := by
  refine Fn_of T121 (by simp) ?_
  refine n0 ?_
  open QCa10 in exact As1
 obtain ⟨r, cells, hf, rfl, hr⟩ := key
 exact ⟨r, hf, hr⟩
theorem c121n {s : ByteArray} (hs : s.size ≤ 4398046511104) (l : List Nat) (n : Nat) (hl : l.length = n) (hn : n ≤ 1000) : ScR Tab X G 121 s [.str (bs l)] (fun at0 r => ∃ b', r = .bool b' ∧ (b' = true → at0 + (n : Int) ≤ (s.size : Int)) ∧ b' = isV s at0 (bs l)) := by
 have := c121 (X := X) (G := G) hs (bs l) (by rw [bs_size]; omega)
 rw [bs_size, hl] at this
 exact this
theorem c121a {s : ByteArray} (hs : s.size ≤ 4398046511104) (a : Nat) : ScR Tab X G 121 s [.str (bs [a])] (fun at0 r => ∃ b', r = .bool b' ∧ (b' = true → at0 + 1 ≤ (s.size : Int)) ∧ b' = isV s at0 (bs [a])) := c121n hs [a] 1 rfl (by decide)
theorem c121b {s : ByteArray} (hs : s.size ≤ 4398046511104) (a b : Nat) : ScR Tab X G 121 s [.str (bs [a, b])] (fun at0 r => ∃ b', r = .bool b' ∧ (b' = true → at0 + 2 ≤ (s.size : Int)) ∧ b' = isV s at0 (bs [a, b])) := c121n hs [a, b] 2 rfl (by decide)
theorem c121c {s : ByteArray} (hs : s.size ≤ 4398046511104) (a b c : Nat) : ScR Tab X G 121 s [.str (bs [a, b, c])] (fun at0 r => ∃ b', r = .bool b' ∧ (b' = true → at0 + 3 ≤ (s.size : Int)) ∧ b' = isV s at0 (bs [a, b, c])) := c121n hs [a, b, c] 3 rfl (by decide)
theorem c121d {s : ByteArray} (hs : s.size ≤ 4398046511104) (a b c d : Nat) : ScR Tab X G 121 s [.str (bs [a, b, c, d])] (fun at0 r => ∃ b', r = .bool b' ∧ (b' = true → at0 + 4 ≤ (s.size : Int)) ∧ b' = isV s at0 (bs [a, b, c, d])) := c121n hs [a, b, c, d] 4 rfl (by decide)
namespace QCa11
theorem fB1 (x : a) (g : q) (h : a → q → p := by (intro x g; exact n1 (j x hTT) g)) : p := h x g
theorem kA1 (h : p := by
 first
 |((refine ⟨_, _, _, rfl, by omega, by omega, rfl, by omega, by omega⟩)) <;> exact As1
 |fail) : p := h
end QCa11
theorem c124 {s : ByteArray} (what : Int) : Sc Tab X G 124 s [.int .i64 what] (fun _ => True) (fun at0 bad0 at1 bad1 r => at0 = at1 ∧ (bad0 = 0 → bad1 = what) ∧ (bad0 ≠ 0 → bad1 = bad0)) := by
 intro e sc ln at0 bad0 h0 h1 _
 refine Fn_of T124 (by simp) ?_
 refine n0 ?_
 open QCa11 in exact As1
namespace QCa12
theorem fB1 (x : a) (g : q) (h : a → q → p := by (intro x g; exact n1 (j x hTT) g)) : p := h x g
theorem kA1 (h : p := by
 first
 |((refine ⟨_, _, _, rfl, by omega, by omega, rfl, rfl, _, _, rfl, hr1, hn1, hr0, hr9, hn0, hn4, hnl⟩)) <;> exact As1
 |fail) : p := h
theorem kB1 (h : p := by
 first
 |(refine MC_pure (c85 _ hs h0 h1) pP dD1 ?_; rintro _ ⟨r, n, rfl, hr1, hn1, hr0, hr9, hn0, hn4, hnl⟩; (refine fB1 hTT ?_; exact As1))
 |fail) : p := h
end QCa12
theorem c123 {s : ByteArray} (hs : s.size ≤ 4398046511104) : Sc Tab X G 123 s [] (fun _ => True) (fun at0 bad0 at1 bad1 v => at0 = at1 ∧ bad0 = bad1 ∧ ∃ r n, v = .tup [.int .i64 r, .int .i64 n] ∧ r = (rnF X G s at0).1 ∧ n = (rnF X G s at0).2 ∧ 0 ≤ r ∧ r ≤ 1114111 ∧ 0 ≤ n ∧ n ≤ 4 ∧ at0 + n ≤ (s.size : Int)) := by
 intro e sc ln at0 bad0 h0 h1 _
 refine Fn_of T123 (by simp) ?_
 refine n0 ?_
 open QCa12 in exact As1
namespace QCa13
theorem fB1 (x : a) (g : q) (h : a → q → p := by (intro x g; exact n1 (j x (j h0 (j e0 hTT))) g)) : p := h x g
theorem kN1 (h : p := by
 first
 |(refine next _ ?_ _ ⟨_, _, by (exact c1 (j h0 e0)), by (exact c1 (j h0 e0)), wM, wM, rfl⟩; exact wM)
 |fail) : p := h
theorem kA1 (h : p := by
 first
 |((refine ⟨_, _, _, rfl, by omega, by omega, rfl, fun hz1 hz2 hz3 => ?_⟩; (first | omega | (rcases Int.lt_or_eq_of_le hq0 with hlt | hpe; (focus omega); subst hpe; first | omega | (rw [← hr1] at hz3; simp_all; done))))) <;> exact As1
 |fail) : p := h
theorem kB1 (h : p := by
 first
 |(refine MC_sc (c123 hs) dC1 (by omega) (by omega) (by first | trivial | omega | (dsimp only; omega)) dD1 (fun r at1 ln1 bad1 hat hatb hr => ?_); obtain ⟨rfl, rfl, r, n, rfl, hr1, hn1, hr0, hr9, hn0, hn4, hnl⟩ := hr; (refine fB1 hTT ?_; exact As1))
 |(refine MC_pure (c125 _) pP dD1 ?_; rintro _ rfl; (refine fB1 hTT ?_; exact As1))
 |fail) : p := h
end QCa13
theorem c122 {s : ByteArray} (hs : s.size ≤ 4398046511104) : Sc Tab X G 122 s [] (fun _ => True) (fun at0 bad0 at1 bad1 _ => bad0 = bad1 ∧ (at0 < s.size → (rnF X G s at0).2 ≠ 0 → leF X G (rnF X G s at0).1 = false → at0 < at1)) := by
 intro e sc ln at0 bad0 h0 h1 _
 refine Fn_of T122 (by simp) ?_
 refine n0 ?_
 refine M_loop (fun m' s' => ∃ (p : Int) (l2 : Bool), s'.t 0 = .ptr 0 0 0 ∧ s'.H 0 = some ⟨e, 0, [.str s, .int .i64 p, .bool sc, .bool l2, .int .i64 bad0], 0⟩ ∧ (at0 ≤ p) ∧ (p ≤ s.size) ∧ m' = (s.size - p).toNat) ?_ (n := _) ⟨_, _, by (exact c0), by (exact c0), wM, wM, rfl⟩
 rintro m' ⟨t, H, k⟩ ⟨p, l2, h0, e0, hq0, hq1, hm⟩ next
 simp only at h0 e0
 refine n1 (j h0 e0) ?_
 open QCa13 in exact As1
namespace QCa15
theorem fB2 (x : a) (g : q) (h : a → q → p := by (intro x g; exact n1 (j x (j h0 (j e0 hTT))) g)) : p := h x g
theorem kN2 (h : p := by
 first
 |(refine next _ ?_ _ ⟨_, _, _, by (exact c1 (j h0 e0)), by (exact c1 (j h0 e0)), wM, wM, rfl⟩; exact wM)
 |fail) : p := h
theorem kA2 (h : p := by
 first
 |((refine ⟨_, _, _, rfl, by omega, by omega, by omega⟩)) <;> exact As2
 |fail) : p := h
theorem kB2 (h : p := by
 first
 |(refine MC_sc (c123 hs) dC2 (by omega) (by omega) (by first | trivial | omega | (dsimp only; omega)) dD2 (fun r at1 ln1 bad1 hat hatb hr => ?_); obtain ⟨rfl, rfl, r, n, rfl, hr1, hn1, hr0, hr9, hn0, hn4, hnl⟩ := hr; (refine fB2 hTT ?_; exact As2))
 |(refine MC_scR (c121b hs _ _) dC2 (by omega) (by omega) dD2 (fun r hr => ?_); obtain ⟨b, rfl, hb, hbv⟩ := hr; cases b; all_goals (first | (have hb := hb rfl) | clear hb); all_goals (refine fB2 hTT ?_; exact As2))
 |(refine MC_sc (c124 _) dC2 (by omega) (by omega) (by first | trivial | omega | (dsimp only; omega)) dD2 (fun r at1 ln1 bad1 hat hatb hr => ?_); obtain ⟨rfl, hb1, hb2⟩ := hr; (refine fB2 hTT ?_; exact As2))
 |(refine MC_pure (c125 _) pP dD2 ?_; rintro _ rfl; (refine fB2 hTT ?_; exact As2))
 |fail) : p := h
end QCa15
namespace QCa14
theorem fB1 (x : a) (g : q) (h : a → q → p := by (intro x g; exact n1 (j x hTT) g)) : p := h x g
theorem kZ1 (h : p := by
 first
 |skip
  refine M_loop (fun m' s' => ∃ (p : Int) (l2 : Bool) (b2 : Int), s'.t 0 = .ptr 0 0 0 ∧ s'.H 0 = some ⟨e, 0, [.str s, .int .i64 p, .bool sc, .bool l2, .int .i64 b2], 0⟩ ∧ (at0 < p) ∧ (p ≤ s.size) ∧ m' = (s.size - p).toNat) ?_ (n := _) ⟨_, _, _, by (exact c0), by (exact c0), wM, wM, rfl⟩
  rintro m' ⟨t, H, k⟩ ⟨p, l2, b2, h0, e0, hq0, hq1, hm⟩ next
  simp only at h0 e0
  refine n1 (j h0 e0) ?_
  open QCa15 in exact As2
  done
 |fail) : p := h
end QCa14
theorem c127 {s : ByteArray} (hs : s.size ≤ 4398046511104) : Sc Tab X G 127 s [] (fun a => a + 2 ≤ (s.size : Int)) (fun at0 bad0 at1 bad1 _ => at0 < at1) := by
 intro e sc ln at0 bad0 h0 h1 hpre
 have hpre : at0 + 2 ≤ (s.size : Int) := hpre
 refine Fn_of T127 (by simp) ?_
 refine n0 ?_
 open QCa14 in exact As1
end
end Go.Pi
end
section
open Go Go.Pi
namespace Go.Pi
variable {p q a : Prop}
set_option maxRecDepth 100000
set_option maxHeartbeats 0
section
variable {X : CallF} {G : Nat → PV}
namespace QCb2
theorem fB2 (x : a) (g : q) (h : a → q → p := by (intro x g; exact n1 (j x (j h0 (j h1 (j h6 (j h7 (j e0 hTT)))))) g)) : p := h x g
theorem kN2 (h : p := by
 first
 |(refine next _ ?_ _ ⟨_, _, _, by (exact c1 (j h0 (j h1 (j h6 (j h7 e0))))), by (exact c1 (j h0 (j h1 (j h6 (j h7 e0))))), by (exact c1 (j h0 (j h1 (j h6 (j h7 e0))))), by (exact c1 (j h0 (j h1 (j h6 (j h7 e0))))), by (exact c1 (j h0 (j h1 (j h6 (j h7 e0))))), wM, wM, wM, rfl⟩; exact wM)
 |fail) : p := h
theorem kA2 (h : p := by
 first
 |((refine ⟨_, _, _, rfl, by omega, by omega, rfl, _, _, rfl⟩)) <;> exact As2
 |fail) : p := h
theorem kB2 (h : p := by
 first
 |(refine MC_pure (c168 _ (by omega) (by omega)) pP dD2 ?_; rintro _ ⟨v, rfl, hv, hv0, hv1⟩; (refine fB2 hTT ?_; exact As2))
 |fail) : p := h
end QCb2
namespace QCb1
theorem fB1 (x : a) (g : q) (h : a → q → p := by (intro x g; exact n1 (j x hTT) g)) : p := h x g
theorem kZ1 (h : p := by
 first
 |skip
  refine M_loop (fun m' s' => ∃ (p v i : Int), s'.t 0 = .ptr 0 0 0 ∧ s'.t 1 = .int .i64 d ∧ s'.t 6 = .int .i64 v ∧ s'.t 7 = .int .i64 i ∧ s'.H 0 = some ⟨e, 0, [.str s, .int .i64 p, .bool sc, .bool ln, .int .i64 bad0], 0⟩ ∧ (at0 ≤ p) ∧ (p ≤ s.size) ∧ (0 ≤ i) ∧ m' = (d - i).toNat) ?_ (n := _) ⟨_, _, _, by (exact c0), by (exact c0), by (exact c0), by (exact c0), by (exact c0), wM, wM, wM, rfl⟩
  rintro m' ⟨t, H, k⟩ ⟨p, v, i, h0, h1, h6, h7, e0, hq0, hq1, hq2, hm⟩ next
  simp only at h0 h1 h6 h7 e0
  refine n1 (j h0 (j h1 (j h6 (j h7 e0)))) ?_
  open QCb2 in exact As2
  done
 |fail) : p := h
end QCb1
theorem c163 {s : ByteArray} (hs : s.size ≤ 4398046511104) (d : Int) (hd : 0 ≤ d ∧ d ≤ 8) : Sc Tab X G 163 s [.int .i64 d] (fun _ => True) (fun at0 bad0 at1 bad1 r => bad0 = bad1 ∧ ∃ v b, r = .tup [.int .i64 v, .bool b]) := by
 intro e sc ln at0 bad0 h0 h1 _
 refine Fn_of T163 (by simp) ?_
 refine n0 ?_
 open QCb1 in exact As1
namespace QCb4
theorem fB2 (x : a) (g : q) (h : a → q → p := by (intro x g; exact n1 (j x (j h0 (j h4 (j h5 (j e0 hTT))))) g)) : p := h x g
theorem kN2 (h : p := by
 first
 |(refine next _ ?_ _ ⟨_, _, _, _, by (exact c1 (j h0 (j h4 (j h5 e0)))), by (exact c1 (j h0 (j h4 (j h5 e0)))), by (exact c1 (j h0 (j h4 (j h5 e0)))), by (exact c1 (j h0 (j h4 (j h5 e0)))), wM, wM, rfl⟩; exact wM)
 |fail) : p := h
theorem kA2 (h : p := by
 first
 |((refine ⟨_, _, _, rfl, by omega, by omega, rfl, _, _, rfl⟩)) <;> exact As2
 |fail) : p := h
theorem kB2 (h : p := by
 first
 |(refine MC_pure (c168 _ (by omega) (by omega)) pP dD2 ?_; rintro _ ⟨v, rfl, hv, hv0, hv1⟩; (refine fB2 hTT ?_; exact As2))
 |(refine MC_scR (c121a hs _) dC2 (by omega) (by omega) dD2 (fun r hr => ?_); obtain ⟨b, rfl, hb, hbv⟩ := hr; cases b; all_goals (first | (have hb := hb rfl) | clear hb); all_goals (refine fB2 hTT ?_; exact As2))
 |fail) : p := h
end QCb4
namespace QCb3
theorem fB1 (x : a) (g : q) (h : a → q → p := by (intro x g; exact n1 (j x hTT) g)) : p := h x g
theorem kA1 (h : p := by
 first
 |((refine ⟨_, _, _, rfl, by omega, by omega, rfl, _, _, rfl⟩)) <;> exact As1
 |fail) : p := h
theorem kB1 (h : p := by
 first
 |(refine MC_scR (c121a hs _) dC1 (by omega) (by omega) dD1 (fun r hr => ?_); obtain ⟨b, rfl, hb, hbv⟩ := hr; cases b; all_goals (first | (have hb := hb rfl) | clear hb); all_goals (refine fB1 hTT ?_; exact As1))
 |(refine MC_sc (c163 hs 4 (by omega)) dC1 (by omega) (by omega) (by first | trivial | omega | (dsimp only; omega)) dD1 (fun r at1 ln1 bad1 hat hatb hr => ?_); obtain ⟨rfl, v, b, rfl⟩ := hr; (refine fB1 hTT ?_; exact As1))
 |fail) : p := h
theorem kZ1 (h : p := by
 first
 |skip
  refine M_loop (fun m' s' => ∃ (p v i : Int) (l2 : Bool), s'.t 0 = .ptr 0 0 0 ∧ s'.t 4 = .int .i64 v ∧ s'.t 5 = .int .i64 i ∧ s'.H 0 = some ⟨e, 0, [.str s, .int .i64 p, .bool sc, .bool l2, .int .i64 bad0], 0⟩ ∧ (at0 ≤ p) ∧ (p ≤ s.size) ∧ m' = (s.size - p).toNat) ?_ (n := _) ⟨_, _, _, _, by (exact c0), by (exact c0), by (exact c0), by (exact c0), wM, wM, rfl⟩
  rintro m' ⟨t, H, k⟩ ⟨p, v, i, l2, h0, h4, h5, e0, hq0, hq1, hm⟩ next
  simp only at h0 h4 h5 e0
  refine n1 (j h0 (j h4 (j h5 e0))) ?_
  open QCb4 in exact As2
  done
 |fail) : p := h
end QCb3
theorem c164 {s : ByteArray} (hs : s.size ≤ 4398046511104) : Sc Tab X G 164 s [] (fun _ => True) (fun at0 bad0 at1 bad1 r => bad0 = bad1 ∧ ∃ v b, r = .tup [.int .i64 v, .bool b]) := by
 intro e sc ln at0 bad0 h0 h1 _
 refine Fn_of T164 (by simp) ?_
 refine n0 ?_
 open QCb3 in exact As1
def IntA (r : PV) : Prop := ∃ n, r = .int .i64 n
namespace QCb5
theorem fB1 (x : a) (g : q) (h : a → q → p := by (intro x g; exact n1 (j x hTT) g)) : p := h x g
theorem kA1 (h : p := by
 first
 |(exact ⟨_, rfl⟩) <;> exact As1
 |fail) : p := h
end QCb5
theorem c155 (n : Int) : Pure Tab X G 155 [.int .i64 n] IntA := by
 refine Fn_of T155 (by simp) ?_
 refine n0 ?_
 open QCb5 in exact As1
namespace QCb6
theorem fB1 (x : a) (g : q) (h : a → q → p := by (intro x g; exact n1 (j x hTT) g)) : p := h x g
theorem kA1 (h : p := by
 first
 |(exact ⟨_, rfl⟩) <;> exact As1
 |fail) : p := h
theorem kB1 (h : p := by
 first
 |(refine MC_pure (c148 _ _ _) pP dD1 ?_; rintro _ rfl; (refine fB1 hTT ?_; exact As1))
 |(refine MC_pure (c125 _) pP dD1 ?_; rintro _ rfl; (refine fB1 hTT ?_; exact As1))
 |(refine MC_pure (c126 _) pP dD1 ?_; rintro _ ⟨b, rfl⟩; (refine fB1 hTT ?_; exact As1))
 |fail) : p := h
end QCb6
theorem c156 (n : Int) : Pure Tab X G 156 [.int .i64 n] IntA := by
 refine Fn_of T156 (by simp) ?_
 refine n0 ?_
 open QCb6 in exact As1
namespace QCb7
theorem fB1 (x : a) (g : q) (h : a → q → p := by (intro x g; exact n1 (j x hTT) g)) : p := h x g
theorem kA1 (h : p := by
 first
 |(exact ⟨_, rfl⟩) <;> exact As1
 |fail) : p := h
theorem kB1 (h : p := by
 first
 |(refine MC_pure (c148 _ _ _) pP dD1 ?_; rintro _ rfl; (refine fB1 hTT ?_; exact As1))
 |(refine MC_pure (c128 _) pP dD1 ?_; rintro _ rfl; (refine fB1 hTT ?_; exact As1))
 |(refine MC_pure (c155 _) pP dD1 ?_; rintro _ ⟨v, rfl⟩; (refine fB1 hTT ?_; exact As1))
 |(refine MC_pure (c156 _) pP dD1 ?_; rintro _ ⟨v, rfl⟩; (refine fB1 hTT ?_; exact As1))
 |fail) : p := h
end QCb7
theorem c130 (n : Int) : Pure Tab X G 130 [.int .i64 n] IntA := by
 refine Fn_of T130 (by simp) ?_
 refine n0 ?_
 open QCb7 in exact As1
namespace QCb8
theorem fB1 (x : a) (g : q) (h : a → q → p := by (intro x g; exact n1 (j x hTT) g)) : p := h x g
theorem kA1 (h : p := by
 first
 |((refine ⟨_, _, _, rfl, by omega, by omega, _, _, rfl, by omega⟩)) <;> exact As1
 |fail) : p := h
theorem kB1 (h : p := by
 first
 |(refine MC_sc (c123 hs) dC1 (by omega) (by omega) (by first | trivial | omega | (dsimp only; omega)) dD1 (fun r at1 ln1 bad1 hat hatb hr => ?_); obtain ⟨rfl, rfl, r, n, rfl, hr1, hn1, hr0, hr9, hn0, hn4, hnl⟩ := hr; (refine fB1 hTT ?_; exact As1))
 |(refine MC_scR (c121b hs _ _) dC1 (by omega) (by omega) dD1 (fun r hr => ?_); obtain ⟨b, rfl, hb, hbv⟩ := hr; cases b; all_goals (first | (have hb := hb rfl) | clear hb); all_goals (refine fB1 hTT ?_; exact As1))
 |(refine MC_sc (c164 hs) dC1 (by omega) (by omega) (by first | trivial | omega | (dsimp only; omega)) dD1 (fun r at1 ln1 bad1 hat hatb hr => ?_); obtain ⟨rfl, v, b2, rfl⟩ := hr; (refine fB1 hTT ?_; exact As1))
 |(refine MC_sc (c124 _) dC1 (by omega) (by omega) (by first | trivial | omega | (dsimp only; omega)) dD1 (fun r at1 ln1 bad1 hat hatb hr => ?_); obtain ⟨rfl, hb1, hb2⟩ := hr; (refine fB1 hTT ?_; exact As1))
 |(refine MC_pure (c130 _) pP dD1 ?_; rintro _ ⟨v2, rfl⟩; (refine fB1 hTT ?_; exact As1))
 |fail) : p := h
end QCb8
theorem c157 {s : ByteArray} (hs : s.size ≤ 4398046511104) (first : Bool) : Sc Tab X G 157 s [.bool first] (fun _ => True) (fun at0 bad0 at1 bad1 r => ∃ v b, r = .tup [.int .i64 v, .bool b] ∧ (0 ≤ v → at0 < at1)) := by
 intro e sc ln at0 bad0 h0 h1 _
 refine Fn_of T157 (by simp) ?_
 refine n0 ?_
 open QCb8 in exact As1
def U8s (cells : List PV) : Prop := ∀ c, c ∈ cells → ∃ n : Int, c = .int .u8 n ∧ 0 ≤ n ∧ n < 256
theorem wrap_u8 (n : Int) : 0 ≤ IntKind.wrap .u8 n ∧ IntKind.wrap .u8 n < 256 := by
 have e : IntKind.wrap .u8 n = n % 256 := by simp [IntKind.wrap, IntKind.bits, IntKind.signed]
 rw [e]; omega
theorem U8s.splice {cells : List PV} {o : Nat} {n : Int} (h : U8s cells) (h0 : 0 ≤ n) (h1 : n < 256) : U8s (splice cells o [.int .u8 n]) := by
 intro c hc
 simp only [Go.Pi.splice, List.mem_append, List.mem_singleton] at hc
 rcases hc with (hc | hc) | hc
 ·exact h c (List.mem_of_mem_take hc)
 ·exact ⟨n, hc, h0, h1⟩
 ·exact h c (List.mem_of_mem_drop hc)
theorem splice_len {cells : List PV} {o : Nat} {v : PV} (h : o < cells.length) : (splice cells o [v]).length = cells.length := by
 simp only [splice, List.length_append, List.length_take, List.length_cons, List.length_nil, List.length_drop]; omega
theorem bytesOf_U8s : ∀ {cells : List PV}, U8s cells → ∃ l, bytesOfP cells = some l ∧ l.length = cells.length
 |[], _ => ⟨[], rfl, rfl⟩
 |c :: cs, h => by
  obtain ⟨n, rfl, _, _⟩ := h c (by simp)
  obtain ⟨l, h1, h2⟩ := bytesOf_U8s (cells := cs) fun x hx => h x (by simp [hx])
  exact ⟨UInt8.ofNat n.toNat :: l, by simp only [bytesOfP, h1, Option.map_some], by simp [h2]⟩
theorem U8s.zeros {n : Nat} : U8s (List.replicate n [PV.int .u8 0]).flatten := by
 intro c hc
 simp only [List.mem_flatten, List.mem_replicate] at hc
 obtain ⟨l, ⟨_, rfl⟩, hc⟩ := hc
 simp only [List.mem_singleton] at hc
 exact ⟨0, hc, by omega, by omega⟩
theorem zeros_len {n : Nat} {v : PV} : (List.replicate n [v]).flatten.length = n := by
 simp
def IntsP (v : PV) : Prop := SlP (fun y => ∃ n : Int, y = [.int .i64 n]) v
theorem IntsP.of {xs : List (List PV)} (h : ∀ y, y ∈ xs → ∃ n : Int, y = [.int .i64 n]) (hl : xs.length ≤ 1000) : IntsP (.sl xs) :=
 ⟨.inr ⟨xs, rfl, by omega⟩, by simp only [deepB]; exact deepLL_of fun y hy => by obtain ⟨n, rfl⟩ := h y hy; rfl, h⟩
namespace QCb10
theorem fB2 (x : a) (g : q) (h : a → q → p := by (intro x g; exact n1 (j x (j h0 (j h3 (j h4 (j e1003 (j lv.1 (j @Int.toNat_natCast hTT))))))) g)) : p := h x g
theorem kN2 (h : p := by
 first
 |(refine next _ ?_ _ ⟨_, _, _, by (exact c1 (j h0 (j h3 (j h4 (j e1003 (j lv.1 @Int.toNat_natCast)))))), by (exact c1 (j h0 (j h3 (j h4 (j e1003 (j lv.1 @Int.toNat_natCast)))))), by (exact c1 (j h0 (j h3 (j h4 (j e1003 (j lv.1 @Int.toNat_natCast)))))), by (exact c1 (j h0 (j h3 (j h4 (j e1003 (j lv.1 @Int.toNat_natCast)))))), by (first | exact wM | exact zeros_len | exact U8s.zeros | exact U8s.splice hq2 (wrap_u8 _).1 (wrap_u8 _).2 | exact (splice_len (by omega)).trans hq1), by (first | exact wM | exact zeros_len | exact U8s.zeros | exact U8s.splice hq2 (wrap_u8 _).1 (wrap_u8 _).2 | exact (splice_len (by omega)).trans hq1), by (first | exact wM | exact zeros_len | exact U8s.zeros | exact U8s.splice hq2 (wrap_u8 _).1 (wrap_u8 _).2 | exact (splice_len (by omega)).trans hq1), rfl⟩; (first | exact wM | exact zeros_len | exact U8s.zeros | exact U8s.splice hq2 (wrap_u8 _).1 (wrap_u8 _).2 | exact (splice_len (by omega)).trans hq1))
 |fail) : p := h
theorem kB2 (h : p := by
 first
 |((refine MIX_S (P := fun y => ∃ n : Int, y = [.int .i64 n]) (fun h => by obtain ⟨n, rfl⟩ := h; rfl) lv (by omega) (by omega) (fun y hy hmem hg => ?_); obtain ⟨yn, rfl⟩ := hy; refine n1 (j h0 (j h3 (j h4 (j e1003 (j lv.1 @Int.toNat_natCast))))) ?_)) <;> exact As2
 |((refine MIX_row (by omega) (by omega) ?_; refine n1 (j h0 (j h3 (j h4 (j e1003 (j lv.1 @Int.toNat_natCast))))) ?_)) <;> exact As2
 |fail) : p := h
theorem kZ2 (h : p := by
 first
 |skip
  obtain ⟨l, hl1, hl2⟩ := bytesOf_U8s hq2
  have he : elemsOf H 1 (.row 1003 st (els v).length) = some ((els v).length, cells) := by
   simp only [elemsOf, e1003]
   rw [if_pos ⟨trivial, by omega⟩, List.take_of_length_le (by omega)]
  simp only [he, hl1]
  simp only [Option.map_some, Option.map_none, go_sem, Nat.reduceEqDiff, Nat.reduceAdd, Nat.reduceLeDiff, Nat.reduceLT, Nat.reduceMul, Nat.reduceSub, reduceIte, reduceCtorEq, Int.reduceEq, Int.reduceLT, Int.reduceLE, Nat.reduceBEq, Int.reduceToNat, M_block]
  exact ⟨_, rfl, by simp only [ByteArray.size, List.size_toArray]; omega⟩
  done
 |fail) : p := h
end QCb10
namespace QCb9
theorem fB1 (x : a) (g : q) (h : a → q → p := by (intro x g; exact n1 (j x (j lv.1 (j lv.2.1 (j @Int.toNat_natCast hTT)))) g)) : p := h x g
theorem kZ1 (h : p := by
 first
 |skip
  refine M_loop (fun m' s' => ∃ (i : Int) (st : Nat) (cells : List PV), s'.t 0 = v ∧ s'.t 3 = .row 1003 st (els v).length ∧ s'.t 4 = .int .i64 i ∧ s'.H 1003 = some ⟨5, st, cells, 1⟩ ∧ (0 ≤ i) ∧ (cells.length = (els v).length) ∧ (U8s cells) ∧ m' = ((els v).length - i).toNat) ?_ (n := _) ⟨_, _, _, by (exact c1 (j lv.1 @Int.toNat_natCast)), by (exact c1 (j lv.1 @Int.toNat_natCast)), by (exact c1 (j lv.1 @Int.toNat_natCast)), by (exact c1 (j lv.1 @Int.toNat_natCast)), by (first | exact wM | exact zeros_len | exact U8s.zeros | exact U8s.splice hq2 (wrap_u8 _).1 (wrap_u8 _).2 | exact (splice_len (by omega)).trans hq1), by (first | exact wM | exact zeros_len | exact U8s.zeros | exact U8s.splice hq2 (wrap_u8 _).1 (wrap_u8 _).2 | exact (splice_len (by omega)).trans hq1), by (first | exact wM | exact zeros_len | exact U8s.zeros | exact U8s.splice hq2 (wrap_u8 _).1 (wrap_u8 _).2 | exact (splice_len (by omega)).trans hq1), rfl⟩
  rintro m' ⟨t, H, k⟩ ⟨i, st, cells, h0, h3, h4, e1003, hq0, hq1, hq2, hm⟩ next
  simp only at h0 h3 h4 e1003
  refine n1 (j h0 (j h3 (j h4 (j e1003 (j lv.1 @Int.toNat_natCast))))) ?_
  open QCb10 in exact As2
  done
 |fail) : p := h
end QCb9
theorem c99 {v : PV} (lv : IntsP v) : Pure Tab X G 99 [v] (fun r => ∃ z, r = .str z ∧ z.size = (els v).length) := by
 have hB := lv.1.len
 refine Fn_of T99 (by simp) ?_
 refine n1 (j lv.1 lv.2.1) ?_
 open QCb9 in exact As1
namespace QCb11
theorem fB1 (x : a) (g : q) (h : a → q → p := by (intro x g; exact n1 (j x hTT) g)) : p := h x g
theorem kA1 (h : p := by
 first
 |(exact ⟨_, rfl, by omega⟩) <;> exact As1
 |fail) : p := h
theorem kB1 (h : p := by
 first
 |((refine MC_none rfl (by intro b g r h; cases h) (c0) ?_; obtain ⟨r, cells, hf, z, rfl, hz⟩ := c99 (X := X) (G := G) (IntsP.of (xs := [[.int .i64 _], [.int .i64 _]]) (by simp) (by simp)); refine ⟨_, _, hf, ?_⟩; (have hz2 : z.size = 2 := hz); refine n0 ?_)) <;> exact As1
 |fail) : p := h
end QCb11
theorem c110 (n : Int) : Pure Tab X G 110 [.int .i64 n] (fun r => ∃ z, r = .str z ∧ z.size = 2) := by
 refine Fn_of T110 (by simp) ?_
 refine n0 ?_
 open QCb11 in exact As1
end
end Go.Pi
end
section
open Go Go.Pi
namespace Go.Pi
variable {p q a : Prop}
set_option maxRecDepth 100000
set_option maxHeartbeats 0
section
variable {X : CallF} {G : Nat → PV}
namespace QCc1
theorem fB1 (x : a) (g : q) (h : a → q → p := by (intro x g; exact n1 (j x hTT) g)) : p := h x g
theorem kA1 (h : p := by
 first
 |(exact ⟨_, rfl, by omega⟩) <;> exact As1
 |fail) : p := h
theorem kB1 (h : p := by
 first
 |((refine MC_none rfl (by intro b g r h; cases h) (c0) ?_; obtain ⟨r, cells, hf, z, rfl, hz⟩ := c99 (X := X) (G := G) (IntsP.of (xs := [[.int .i64 _]]) (by simp) (by simp)); refine ⟨_, _, hf, ?_⟩; (have hz2 : z.size = 1 := hz); refine n0 ?_)) <;> exact As1
 |((refine MC_none rfl (by intro b g r h; cases h) (c0) ?_; obtain ⟨r, cells, hf, z, rfl, hz⟩ := c99 (X := X) (G := G) (IntsP.of (xs := [[.int .i64 _], [.int .i64 _]]) (by simp) (by simp)); refine ⟨_, _, hf, ?_⟩; (have hz2 : z.size = 2 := hz); refine n0 ?_)) <;> exact As1
 |((refine MC_none rfl (by intro b g r h; cases h) (c0) ?_; obtain ⟨r, cells, hf, z, rfl, hz⟩ := c99 (X := X) (G := G) (IntsP.of (xs := [[.int .i64 _], [.int .i64 _], [.int .i64 _]]) (by simp) (by simp)); refine ⟨_, _, hf, ?_⟩; (have hz2 : z.size = 3 := hz); refine n0 ?_)) <;> exact As1
 |((refine MC_none rfl (by intro b g r h; cases h) (c0) ?_; obtain ⟨r, cells, hf, z, rfl, hz⟩ := c99 (X := X) (G := G) (IntsP.of (xs := [[.int .i64 _], [.int .i64 _], [.int .i64 _], [.int .i64 _]]) (by simp) (by simp)); refine ⟨_, _, hf, ?_⟩; (have hz2 : z.size = 4 := hz); refine n0 ?_)) <;> exact As1
 |fail) : p := h
end QCc1
theorem c71 (n : Int) : Pure Tab X G 71 [.int .i64 n] (fun r => ∃ z, r = .str z ∧ z.size ≤ 4) := by
 refine Fn_of T71 (by simp) ?_
 refine n0 ?_
 open QCc1 in exact As1
namespace QCc2
theorem fB1 (x : a) (g : q) (h : a → q → p := by (intro x g; exact n1 (j x hTT) g)) : p := h x g
theorem kA1 (h : p := by
 first
 |(exact ⟨_, rfl, by first | omega | (rw [ByteArray.size_append]; omega)⟩) <;> exact As1
 |fail) : p := h
theorem kB1 (h : p := by
 first
 |(refine MC_pure (c110 _) pP dD1 ?_; rintro _ ⟨z, rfl, hz⟩; (refine fB1 hTT ?_; exact As1))
 |fail) : p := h
end QCc2
theorem c86 (n : Int) : Pure Tab X G 86 [.int .i64 n] (fun r => ∃ z, r = .str z ∧ z.size ≤ 4) := by
 refine Fn_of T86 (by simp) ?_
 refine n0 ?_
 open QCc2 in exact As1
namespace QCc4
theorem fB2 (x : a) (g : q) (h : a → q → p := by (intro x g; exact n1 (j x (j h0 (j h4 (j h5 (j e0 hTT))))) g)) : p := h x g
theorem kN2 (h : p := by
 first
 |(refine next _ ?_ _ ⟨_, _, _, _, _, by (exact c1 (j h0 (j h4 (j h5 e0)))), by (exact c1 (j h0 (j h4 (j h5 e0)))), by (exact c1 (j h0 (j h4 (j h5 e0)))), by (exact c1 (j h0 (j h4 (j h5 e0)))), wM, wM, wM, rfl⟩; exact wM)
 |fail) : p := h
theorem kA2 (h : p := by
 first
 |((refine ⟨_, _, _, rfl, by omega, by omega, _, _, rfl, by omega⟩)) <;> exact As2
 |fail) : p := h
theorem kB2 (h : p := by
 first
 |(refine MC_sc (c157 hs _) dC2 (by omega) (by omega) (by first | trivial | omega | (dsimp only; omega)) dD2 (fun r at1 ln1 bad1 hat hatb hr => ?_); obtain ⟨v, b, rfl, hv⟩ := hr; (refine fB2 hTT ?_; exact As2))
 |(refine MC_pure (c71 _) pP dD2 ?_; rintro _ ⟨zz, rfl, hzz⟩; (refine fB2 hTT ?_; exact As2))
 |fail) : p := h
end QCc4
namespace QCc3
theorem fB1 (x : a) (g : q) (h : a → q → p := by (intro x g; exact n1 (j x hTT) g)) : p := h x g
theorem kZ1 (h : p := by
 first
 |skip
  refine M_loop (fun m' s' => ∃ (p b2 : Int) (l2 bb : Bool) (z : ByteArray), s'.t 0 = .ptr 0 0 0 ∧ s'.t 4 = .str z ∧ s'.t 5 = .bool bb ∧ s'.H 0 = some ⟨e, 0, [.str s, .int .i64 p, .bool sc, .bool l2, .int .i64 b2], 0⟩ ∧ (at0 ≤ p) ∧ (p ≤ s.size) ∧ ((z.size : Int) ≤ 4 * (p - at0)) ∧ m' = (s.size - p).toNat) ?_ (n := _) ⟨_, _, _, _, _, by (exact c0), by (exact c0), by (exact c0), by (exact c0), wM, wM, wM, rfl⟩
  rintro m' ⟨t, H, k⟩ ⟨p, b2, l2, bb, z, h0, h4, h5, e0, hq0, hq1, hq2, hm⟩ next
  simp only at h0 h4 h5 e0
  refine n1 (j h0 (j h4 (j h5 e0))) ?_
  open QCc4 in exact As2
  done
 |fail) : p := h
end QCc3
theorem c133 {s : ByteArray} (hs : s.size ≤ 4398046511104) : Sc Tab X G 133 s [] (fun _ => True) (fun at0 bad0 at1 bad1 r => ∃ z b, r = .tup [.str z, .bool b] ∧ (z.size : Int) ≤ 4 * (at1 - at0)) := by
 intro e sc ln at0 bad0 h0 h1 _
 refine Fn_of T133 (by simp) ?_
 refine n0 ?_
 open QCc3 in exact As1
def DigOk (X : CallF) (G : Nat → PV) (base : Int) (z : ByteArray) : Prop := ∀ i : Nat, i < z.size → 0 ≤ hxF X G (byt z i) ∧ hxF X G (byt z i) < base
theorem DigOk.nil {base : Int} : DigOk X G base (bs []) := fun i h => absurd h (by rw [bs_size]; simp)
theorem byt_app {a b : ByteArray} (i : Nat) : byt (a ++ b) i = if i < a.size then byt a i else byt b ((i - a.size : Nat) : Int) := by
 unfold byt
 simp only [Int.toNat_natCast]
 have e : (a ++ b).data.toList = a.data.toList ++ b.data.toList := by simp [ByteArray.data_append]
 have e2 : a.size = a.data.toList.length := by rw [Array.length_toList]; rfl
 rw [e]
 simp only [List.getD_eq_getElem?_getD]
 split
 ·rename_i h
  rw [List.getElem?_append_left (by omega)]
 ·rename_i h
  rw [List.getElem?_append_right (by omega), e2]
theorem byt_sub {s : ByteArray} {p : Int} (h0 : 0 ≤ p) (h1 : p < (s.size : Int)) : byt (subs s p (p + 1)) 0 = byt s p := by
 unfold byt subs
 have e2 : s.size = s.data.toList.length := by rw [Array.length_toList]; rfl
 have e : (s.extract p.toNat (p + 1).toNat).data.toList = (s.data.toList.drop p.toNat).take 1 := by
  rw [ByteArray.data_extract, Array.toList_extract, List.extract_eq_take_drop]
  congr 1
  omega
 rw [e]
 simp only [List.getD_eq_getElem?_getD]
 rw [show (0 : Int).toNat = 0 from rfl, List.getElem?_take, if_pos (by omega), List.getElem?_drop, Nat.add_zero]
theorem DigOk.snoc {base : Int} {z s : ByteArray} {p : Int} (h : DigOk X G base z) (h0 : 0 ≤ p) (h1 : p < (s.size : Int)) (g0 : 0 ≤ hxF X G (byt s p)) (g1 : hxF X G (byt s p) < base) : DigOk X G base (z ++ subs s p (p + 1)) := by
 intro i hi
 rw [byt_app]
 have hz : (subs s p (p + 1)).size = 1 := by have := subs_size (s := s) h0 (by omega : p ≤ p + 1) (by omega); omega
 rw [ByteArray.size_append, hz] at hi
 split
 ·rename_i h2; exact h i h2
 ·rename_i h2
  have : i - z.size = 0 := by omega
  rw [this, show ((0 : Nat) : Int) = 0 from rfl, byt_sub h0 h1]
  exact ⟨g0, g1⟩
namespace QCc6
theorem fB2 (x : a) (g : q) (h : a → q → p := by (intro x g; exact n1 (j x (j h0 (j h1 (j h2 (j h7 (j e0 hTT)))))) g)) : p := h x g
theorem kN2 (h : p := by
 first
 |(refine next _ ?_ _ ⟨_, _, _, by (exact c1 (j h0 (j h1 (j h2 (j h7 e0))))), by (exact c1 (j h0 (j h1 (j h2 (j h7 e0))))), by (exact c1 (j h0 (j h1 (j h2 (j h7 e0))))), by (exact c1 (j h0 (j h1 (j h2 (j h7 e0))))), by (exact c1 (j h0 (j h1 (j h2 (j h7 e0))))), by (first | exact wM | exact DigOk.nil | (subst hz; have hbb := ‹_ = byt s _›; subst hbb; exact DigOk.snoc (by assumption) (by omega) (by omega) (by omega) (by omega))), by (first | exact wM | exact DigOk.nil | (subst hz; have hbb := ‹_ = byt s _›; subst hbb; exact DigOk.snoc (by assumption) (by omega) (by omega) (by omega) (by omega))), by (first | exact wM | exact DigOk.nil | (subst hz; have hbb := ‹_ = byt s _›; subst hbb; exact DigOk.snoc (by assumption) (by omega) (by omega) (by omega) (by omega))), by (first | exact wM | exact DigOk.nil | (subst hz; have hbb := ‹_ = byt s _›; subst hbb; exact DigOk.snoc (by assumption) (by omega) (by omega) (by omega) (by omega))), rfl⟩; (first | exact wM | exact DigOk.nil | (subst hz; have hbb := ‹_ = byt s _›; subst hbb; exact DigOk.snoc (by assumption) (by omega) (by omega) (by omega) (by omega))))
 |fail) : p := h
theorem kA2 (h : p := by
 first
 |((refine ⟨_, _, _, rfl, by omega, by omega, _, rfl, by omega, by assumption⟩)) <;> exact As2
 |fail) : p := h
theorem kB2 (h : p := by
 first
 |(refine MC_pure (c168 _ (by omega) (by omega)) pP dD2 ?_; rintro _ ⟨v, rfl, hv, hv0, hv1⟩; (refine fB2 hTT ?_; exact As2))
 |(refine MC_sc (c124 _) dC2 (by omega) (by omega) (by first | trivial | omega | (dsimp only; omega)) dD2 (fun r at1 ln1 bad1 hat hatb hr => ?_); obtain ⟨rfl, hb1, hb2⟩ := hr; (refine fB2 hTT ?_; exact As2))
 |fail) : p := h
end QCc6
namespace QCc5
theorem fB1 (x : a) (g : q) (h : a → q → p := by (intro x g; exact n1 (j x hTT) g)) : p := h x g
theorem kZ1 (h : p := by
 first
 |skip
  refine M_loop (fun m' s' => ∃ (p : Int) (l2 : Bool) (z : ByteArray), s'.t 0 = .ptr 0 0 0 ∧ s'.t 1 = .int .i64 base ∧ s'.t 2 = .bool seps ∧ s'.t 7 = .str z ∧ s'.H 0 = some ⟨e, 0, [.str s, .int .i64 p, .bool sc, .bool l2, .int .i64 bad0], 0⟩ ∧ (at0 ≤ p) ∧ (p ≤ s.size) ∧ ((z.size : Int) ≤ p - at0) ∧ (DigOk X G base z) ∧ m' = (s.size - p).toNat) ?_ (n := _) ⟨_, _, _, by (exact c0), by (exact c0), by (exact c0), by (exact c0), by (exact c0), by (first | exact wM | exact DigOk.nil | (subst hz; have hbb := ‹_ = byt s _›; subst hbb; exact DigOk.snoc (by assumption) (by omega) (by omega) (by omega) (by omega))), by (first | exact wM | exact DigOk.nil | (subst hz; have hbb := ‹_ = byt s _›; subst hbb; exact DigOk.snoc (by assumption) (by omega) (by omega) (by omega) (by omega))), by (first | exact wM | exact DigOk.nil | (subst hz; have hbb := ‹_ = byt s _›; subst hbb; exact DigOk.snoc (by assumption) (by omega) (by omega) (by omega) (by omega))), by (first | exact wM | exact DigOk.nil | (subst hz; have hbb := ‹_ = byt s _›; subst hbb; exact DigOk.snoc (by assumption) (by omega) (by omega) (by omega) (by omega))), rfl⟩
  rintro m' ⟨t, H, k⟩ ⟨p, l2, z, h0, h1, h2, h7, e0, hq0, hq1, hq2, hq3, hm⟩ next
  simp only at h0 h1 h2 h7 e0
  refine n1 (j h0 (j h1 (j h2 (j h7 e0)))) ?_
  open QCc6 in exact As2
  done
 |fail) : p := h
end QCc5
theorem c151 {s : ByteArray} (hs : s.size ≤ 4398046511104) (base : Int) (seps : Bool) : Sc Tab X G 151 s [.int .i64 base, .bool seps] (fun _ => True) (fun at0 bad0 at1 bad1 r => ∃ z, r = .str z ∧ (z.size : Int) ≤ at1 - at0 ∧ DigOk X G base z) := by
 intro e sc ln at0 bad0 h0 h1 _
 refine Fn_of T151 (by simp) ?_
 refine n0 ?_
 open QCc5 in exact As1
end
end Go.Pi
end
section
open Go Go.Pi
namespace Go.Pi
variable {p q a : Prop}
set_option maxRecDepth 100000
set_option maxHeartbeats 0
section
variable {X : CallF} {G : Nat → PV}
namespace QCd2
theorem fB2 (x : a) (g : q) (h : a → q → p := by (intro x g; exact n1 (j x (j h0 (j h3 (j h4 (j h5 (j h6 (j e0 hTT))))))) g)) : p := h x g
theorem kN2 (h : p := by
 first
 |(refine next _ ?_ _ ⟨_, _, _, _, _, _, by (exact c1 (j h0 (j h3 (j h4 (j h5 (j h6 e0)))))), by (exact c1 (j h0 (j h3 (j h4 (j h5 (j h6 e0)))))), by (exact c1 (j h0 (j h3 (j h4 (j h5 (j h6 e0)))))), by (exact c1 (j h0 (j h3 (j h4 (j h5 (j h6 e0)))))), by (exact c1 (j h0 (j h3 (j h4 (j h5 (j h6 e0)))))), by (exact c1 (j h0 (j h3 (j h4 (j h5 (j h6 e0)))))), wM, wM, wM, rfl⟩; exact wM)
 |fail) : p := h
theorem kA2 (h : p := by
 first
 |((refine ⟨_, _, _, rfl, by omega, by omega, _, rfl⟩)) <;> exact As2
 |fail) : p := h
end QCd2
namespace QCd1
theorem fB1 (x : a) (g : q) (h : a → q → p := by (intro x g; exact n1 (j x hTT) g)) : p := h x g
theorem kA1 (h : p := by
 first
 |((refine ⟨_, _, _, rfl, by omega, by omega, _, rfl⟩)) <;> exact As1
 |fail) : p := h
theorem kB1 (h : p := by
 first
 |(refine MC_scR (c121a hs' _) dC1 (by omega) (by omega) dD1 (fun r hr => ?_); obtain ⟨b, rfl, hb, hbv⟩ := hr; cases b; all_goals (first | (have hb := hb rfl) | clear hb); all_goals (refine fB1 hTT ?_; exact As1))
 |(refine MC_sc (c151 hs' _ _) dC1 (by omega) (by omega) (by first | trivial | omega | (dsimp only; omega)) dD1 (fun r at1 ln1 bad1 hat hatb hr => ?_); obtain ⟨zz, rfl, hzz, hdg⟩ := hr; (refine fB1 hTT ?_; exact As1))
 |(refine MC_sc (c124 _) dC1 (by omega) (by omega) (by first | trivial | omega | (dsimp only; omega)) dD1 (fun r at1 ln1 bad1 hat hatb hr => ?_); obtain ⟨rfl, hb1, hb2⟩ := hr; (refine fB1 hTT ?_; exact As1))
 |fail) : p := h
theorem kZ1 (h : p := by
 first
 |skip
  all_goals
   refine M_loop (fun m' s' => ∃ (v i p b2 : Int) (l2 bb : Bool), s'.t 0 = .ptr 0 0 0 ∧ s'.t 3 = .bool bb ∧ s'.t 4 = .str zz ∧ s'.t 5 = .int .i64 v ∧ s'.t 6 = .int .i64 i ∧ s'.H 0 = some ⟨e, 0, [.str s, .int .i64 p, .bool sc, .bool l2, .int .i64 b2], 0⟩ ∧ (at0 ≤ p) ∧ (p ≤ s.size) ∧ (0 ≤ i) ∧ m' = (zz.size - i).toNat) ?_ (n := _) ⟨_, _, _, _, _, _, by (exact c0), by (exact c0), by (exact c0), by (exact c0), by (exact c0), by (exact c0), wM, wM, wM, rfl⟩
   rintro m' ⟨t, H, k⟩ ⟨v, i, p, b2, l2, bb, h0, h3, h4, h5, h6, e0, hq0, hq1, hq2, hm⟩ next
   simp only at h0 h3 h4 h5 h6 e0
   refine n1 (j h0 (j h3 (j h4 (j h5 (j h6 e0))))) ?_
   open QCd2 in exact As2
  done
 |fail) : p := h
end QCd1
theorem c154 {s : ByteArray} (hs : s.size ≤ 268435456) : Sc Tab X G 154 s [] (fun _ => True) (fun at0 bad0 at1 bad1 r => ∃ n, r = .int .i64 n) := by
 intro e sc ln at0 bad0 h0 h1 _
 have hs' : s.size ≤ 4398046511104 := by omega
 refine Fn_of T154 (by simp) ?_
 refine n0 ?_
 open QCd1 in exact As1
namespace QCd4
theorem fB2 (x : a) (g : q) (h : a → q → p := by (intro x g; exact n1 (j x (j h0 (j h3 (j h4 (j e0 hTT))))) g)) : p := h x g
theorem kN2 (h : p := by
 first
 |(refine next _ ?_ _ ⟨_, _, _, _, by (exact c1 (j h0 (j h3 (j h4 e0)))), by (exact c1 (j h0 (j h3 (j h4 e0)))), by (exact c1 (j h0 (j h3 (j h4 e0)))), by (exact c1 (j h0 (j h3 (j h4 e0)))), wM, wM, rfl⟩; exact wM)
 |fail) : p := h
theorem kA2 (h : p := by
 first
 |((refine ⟨_, _, _, rfl, by omega, by omega, _, rfl⟩)) <;> exact As2
 |fail) : p := h
theorem kB2 (h : p := by
 first
 |(refine MC_pure (c148 _ _ _) pP dD2 ?_; rintro _ rfl; (refine fB2 hTT ?_; exact As2))
 |fail) : p := h
end QCd4
namespace QCd3
theorem fB1 (x : a) (g : q) (h : a → q → p := by (intro x g; exact n1 (j x hTT) g)) : p := h x g
theorem kZ1 (h : p := by
 first
 |skip
  refine M_loop (fun m' s' => ∃ (p v n : Int) (l2 : Bool), s'.t 0 = .ptr 0 0 0 ∧ s'.t 3 = .int .i64 v ∧ s'.t 4 = .int .i64 n ∧ s'.H 0 = some ⟨e, 0, [.str s, .int .i64 p, .bool sc, .bool l2, .int .i64 bad0], 0⟩ ∧ (at0 ≤ p) ∧ (p ≤ s.size) ∧ m' = (s.size - p).toNat) ?_ (n := _) ⟨_, _, _, _, by (exact c0), by (exact c0), by (exact c0), by (exact c0), wM, wM, rfl⟩
  rintro m' ⟨t, H, k⟩ ⟨p, v, n, l2, h0, h3, h4, e0, hq0, hq1, hm⟩ next
  simp only at h0 h3 h4 e0
  refine n1 (j h0 (j h3 (j h4 e0))) ?_
  open QCd4 in exact As2
  done
 |fail) : p := h
end QCd3
theorem c165 {s : ByteArray} (hs : s.size ≤ 268435456) : Sc Tab X G 165 s [] (fun _ => True) (fun at0 bad0 at1 bad1 r => ∃ n, r = .int .i64 n) := by
 intro e sc ln at0 bad0 h0 h1 _
 have hs' : s.size ≤ 4398046511104 := by omega
 refine Fn_of T165 (by simp) ?_
 refine n0 ?_
 open QCd3 in exact As1
namespace QCd5
theorem fB1 (x : a) (g : q) (h : a → q → p := by (intro x g; exact n1 (j x hTT) g)) : p := h x g
theorem kA1 (h : p := by
 first
 |((refine ⟨_, _, _, rfl, by omega, by omega, _, _, _, rfl, by first | omega | (rw [bs_size]; decide)⟩)) <;> exact As1
 |fail) : p := h
theorem kB1 (h : p := by
 first
 |(refine MC_scR (c121a hs' _) dC1 (by omega) (by omega) dD1 (fun r hr => ?_); obtain ⟨b, rfl, hb, hbv⟩ := hr; cases b; all_goals (first | (have hb := hb rfl) | clear hb); all_goals (refine fB1 hTT ?_; exact As1))
 |(refine MC_sc (c123 hs') dC1 (by omega) (by omega) (by first | trivial | omega | (dsimp only; omega)) dD1 (fun r at1 ln1 bad1 hat hatb hr => ?_); obtain ⟨rfl, rfl, r, n, rfl, hr1, hn1, hr0, hr9, hn0, hn4, hnl⟩ := hr; (refine fB1 hTT ?_; exact As1))
 |(refine MC_sc (c163 hs' _ (by omega)) dC1 (by omega) (by omega) (by first | trivial | omega | (dsimp only; omega)) dD1 (fun r at1 ln1 bad1 hat hatb hr => ?_); obtain ⟨rfl, v, b, rfl⟩ := hr; (refine fB1 hTT ?_; exact As1))
 |(refine MC_sc (c164 hs') dC1 (by omega) (by omega) (by first | trivial | omega | (dsimp only; omega)) dD1 (fun r at1 ln1 bad1 hat hatb hr => ?_); obtain ⟨rfl, v, b, rfl⟩ := hr; (refine fB1 hTT ?_; exact As1))
 |(refine MC_sc (c165 hs) dC1 (by omega) (by omega) (by first | trivial | omega | (dsimp only; omega)) dD1 (fun r at1 ln1 bad1 hat hatb hr => ?_); obtain ⟨v, rfl⟩ := hr; (refine fB1 hTT ?_; exact As1))
 |(refine MC_pure (c110 _) pP dD1 ?_; rintro _ ⟨z, rfl, hz⟩; (refine fB1 hTT ?_; exact As1))
 |(refine MC_pure (c86 _) pP dD1 ?_; rintro _ ⟨z, rfl, hz⟩; (refine fB1 hTT ?_; exact As1))
 |(refine MC_pure (c128 _) pP dD1 ?_; rintro _ rfl; (refine fB1 hTT ?_; exact As1))
 |fail) : p := h
end QCd5
theorem c143 {s : ByteArray} (hs : s.size ≤ 268435456) (tpl : Bool) : Sc Tab X G 143 s [.bool tpl] (fun _ => True) (fun at0 bad0 at1 bad1 r => ∃ z a b, r = .tup [.str z, .bool a, .bool b] ∧ z.size ≤ 4) := by
 intro e sc ln at0 bad0 h0 h1 _
 have hs' : s.size ≤ 4398046511104 := by omega
 refine Fn_of T143 (by simp) ?_
 refine n0 ?_
 open QCd5 in exact As1
namespace QCd7
theorem fB2 (x : a) (g : q) (h : a → q → p := by (intro x g; exact n1 (j x (j h0 (j h3 (j h4 hTT)))) g)) : p := h x g
theorem kN2 (h : p := by
 first
 |(refine next _ ?_ _ ⟨_, _, by (exact c1 (j h0 (j h3 h4))), by (exact c1 (j h0 (j h3 h4))), by (exact c1 (j h0 (j h3 h4))), wM, wM, wM, rfl⟩; exact wM)
 |fail) : p := h
theorem kA2 (h : p := by
 first
 |(exact ⟨_, rfl⟩) <;> exact As2
 |fail) : p := h
theorem kB2 (h : p := by
 first
 |(refine MC_pure (c85 _ hs' (by omega) (by omega)) pP dD2 ?_; rintro _ ⟨r, n, rfl, hr1, hn1, hr0, hr9, hn0, hn4, hnl⟩; (refine fB2 hTT ?_; exact As2))
 |(refine MC_pure (c86 _) pP dD2 ?_; rintro _ ⟨zz, rfl, hz⟩; (refine fB2 hTT ?_; exact As2))
 |fail) : p := h
end QCd7
namespace QCd6
theorem fB1 (x : a) (g : q) (h : a → q → p := by (intro x g; exact n1 (j x hTT) g)) : p := h x g
theorem kZ1 (h : p := by
 first
 |skip
  refine M_loop (fun m' s' => ∃ (p : Int) (z : ByteArray), s'.t 0 = .str s ∧ s'.t 3 = .str z ∧ s'.t 4 = .int .i64 p ∧ (0 ≤ p) ∧ (p ≤ s.size) ∧ ((z.size : Int) ≤ 4 * p) ∧ m' = (s.size - p).toNat) ?_ (n := _) ⟨_, _, by (exact c0), by (exact c0), by (exact c0), wM, wM, wM, rfl⟩
  rintro m' ⟨t, H, k⟩ ⟨p, z, h0, h3, h4, hq0, hq1, hq2, hm⟩ next
  simp only at h0 h3 h4
  refine n1 (j h0 (j h3 h4)) ?_
  open QCd7 in exact As2
  done
 |fail) : p := h
end QCd6
theorem c142 {s : ByteArray} (hs : s.size ≤ 268435456) : Pure Tab X G 142 [.str s] (fun r => ∃ z, r = .str z) := by
 have hs' : s.size ≤ 4398046511104 := by omega
 refine Fn_of T142 (by simp) ?_
 refine n0 ?_
 open QCd6 in exact As1
end
end Go.Pi
end
section
open Go Go.Pi
namespace Go.Pi
variable {p q a : Prop}
set_option maxRecDepth 100000
set_option maxHeartbeats 0
def TokR (n : Int) (r : PV) : Prop := ∃ (k : Int) (text more : ByteArray) (num from_ to_ : Int) (a b c : Bool), r = .agg [.int .i64 k, .str text, .str more, .int .u64 num, .int .i64 from_, .int .i64 to_, .bool a, .bool b, .bool c] ∧ (text.size : Int) ≤ n
section
variable {X : CallF} {G : Nat → PV}
namespace QCe2
theorem fB2 (x : a) (g : q) (h : a → q → p := by (intro x g; exact n1 (j x (j h0 (j h2 (j h3 (j h4 (j e0 (j e1 (j e1002 hTT)))))))) g)) : p := h x g
theorem kN2 (h : p := by
 first
 |(refine next _ ?_ _ ⟨_, _, _, _, _, _, _, by (exact c1 (j h0 (j h2 (j h3 (j h4 (j e0 (j e1 e1002))))))), by (exact c1 (j h0 (j h2 (j h3 (j h4 (j e0 (j e1 e1002))))))), by (exact c1 (j h0 (j h2 (j h3 (j h4 (j e0 (j e1 e1002))))))), by (exact c1 (j h0 (j h2 (j h3 (j h4 (j e0 (j e1 e1002))))))), by (exact c1 (j h0 (j h2 (j h3 (j h4 (j e0 (j e1 e1002))))))), by (exact c1 (j h0 (j h2 (j h3 (j h4 (j e0 (j e1 e1002))))))), by (exact c1 (j h0 (j h2 (j h3 (j h4 (j e0 (j e1 e1002))))))), wM, wM, wM, rfl⟩; exact wM)
 |fail) : p := h
theorem kA2 (h : p := by
 first
 |((refine ⟨_, _, _, rfl, by omega, by omega, _, _, _, _, _, _, _, _, _, rfl, by first | omega | (rw [bs_size]; simp; omega)⟩)) <;> exact As2
 |fail) : p := h
theorem kB2 (h : p := by
 first
 |(refine MC_scR (c121a hs' _) dC2 (by omega) (by omega) dD2 (fun r hr => ?_); obtain ⟨b, rfl, hb, hbv⟩ := hr; cases b; all_goals (first | (have hb := hb rfl) | clear hb); all_goals (refine fB2 hTT ?_; exact As2))
 |(refine MC_scR (c121b hs' _ _) dC2 (by omega) (by omega) dD2 (fun r hr => ?_); obtain ⟨b, rfl, hb, hbv⟩ := hr; cases b; all_goals (first | (have hb := hb rfl) | clear hb); all_goals (refine fB2 hTT ?_; exact As2))
 |(refine MC_sc (c123 hs') dC2 (by omega) (by omega) (by first | trivial | omega | (dsimp only; omega)) dD2 (fun r at1 ln1 bad1 hat hatb hr => ?_); obtain ⟨rfl, rfl, r, n, rfl, hr1, hn1, hr0, hr9, hn0, hn4, hnl⟩ := hr; (refine fB2 hTT ?_; exact As2))
 |(refine MC_sc (c143 hs _) dC2 (by omega) (by omega) (by first | trivial | omega | (dsimp only; omega)) dD2 (fun r at1 ln1 bad1 hat hatb hr => ?_); obtain ⟨z, a, b, rfl, hz⟩ := hr; (refine fB2 hTT ?_; exact As2))
 |(refine MC_pure (c142 (by omega)) pP dD2 ?_; rintro _ ⟨z, rfl⟩; (refine fB2 hTT ?_; exact As2))
 |(refine MC_pure (c110 _) pP dD2 ?_; rintro _ ⟨z, rfl, hz⟩; (refine fB2 hTT ?_; exact As2))
 |(refine MC_pure (c86 _) pP dD2 ?_; rintro _ ⟨z, rfl, hz⟩; (refine fB2 hTT ?_; exact As2))
 |(refine MC_sc (c124 _) dC2 (by omega) (by omega) (by first | trivial | omega | (dsimp only; omega)) dD2 (fun r at1 ln1 bad1 hat hatb hr => ?_); obtain ⟨rfl, hb1, hb2⟩ := hr; (refine fB2 hTT ?_; exact As2))
 |(exact absurd (Eq.trans ‹true = isV s _ _› (Eq.symm ‹false = isV s _ _›)) (by decide)) <;> exact As2
 |fail) : p := h
end QCe2
namespace QCe1
theorem fB1 (x : a) (g : q) (h : a → q → p := by (intro x g; exact n1 (j x hTT) g)) : p := h x g
theorem kZ1 (h : p := by
 first
 |skip
  refine M_loop (fun m' s' => ∃ (p b2 num : Int) (l2 : Bool) (st : Nat) (tx mo : ByteArray), s'.t 0 = .ptr 0 0 0 ∧ s'.t 2 = .ptr 1 1 0 ∧ s'.t 3 = .ptr 1002 st 0 ∧ s'.t 4 = .int .i64 (at0 + 1) ∧ s'.H 0 = some ⟨e, 0, [.str s, .int .i64 p, .bool sc, .bool l2, .int .i64 b2], 0⟩ ∧ s'.H 1 = some ⟨173, 1, [.int .i64 0, .str (bs []), .str (bs []), .int .u64 0, .int .i64 0, .int .i64 0, .bool false, .bool false, .bool false], 0⟩ ∧ s'.H 1002 = some ⟨173, st, [.int .i64 9, .str tx, .str mo, .int .u64 num, .int .i64 0, .int .i64 0, .bool false, .bool false, .bool false], 0⟩ ∧ (at0 + 1 ≤ p) ∧ (p ≤ s.size) ∧ ((tx.size : Int) ≤ 4 * (p - at0)) ∧ m' = (s.size - p).toNat) ?_ (n := _) ⟨_, _, _, _, _, _, _, by (exact c0), by (exact c0), by (exact c0), by (exact c0), by (exact c0), by (exact c0), by (exact c0), wM, wM, wM, rfl⟩
  rintro m' ⟨t, H, k⟩ ⟨p, b2, num, l2, st, tx, mo, h0, h2, h3, h4, e0, e1, e1002, hq0, hq1, hq2, hm⟩ next
  simp only at h0 h2 h3 h4 e0 e1 e1002
  refine n1 (j h0 (j h2 (j h3 (j h4 (j e0 (j e1 e1002)))))) ?_
  open QCe2 in exact As2
  done
 |fail) : p := h
end QCe1
theorem c111 {s : ByteArray} (hs : s.size ≤ 268435456) : Sc Tab X G 111 s [] (fun a => a + 1 ≤ (s.size : Int)) (fun at0 bad0 at1 bad1 r => TokR (16 * s.size + 100) r) := by
 intro e sc ln at0 bad0 h0 h1 hpre
 have hpre : at0 + 1 ≤ (s.size : Int) := hpre
 have hs' : s.size ≤ 4398046511104 := by omega
 refine Fn_of T111 (by simp) ?_
 refine n0 ?_
 open QCe1 in exact As1
namespace QCe4
theorem fB2 (x : a) (g : q) (h : a → q → p := by (intro x g; exact n1 (j x (j h0 (j h2 (j h3 (j h4 (j h5 (j e0 (j e1 (j e1002 hTT))))))))) g)) : p := h x g
theorem kN2 (h : p := by
 first
 |(refine next _ ?_ _ ⟨_, _, _, _, _, _, _, _, by (exact c1 (j h0 (j h2 (j h3 (j h4 (j h5 (j e0 (j e1 e1002)))))))), by (exact c1 (j h0 (j h2 (j h3 (j h4 (j h5 (j e0 (j e1 e1002)))))))), by (exact c1 (j h0 (j h2 (j h3 (j h4 (j h5 (j e0 (j e1 e1002)))))))), by (exact c1 (j h0 (j h2 (j h3 (j h4 (j h5 (j e0 (j e1 e1002)))))))), by (exact c1 (j h0 (j h2 (j h3 (j h4 (j h5 (j e0 (j e1 e1002)))))))), by (exact c1 (j h0 (j h2 (j h3 (j h4 (j h5 (j e0 (j e1 e1002)))))))), by (exact c1 (j h0 (j h2 (j h3 (j h4 (j h5 (j e0 (j e1 e1002)))))))), by (exact c1 (j h0 (j h2 (j h3 (j h4 (j h5 (j e0 (j e1 e1002)))))))), wM, wM, wM, rfl⟩; exact wM)
 |fail) : p := h
theorem kA2 (h : p := by
 first
 |((refine ⟨_, _, _, rfl, by omega, by omega, _, _, _, _, _, _, _, _, _, rfl, by first | omega | (rw [bs_size]; simp; omega)⟩)) <;> exact As2
 |fail) : p := h
theorem kB2 (h : p := by
 first
 |(refine MC_scR (c121 hs' _ (by omega)) dC2 (by omega) (by omega) dD2 (fun r hr => ?_); obtain ⟨b, rfl, hb, hbv⟩ := hr; cases b; all_goals (first | (have hb := hb rfl) | clear hb); all_goals (refine fB2 hTT ?_; exact As2))
 |(refine MC_sc (c123 hs') dC2 (by omega) (by omega) (by first | trivial | omega | (dsimp only; omega)) dD2 (fun r at1 ln1 bad1 hat hatb hr => ?_); obtain ⟨rfl, rfl, r, n, rfl, hr1, hn1, hr0, hr9, hn0, hn4, hnl⟩ := hr; (refine fB2 hTT ?_; exact As2))
 |(refine MC_sc (c143 hs _) dC2 (by omega) (by omega) (by first | trivial | omega | (dsimp only; omega)) dD2 (fun r at1 ln1 bad1 hat hatb hr => ?_); obtain ⟨z, a, b, rfl, hz⟩ := hr; (refine fB2 hTT ?_; exact As2))
 |(refine MC_pure (c86 _) pP dD2 ?_; rintro _ ⟨z, rfl, hz⟩; (refine fB2 hTT ?_; exact As2))
 |(refine MC_sc (c124 _) dC2 (by omega) (by omega) (by first | trivial | omega | (dsimp only; omega)) dD2 (fun r at1 ln1 bad1 hat hatb hr => ?_); obtain ⟨rfl, hb1, hb2⟩ := hr; (refine fB2 hTT ?_; exact As2))
 |fail) : p := h
end QCe4
namespace QCe3
theorem fB1 (x : a) (g : q) (h : a → q → p := by (intro x g; exact n1 (j x hTT) g)) : p := h x g
theorem kZ1 (h : p := by
 first
 |skip
  refine M_loop (fun m' s' => ∃ (p b2 num : Int) (l2 bo : Bool) (st : Nat) (tx mo : ByteArray), s'.t 0 = .ptr 0 0 0 ∧ s'.t 2 = .ptr 1 1 0 ∧ s'.t 3 = .ptr 1002 st 0 ∧ s'.t 4 = .str z ∧ s'.t 5 = .int .i64 (at0 + 1) ∧ s'.H 0 = some ⟨e, 0, [.str s, .int .i64 p, .bool sc, .bool l2, .int .i64 b2], 0⟩ ∧ s'.H 1 = some ⟨173, 1, [.int .i64 0, .str (bs []), .str (bs []), .int .u64 0, .int .i64 0, .int .i64 0, .bool false, .bool false, .bool false], 0⟩ ∧ s'.H 1002 = some ⟨173, st, [.int .i64 8, .str tx, .str mo, .int .u64 num, .int .i64 0, .int .i64 0, .bool false, .bool false, .bool bo], 0⟩ ∧ (at0 + 1 ≤ p) ∧ (p ≤ s.size) ∧ ((tx.size : Int) ≤ 4 * (p - at0)) ∧ m' = (s.size - p).toNat) ?_ (n := _) ⟨_, _, _, _, _, _, _, _, by (exact c0), by (exact c0), by (exact c0), by (exact c0), by (exact c0), by (exact c0), by (exact c0), by (exact c0), wM, wM, wM, rfl⟩
  rintro m' ⟨t, H, k⟩ ⟨p, b2, num, l2, bo, st, tx, mo, h0, h2, h3, h4, h5, e0, e1, e1002, hq0, hq1, hq2, hm⟩ next
  simp only at h0 h2 h3 h4 h5 e0 e1 e1002
  refine n1 (j h0 (j h2 (j h3 (j h4 (j h5 (j e0 (j e1 e1002))))))) ?_
  open QCe4 in exact As2
  done
 |fail) : p := h
end QCe3
theorem c131 {s : ByteArray} (hs : s.size ≤ 268435456) : Sc Tab X G 131 s [] (fun a => a + 1 ≤ (s.size : Int)) (fun at0 bad0 at1 bad1 r => TokR (16 * s.size + 100) r) := by
 intro e sc ln at0 bad0 h0 h1 hpre
 have hpre : at0 + 1 ≤ (s.size : Int) := hpre
 have hs' : s.size ≤ 4398046511104 := by omega
 refine Fn_of T131 (by simp) ?_
 refine n0 ?_
 open QCe3 in exact As1
namespace QCe7
theorem fB3 (x : a) (g : q) (h : a → q → p := by (intro x g; exact n1 (j x (j h0 (j h2 (j h3 (j h7 (j e0 (j e1 (j e21012 (j h0 (j h2 (j h3 (j e0 (j e1 hTT))))))))))))) g)) : p := h x g
theorem kN3 (h : p := by
 first
 |(refine next _ ?_ _ ⟨_, _, _, _, by (exact c1 (j h0 (j h2 (j h3 (j h7 (j e0 (j e1 (j e21012 (j h0 (j h2 (j h3 (j e0 e1)))))))))))), by (exact c1 (j h0 (j h2 (j h3 (j h7 (j e0 (j e1 (j e21012 (j h0 (j h2 (j h3 (j e0 e1)))))))))))), by (exact c1 (j h0 (j h2 (j h3 (j h7 (j e0 (j e1 (j e21012 (j h0 (j h2 (j h3 (j e0 e1)))))))))))), by (exact c1 (j h0 (j h2 (j h3 (j h7 (j e0 (j e1 (j e21012 (j h0 (j h2 (j h3 (j e0 e1)))))))))))), by (exact c1 (j h0 (j h2 (j h3 (j h7 (j e0 (j e1 (j e21012 (j h0 (j h2 (j h3 (j e0 e1)))))))))))), by (exact c1 (j h0 (j h2 (j h3 (j h7 (j e0 (j e1 (j e21012 (j h0 (j h2 (j h3 (j e0 e1)))))))))))), by (exact c1 (j h0 (j h2 (j h3 (j h7 (j e0 (j e1 (j e21012 (j h0 (j h2 (j h3 (j e0 e1)))))))))))), wM, wM, rfl⟩; exact wM)
 |fail) : p := h
theorem kA3 (h : p := by
 first
 |((refine ⟨_, _, _, rfl, by omega, by omega, _, _, _, _, _, _, _, _, _, rfl, by first | omega | (rw [bs_size]; simp; omega)⟩)) <;> exact As3
 |fail) : p := h
theorem kB3 (h : p := by
 first
 |(refine MC_scR (c121a hs' _) dC3 (by omega) (by omega) dD3 (fun r hr => ?_); obtain ⟨b, rfl, hb, hbv⟩ := hr; cases b; all_goals (first | (have hb := hb rfl) | clear hb); all_goals (refine fB3 hTT ?_; exact As3))
 |(refine MC_sc (c123 hs') dC3 (by omega) (by omega) (by first | trivial | omega | (dsimp only; omega)) dD3 (fun r at1 ln1 bad1 hat hatb hr => ?_); obtain ⟨rfl, rfl, r, n, rfl, hr1, hn1, hr0, hr9, hn0, hn4, hnl⟩ := hr; (refine fB3 hTT ?_; exact As3))
 |(refine MC_pure (c130 _) pP dD3 ?_; rintro _ ⟨v, rfl⟩; (refine fB3 hTT ?_; exact As3))
 |(refine MC_sc (c124 _) dC3 (by omega) (by omega) (by first | trivial | omega | (dsimp only; omega)) dD3 (fun r at1 ln1 bad1 hat hatb hr => ?_); obtain ⟨rfl, hb1, hb2⟩ := hr; (refine fB3 hTT ?_; exact As3))
 |fail) : p := h
end QCe7
namespace QCe6
theorem fB2 (x : a) (g : q) (h : a → q → p := by (intro x g; exact n1 (j x (j h0 (j h2 (j h3 (j h4 (j e0 (j e1 hTT))))))) g)) : p := h x g
theorem kN2 (h : p := by
 first
 |(refine next _ ?_ _ ⟨_, _, _, _, by (exact c1 (j h0 (j h2 (j h3 (j h4 (j e0 e1)))))), by (exact c1 (j h0 (j h2 (j h3 (j h4 (j e0 e1)))))), by (exact c1 (j h0 (j h2 (j h3 (j h4 (j e0 e1)))))), by (exact c1 (j h0 (j h2 (j h3 (j h4 (j e0 e1)))))), by (exact c1 (j h0 (j h2 (j h3 (j h4 (j e0 e1)))))), by (exact c1 (j h0 (j h2 (j h3 (j h4 (j e0 e1)))))), wM, wM, rfl⟩; exact wM)
 |fail) : p := h
theorem kA2 (h : p := by
 first
 |((refine ⟨_, _, _, rfl, by omega, by omega, _, _, _, _, _, _, _, _, _, rfl, by first | omega | (rw [bs_size]; simp; omega)⟩)) <;> exact As2
 |fail) : p := h
theorem kB2 (h : p := by
 first
 |(refine MC_scR (c121a hs' _) dC2 (by omega) (by omega) dD2 (fun r hr => ?_); obtain ⟨b, rfl, hb, hbv⟩ := hr; cases b; all_goals (first | (have hb := hb rfl) | clear hb); all_goals (refine fB2 hTT ?_; exact As2))
 |(refine MC_sc (c123 hs') dC2 (by omega) (by omega) (by first | trivial | omega | (dsimp only; omega)) dD2 (fun r at1 ln1 bad1 hat hatb hr => ?_); obtain ⟨rfl, rfl, r, n, rfl, hr1, hn1, hr0, hr9, hn0, hn4, hnl⟩ := hr; (refine fB2 hTT ?_; exact As2))
 |(refine MC_pure (c125 _) pP dD2 ?_; rintro _ rfl; (refine fB2 hTT ?_; exact As2))
 |(refine MC_sc (c124 _) dC2 (by omega) (by omega) (by first | trivial | omega | (dsimp only; omega)) dD2 (fun r at1 ln1 bad1 hat hatb hr => ?_); obtain ⟨rfl, hb1, hb2⟩ := hr; (refine fB2 hTT ?_; exact As2))
 |fail) : p := h
theorem kZ2 (h : p := by
 first
 |skip
  all_goals
   refine M_loop (fun m' s' => ∃ (q b3 : Int) (l3 : Bool) (st : Nat), s'.t 0 = .ptr 0 0 0 ∧ s'.t 2 = .ptr 1 1 0 ∧ s'.t 3 = .int .i64 (p + 1) ∧ s'.t 7 = .ptr 21012 st 0 ∧ s'.H 0 = some ⟨e, 0, [.str s, .int .i64 q, .bool sc, .bool l3, .int .i64 b3], 0⟩ ∧ s'.H 1 = some ⟨173, 1, [.int .i64 0, .str (bs []), .str (bs []), .int .u64 0, .int .i64 0, .int .i64 0, .bool false, .bool false, .bool false], 0⟩ ∧ s'.H 21012 = some ⟨173, st, [.int .i64 10, .str z, .str (bs []), .int .u64 0, .int .i64 0, .int .i64 0, .bool false, .bool false, .bool false], 0⟩ ∧ (p + 1 ≤ q) ∧ (q ≤ s.size) ∧ m' = (s.size - q).toNat) ?_ (n := _) ⟨_, _, _, _, by (exact c1 (j h0 (j h2 (j h3 (j e0 e1))))), by (exact c1 (j h0 (j h2 (j h3 (j e0 e1))))), by (exact c1 (j h0 (j h2 (j h3 (j e0 e1))))), by (exact c1 (j h0 (j h2 (j h3 (j e0 e1))))), by (exact c1 (j h0 (j h2 (j h3 (j e0 e1))))), by (exact c1 (j h0 (j h2 (j h3 (j e0 e1))))), by (exact c1 (j h0 (j h2 (j h3 (j e0 e1))))), wM, wM, rfl⟩
   rintro m' ⟨t, H, k⟩ ⟨q, b3, l3, st, h0, h2, h3, h7, e0, e1, e21012, hq0, hq1, hm⟩ next
   simp only at h0 h2 h3 h7 e0 e1 e21012
   refine n1 (j h0 (j h2 (j h3 (j h7 (j e0 (j e1 (j e21012 (j h0 (j h2 (j h3 (j e0 e1))))))))))) ?_
   open QCe7 in exact As3
  done
 |fail) : p := h
end QCe6
namespace QCe5
theorem fB1 (x : a) (g : q) (h : a → q → p := by (intro x g; exact n1 (j x hTT) g)) : p := h x g
theorem kZ1 (h : p := by
 first
 |skip
  refine M_loop (fun m' s' => ∃ (p b2 : Int) (l2 cl : Bool), s'.t 0 = .ptr 0 0 0 ∧ s'.t 2 = .ptr 1 1 0 ∧ s'.t 3 = .int .i64 (at0 + 1) ∧ s'.t 4 = .bool cl ∧ s'.H 0 = some ⟨e, 0, [.str s, .int .i64 p, .bool sc, .bool l2, .int .i64 b2], 0⟩ ∧ s'.H 1 = some ⟨173, 1, [.int .i64 0, .str (bs []), .str (bs []), .int .u64 0, .int .i64 0, .int .i64 0, .bool false, .bool false, .bool false], 0⟩ ∧ (at0 + 1 ≤ p) ∧ (p ≤ s.size) ∧ m' = (s.size - p).toNat) ?_ (n := _) ⟨_, _, _, _, by (exact c0), by (exact c0), by (exact c0), by (exact c0), by (exact c0), by (exact c0), wM, wM, rfl⟩
  rintro m' ⟨t, H, k⟩ ⟨p, b2, l2, cl, h0, h2, h3, h4, e0, e1, hq0, hq1, hm⟩ next
  simp only at h0 h2 h3 h4 e0 e1
  refine n1 (j h0 (j h2 (j h3 (j h4 (j e0 e1))))) ?_
  open QCe6 in exact As2
  done
 |fail) : p := h
end QCe5
theorem c132 {s : ByteArray} (hs : s.size ≤ 268435456) : Sc Tab X G 132 s [] (fun a => a + 1 ≤ (s.size : Int)) (fun at0 bad0 at1 bad1 r => TokR (16 * s.size + 100) r) := by
 intro e sc ln at0 bad0 h0 h1 hpre
 have hpre : at0 + 1 ≤ (s.size : Int) := hpre
 have hs' : s.size ≤ 4398046511104 := by omega
 refine Fn_of T132 (by simp) ?_
 refine n0 ?_
 open QCe5 in exact As1
end
end Go.Pi
end
