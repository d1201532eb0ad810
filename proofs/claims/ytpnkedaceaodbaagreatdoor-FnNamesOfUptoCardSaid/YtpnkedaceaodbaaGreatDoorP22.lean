import Derived.Test.YtpnkedaceaodbaaGreatDoorP06
import Derived.Test.YtpnkedaceaodbaaGreatDoorP07
import Derived.Test.YtpnkedaceaodbaaGreatDoorP08
import Derived.Test.YtpnkedaceaodbaaGreatDoorP09
import Derived.Test.YtpnkedaceaodbaaGreatDoorP14
import Derived.Test.YtpnkedaceaodbaaGreatDoorP17
import Derived.Test.YtpnkedaceaodbaaGreatDoorP18
import Derived.Test.YtpnkedaceaodbaaGreatDoorP19
import Derived.Test.YtpnkedaceaodbaaGreatDoorP20
import Derived.Test.YtpnkedaceaodbaaGreatDoorP21
/- Part of the proof. -/
set_option linter.all false
section
open Go Go.Pi
namespace Go.Pi
variable {p q a : Prop}
set_option maxRecDepth 100000
set_option maxHeartbeats 0
section
variable {X : CallF} {G : Nat → PV}
namespace QBa1
theorem fB1 (x : a) (g : q) (h : a → q → p := by (intro x g; exact n1 (j x hTT) g)) : p := h x g
theorem kA1 (h : p := by
 first
 |((refine ⟨_, _, _, _, _, _, _, _, _, rfl, by first | omega | (rw [bs_size]; simp; done) | (rw [bs_size]; simp; omega)⟩)) <;> exact As1
 |fail) : p := h
theorem kB1 (h : p := by
 first
 |(refine MC_sc (c103 hs') dC1 (by omega) (by omega) (by first | trivial | omega | (dsimp only; omega)) dD1 (fun r at1 ln1 bad1 hat hatb hr => ?_); obtain hcm := hr; (refine fB1 hTT ?_; exact As1))
 |(refine MC_sc (c104 hs _) dC1 (by omega) (by omega) (by first | trivial | omega | (dsimp only; omega)) dD1 (fun r at1 ln1 bad1 hat hatb hr => ?_); obtain ⟨k, tx, mo, nu, fr, to_, ba, bb, bc, rfl, htx⟩ := hr; (refine fB1 hTT ?_; exact As1))
 |fail) : p := h
end QBa1
theorem c80 (s : ByteArray) (goal : Int) (hs : s.size ≤ 2097152) : Pure Tab X G 80 [.str s, .int .i64 0, .int .i64 goal, .bool false] (fun r => TokR (16 * s.size + 1000) r) := by
 have hs' : s.size ≤ 4398046511104 := by omega
 refine Fn_of T80 (by simp) ?_
 refine n0 ?_
 open QBa1 in exact As1
namespace QBa2
theorem fB1 (x : a) (g : q) (h : a → q → p := by (intro x g; exact n1 (j x hTT) g)) : p := h x g
theorem kA1 (h : p := by
 first
 |((refine ⟨_, _, _, _, _, _, _, _, _, rfl, by first | omega | (rw [bs_size]; simp; done) | (rw [bs_size]; simp; omega)⟩)) <;> exact As1
 |fail) : p := h
theorem kB1 (h : p := by
 first
 |(refine MC_sc (c111 hs') dC1 (by omega) (by omega) (by first | trivial | omega | (dsimp only; omega)) dD1 (fun r at1 ln1 bad1 hat hatb hr => ?_); obtain ⟨k, tx, mo, nu, fr, to_, ba, bb, bc, rfl, htx⟩ := hr; (refine fB1 hTT ?_; exact As1))
 |fail) : p := h
end QBa2
theorem c87 (s : ByteArray) (hs : s.size ≤ 2097152) (h0 : 1 ≤ s.size) : Pure Tab X G 87 [.str s, .int .i64 0] (fun r => TokR (16 * s.size + 1000) r) := by
 have hs' : s.size ≤ 268435456 := by omega
 refine Fn_of T87 (by simp) ?_
 refine n0 ?_
 open QBa2 in exact As1
end
end Go.Pi
end
section
open Go Go.Pi
namespace Go.Pi
variable {p q a : Prop}
set_option maxRecDepth 100000
set_option maxHeartbeats 0
section
variable {X : CallF} {G : Nat → PV}
theorem nan_ord {n : Nat} (h1 : 9218868437227405312 < n) (h2 : n < 9223372036854775808) : FloatKind.f64.format.order n n = none := by
 have e1 : FloatKind.f64.format.signWeight = 9223372036854775808 := by rfl
 have e2 : FloatKind.f64.format.binade = 4503599627370496 := by rfl
 have e3 : FloatKind.f64.format.infRung = 9218868437227405312 := by rfl
 have e : FloatKind.f64.format.read n = .nan (n / 9223372036854775808 % 2 == 1) (n % 9223372036854775808 - 9218868437227405312) := by
  unfold Ieee.Format.read
  rw [e1, e2, e3]
  simp only []
  rw [if_neg (by omega), if_neg (by omega), if_neg (by omega)]
 unfold Ieee.Format.order
 rw [e]
 rfl
theorem n106 (n : Nat) : Pure Tab X G 106 [.flt .f64 n] (fun r => ∃ b, r = .bool b ∧ (9218868437227405312 < n → n < 9223372036854775808 → b = true)) := by
 refine Fn_of T106 (by simp) ?_
 refine s0 ?_
 refine ⟨_, rfl, fun h1 h2 => ?_⟩
 rw [nan_ord h1 h2]
 rfl
namespace QBb1
theorem fB1 (x : a) (g : q) (h : a → q → p := by (intro x g; exact n1 (j x (j shl_one hTT)) g)) : p := h x g
theorem kA1 (h : p := by
 first
 |(exact ⟨_, rfl, by rw [bs_size]; decide⟩) <;> exact As1
 |fail) : p := h
theorem kB1 (h : p := by
 first
 |(refine MC_pure (n106 _) pP dD1 ?_; rintro _ ⟨bn, rfl, hbn⟩; have hbn := hbn (by omega) (by omega); subst hbn; (refine fB1 hTT ?_; exact As1))
 |fail) : p := h
end QBb1
namespace QBb2
theorem fB1 (x : a) (g : q) (h : a → q → p := by (intro x g; exact n1 (j x (j shl_one hTT)) g)) : p := h x g
theorem kA1 (h : p := by
 first
 |(exact ⟨_, rfl, by rw [bs_size]; decide⟩) <;> exact As1
 |((refine ⟨_, rfl, ?_⟩; simp only [ByteArray.size_append, bs_size, List.length_cons, List.length_nil]; omega)) <;> exact As1
 |fail) : p := h
theorem kB1 (h : p := by
 first
 |(refine MC_pure (n106 _) pP dD1 ?_; rintro _ ⟨bn, rfl, hbn⟩; (refine fB1 hTT ?_; exact As1))
 |(refine MC_pure (n108 b (by omega) (by omega)) pP dD1 ?_; rintro _ ⟨z, m, rfl, hz1, hz2, hm1, hm2⟩; (refine fB1 hTT ?_; exact As1))
 |(refine MC_pure (n109 _ (by omega)) pP dD1 ?_; rintro _ ⟨z3, rfl, hz3⟩; (refine fB1 hTT ?_; exact As1))
 |(refine MC_pure (n53 _ (by omega) (by omega)) pP dD1 ?_; rintro _ ⟨z4, rfl, hz4⟩; (refine fB1 hTT ?_; exact As1))
 |((exfalso; omega)) <;> exact As1
 |fail) : p := h
end QBb2
theorem n84p (b : Int) (h0 : 0 ≤ b) (h1 : b < 9223372036854775808) : Pure Tab X G 84 [.int .u64 b] (fun r => ∃ z, r = .str z ∧ z.size ≤ 2000) := by
 refine Fn_of T84 (by simp) ?_
 refine n0 ?_
 by_cases hnan : 9218868437227405312 < b
 ·skip
  open QBb1 in exact As1
 ·skip
  open QBb2 in exact As1
end
end Go.Pi
end
section
open Go Go.Pi
namespace Go.Pi
variable {p q a : Prop}
set_option maxRecDepth 100000
set_option maxHeartbeats 0
section
variable {X : CallF} {G : Nat → PV}
namespace QBc1
theorem fB1 (x : a) (g : q) (h : a → q → p := by (intro x g; exact n1 (j x hTT) g)) : p := h x g
theorem kA1 (h : p := by
 first
 |(exact ⟨_, rfl, by rw [bs_size]; decide⟩) <;> exact As1
 |((refine ⟨_, rfl, ?_⟩; simp only [ByteArray.size_append, bs_size, List.length_cons, List.length_nil]; omega)) <;> exact As1
 |fail) : p := h
theorem kB1 (h : p := by
 first
 |(refine MC_pure (n106 _) pP dD1 ?_; rintro _ ⟨bn, rfl, hbn⟩; (refine fB1 hTT ?_; exact As1))
 |(refine MC_pure (n84p _ (by omega) (by omega)) pP dD1 ?_; rintro _ ⟨z, rfl, hz⟩; (refine fB1 hTT ?_; exact As1))
 |((exfalso; omega)) <;> exact As1
 |fail) : p := h
end QBc1
theorem n84 (b : Int) (h0 : 0 ≤ b) (h1 : b < 18446744073709551616) : Pure Tab X G 84 [.int .u64 b] (fun r => ∃ z, r = .str z ∧ z.size ≤ 2001) := by
 by_cases hb : b < 9223372036854775808
 ·obtain ⟨r, c, hf, z, rfl, hz⟩ := n84p (X := X) (G := G) b h0 hb
  exact ⟨_, c, hf, z, rfl, by omega⟩
 ·refine Fn_of T84 (by simp) ?_
  refine n0 ?_
  open QBc1 in exact As1
namespace QBc3
theorem fB2 (x : a) (g : q) (h : a → q → p := by (intro x g; exact n1 (j x (j h0 (j h3 (j h4 hTT)))) g)) : p := h x g
theorem kN2 (h : p := by
 first
 |(refine next _ ?_ _ ⟨_, _, by (exact c1 (j h0 (j h3 h4))), by (exact c1 (j h0 (j h3 h4))), by (exact c1 (j h0 (j h3 h4))), wM, wM, wM, rfl⟩; exact wM)
 |fail) : p := h
theorem kA2 (h : p := by
 first
 |(exact ⟨_, rfl⟩) <;> exact As2
 |fail) : p := h
theorem kB2 (h : p := by
 first
 |(refine MC_pure (c85 _ hs' (by omega) (by omega)) pP dD2 ?_; rintro _ ⟨r, n, rfl, hr1, hn1, hr0, hr9, hn0, hn4, hnl⟩; (refine fB2 hTT ?_; exact As2))
 |(refine MC_pure (c86 _) pP dD2 ?_; rintro _ ⟨zz, rfl, hz⟩; (refine fB2 hTT ?_; exact As2))
 |fail) : p := h
end QBc3
namespace QBc2
theorem fB1 (x : a) (g : q) (h : a → q → p := by (intro x g; exact n1 (j x hTT) g)) : p := h x g
theorem kZ1 (h : p := by
 first
 |skip
  refine M_loop (fun m' s' => ∃ (p : Int) (z : ByteArray), s'.t 0 = .str s ∧ s'.t 3 = .str z ∧ s'.t 4 = .int .i64 p ∧ (0 ≤ p) ∧ (p ≤ s.size) ∧ ((z.size : Int) ≤ 4 * p) ∧ m' = (s.size - p).toNat) ?_ (n := _) ⟨_, _, by (exact c0), by (exact c0), by (exact c0), wM, wM, wM, rfl⟩
  rintro m' ⟨t, H, k⟩ ⟨p, z, h0, h3, h4, hq0, hq1, hq2, hm⟩ next
  simp only at h0 h3 h4
  refine n1 (j h0 (j h3 h4)) ?_
  open QBc3 in exact As2
  done
 |fail) : p := h
end QBc2
theorem n57 (s : ByteArray) (hs : s.size ≤ 1099511627776) : Pure Tab X G 57 [.str s] (fun r => ∃ z, r = .str z) := by
 have hs' : s.size ≤ 4398046511104 := by omega
 refine Fn_of T57 (by simp) ?_
 refine n0 ?_
 open QBc2 in exact As1
namespace QBc4
theorem fB1 (x : a) (g : q) (h : a → q → p := by (intro x g; exact n1 (j x (j hd (j hS hTT))) g)) : p := h x g
theorem kA1 (h : p := by
 first
 |(exact ⟨_, _, rfl⟩) <;> exact As1
 |fail) : p := h
theorem kB1 (h : p := by
 first
 |(refine MC_pure (n84 _ (by have := hnum (by assumption); omega) (by have := hnum (by assumption); omega)) pP dD1 ?_; rintro _ ⟨z, rfl, hz⟩; (refine fB1 hTT ?_; exact As1))
 |(refine MC_pure (n57 _ (by first | omega | (have := hbig (by assumption); omega))) pP dD1 ?_; rintro _ ⟨z, rfl⟩; (refine fB1 hTT ?_; exact As1))
 |fail) : p := h
end QBc4
theorem n56 {c : List PV} (hc : Nd c) : Pure Tab X G 56 [.agg c] (fun r => ∃ (s : ByteArray) (b : Bool), r = .tup [.str s, .bool b]) := by
 obtain ⟨nk, nt, nm, nn, nkids, na, rfl, hN⟩ := hc.open
 have hd := hN.2.1
 have hS := hN.1
 have hnum := hc.num
 have hbig := hc.big
 refine Fn_of T56 (by simp) ?_
 refine n1 (j hd hS) ?_
 open QBc4 in exact As1
theorem neg_flt {n : Nat} (h1 : n < 18446744073709551616) : Op.negFloat .f64 n < 18446744073709551616 ∧ (9223372036854775808 ≤ n → Op.negFloat .f64 n < 9223372036854775808) := by
 unfold Op.negFloat
 have e : (2 : Nat) ^ (FloatKind.f64.format.exponentBits + FloatKind.f64.format.fractionBits) = 2 ^ 63 := by rfl
 rw [e]
 constructor
 ·exact Nat.xor_lt_two_pow (n := 64) (by omega) (by decide)
 ·intro h
  have key : n ^^^ 2 ^ 63 < 2 ^ 63 := by
   apply Nat.lt_pow_two_of_testBit
   intro i hi
   rw [Nat.testBit_xor, Nat.testBit_two_pow]
   by_cases h3 : i = 63
   ·subst h3
    rw [Nat.testBit_eq_decide_div_mod_eq]
    have : n / 2 ^ 63 % 2 = 1 := by omega
    simp [this]
   ·rw [Nat.testBit_lt_two_pow (Nat.lt_of_lt_of_le (show n < 2 ^ 64 by omega) (Nat.pow_le_pow_right (by decide) (by omega)))]
    simp
    omega
  exact key
namespace QBc5
theorem fB1 (x : a) (g : q) (h : a → q → p := by (intro x g; exact n1 (j x hTT) g)) : p := h x g
theorem kA1 (h : p := by
 first
 |((simp [NdX_agg, Nd_cells, Nd_num, NdF_nils, NdF_sl]; done)) <;> exact As1
 |(exact NdX_agg.2 ((Nd_num (by omega) (by omega)).2 (NdF_nils.2 ⟨by decide, by decide⟩))) <;> exact As1
 |fail) : p := h
theorem kB1 (h : p := by
 first
 |(refine MC_pure (r79 _) pP dD1 ?_; rintro _ rfl; (refine fB1 hTT ?_; exact As1))
 |((exfalso; omega)) <;> exact As1
 |fail) : p := h
end QBc5
theorem n51p (n : Nat) (h : n < 9223372036854775808) : Pure Tab X G 51 [.flt .f64 n] NdX := by
 refine Fn_of T51 (by simp) ?_
 refine n0 ?_
 open QBc5 in exact As1
namespace QBc6
theorem fB1 (x : a) (g : q) (h : a → q → p := by (intro x g; exact n1 (j x hTT) g)) : p := h x g
theorem kA1 (h : p := by
 first
 |((simp [NdX_agg, Nd_cells, Nd_num, NdF_nils, NdF_sl, *]; done)) <;> exact As1
 |(exact NdX_agg.2 ((Nd_num (by omega) (by omega)).2 (NdF_nils.2 ⟨by decide, by decide⟩))) <;> exact As1
 |fail) : p := h
theorem kB1 (h : p := by
 first
 |(refine MC_pure (r79 _) pP dD1 ?_; rintro _ rfl; (refine fB1 hTT ?_; exact As1))
 |(refine MC_pure (n51p _ (k2 (by omega))) pP dD1 ?_; rintro _ ⟨c, rfl, hc⟩; have hcd := hc.deep; obtain ⟨nk, nt, nm, nn, nkids, na, rfl, hN⟩ := hc.open; have hDp := hN.2.1; (refine fB1 hTT ?_; exact As1))
 |((exfalso; omega)) <;> exact As1
 |(refine n1 hDp ?_) <;> exact As1
 |fail) : p := h
end QBc6
theorem n51 (n : Nat) (h : n < 18446744073709551616) : Pure Tab X G 51 [.flt .f64 n] NdX := by
 by_cases h2 : n < 9223372036854775808
 ·exact n51p n h2
 ·obtain ⟨k1, k2⟩ := neg_flt h
  refine Fn_of T51 (by simp) ?_
  refine n0 ?_
  open QBc6 in exact As1
end
end Go.Pi
end
section
open Go Go.Pi
namespace Go.Pi
variable {p q a : Prop}
set_option maxRecDepth 100000
set_option maxHeartbeats 0
section
variable {X : CallF} {G : Nat → PV}
namespace QBd1
theorem fB1 (x : a) (g : q) (h : a → q → p := by (intro x g; exact n1 (j x hTT) g)) : p := h x g
theorem kA1 (h : p := by
 first
 |(exact ⟨_, rfl⟩) <;> exact As1
 |fail) : p := h
end QBd1
theorem n70 (s : ByteArray) (i : Int) (hs : s.size ≤ 1099511627776) (h0 : 0 ≤ i) (h1 : 2 * i + 1 < s.size) : Pure Tab X G 70 [.str s, .int .i64 i] (fun r => ∃ n, r = .int .i64 n) := by
 refine Fn_of T70 (by simp) ?_
 refine n0 ?_
 open QBd1 in exact As1
namespace QBd3
theorem fB2 (x : a) (g : q) (h : a → q → p := by (intro x g; exact n1 (j x (j h0 (j h4 (j h5 (j h6 (j htd hTT)))))) g)) : p := h x g
theorem kN2 (h : p := by
 first
 |(refine next _ ?_ _ ⟨_, _, by (exact c1 (j h0 (j h4 (j h5 (j h6 htd))))), by (exact c1 (j h0 (j h4 (j h5 (j h6 htd))))), by (exact c1 (j h0 (j h4 (j h5 (j h6 htd))))), by (exact c1 (j h0 (j h4 (j h5 (j h6 htd))))), wM, wM, wM, rfl⟩; exact wM)
 |fail) : p := h
theorem kA2 (h : p := by
 first
 |(exact ⟨_, _, rfl, by first | omega | (rw [bs_size]; decide)⟩) <;> exact As2
 |fail) : p := h
theorem kB2 (h : p := by
 first
 |(refine MC_pure (n70 s _ (by omega) (by omega) (by omega)) pP dD2 ?_; rintro _ ⟨n, rfl⟩; (refine fB2 hTT ?_; exact As2))
 |(refine MC_pure (c71 _) pP dD2 ?_; rintro _ ⟨zz, rfl, hzz⟩; (refine fB2 hTT ?_; exact As2))
 |fail) : p := h
end QBd3
namespace QBd2
theorem fB1 (x : a) (g : q) (h : a → q → p := by (intro x g; exact n1 (j x (j htd hTT)) g)) : p := h x g
theorem kZ1 (h : p := by
 first
 |skip
  refine M_loop (fun m' s' => ∃ (i : Int) (z : ByteArray), s'.t 0 = .str s ∧ s'.t 4 = .str z ∧ s'.t 5 = .int .i64 (s.size / 2) ∧ s'.t 6 = .int .i64 i ∧ (0 ≤ i) ∧ ((z.size : Int) ≤ 4 * i) ∧ (i ≤ s.size) ∧ m' = (s.size / 2 - i).toNat) ?_ (n := _) ⟨_, _, by (exact c1 htd), by (exact c1 htd), by (exact c1 htd), by (exact c1 htd), wM, wM, wM, rfl⟩
  rintro m' ⟨t, H, k⟩ ⟨i, z, h0, h4, h5, h6, hq0, hq1, hq2, hm⟩ next
  simp only at h0 h4 h5 h6
  refine n1 (j h0 (j h4 (j h5 (j h6 htd)))) ?_
  open QBd3 in exact As2
  done
 |fail) : p := h
end QBd2
theorem n41 (s : ByteArray) (hs : s.size ≤ 2097152) : Pure Tab X G 41 [.str s] (fun r => ∃ (s : ByteArray) (b : Bool), r = .tup [.str s, .bool b] ∧ s.size ≤ 1099511627776) := by
 have htd : (s.size : Int).tdiv 2 = (s.size : Int) / 2 := Int.tdiv_eq_ediv_of_nonneg (by omega)
 refine Fn_of T41 (by simp) ?_
 refine n0 ?_
 open QBd2 in exact As1
namespace QBd5
theorem fB2 (x : a) (g : q) (h : a → q → p := by (intro x g; exact n1 (j x (j h0 (j h3 hTT))) g)) : p := h x g
theorem kN2 (h : p := by
 first
 |(refine next _ ?_ _ ⟨_, by (exact c1 (j h0 h3)), by (exact c1 (j h0 h3)), wM, wM, rfl⟩; exact wM)
 |fail) : p := h
theorem kA2 (h : p := by
 first
 |(exact ⟨_, rfl⟩) <;> exact As2
 |fail) : p := h
end QBd5
namespace QBd4
theorem fB1 (x : a) (g : q) (h : a → q → p := by (intro x g; exact n1 (j x hTT) g)) : p := h x g
theorem kZ1 (h : p := by
 first
 |skip
  refine M_loop (fun m' s' => ∃ (i : Int), s'.t 0 = .str s ∧ s'.t 3 = .int .i64 i ∧ (0 ≤ i) ∧ (i ≤ s.size) ∧ m' = (s.size - i).toNat) ?_ (n := _) ⟨_, by (exact c0), by (exact c0), wM, wM, rfl⟩
  rintro m' ⟨t, H, k⟩ ⟨i, h0, h3, hq0, hq1, hm⟩ next
  simp only at h0 h3
  refine n1 (j h0 h3) ?_
  open QBd5 in exact As2
  done
 |fail) : p := h
end QBd4
theorem n43 (s : ByteArray) (hs : s.size ≤ 1099511627776) : Pure Tab X G 43 [.str s] (fun r => ∃ b : Bool, r = .bool b) := by
 refine Fn_of T43 (by simp) ?_
 refine n0 ?_
 open QBd4 in exact As1
namespace QBd7
theorem fB2 (x : a) (g : q) (h : a → q → p := by (intro x g; exact n1 (j x (j h0 (j h3 (j hS (j hLn hTT))))) g)) : p := h x g
theorem kN2 (h : p := by
 first
 |(refine next _ ?_ _ ⟨_, by (exact c1 (j h0 (j h3 (j hS hLn)))), by (exact c1 (j h0 (j h3 (j hS hLn)))), wM, wM, rfl⟩; exact wM)
 |fail) : p := h
theorem kA2 (h : p := by
 first
 |(exact ⟨_, rfl⟩) <;> exact As2
 |fail) : p := h
theorem kB2 (h : p := by
 first
 |((refine MIX_N hF (by omega) (by omega) (fun y hy hmem hg => ?_); obtain ⟨nk, nt, nm, nn, nkids, na, rfl, hN⟩ := hy.open; refine n1 (j h0 (j h3 (j hS (j hLn (j hN.1 hN.2.1))))) ?_)) <;> exact As2
 |fail) : p := h
end QBd7
namespace QBd6
theorem fB1 (x : a) (g : q) (h : a → q → p := by (intro x g; exact n1 (j x (j hS (j hDp (j hLn hTT)))) g)) : p := h x g
theorem kZ1 (h : p := by
 first
 |skip
  refine M_loop (fun m' s' => ∃ (i : Int), s'.t 0 = v ∧ s'.t 3 = .int .i64 i ∧ (0 ≤ i) ∧ (i ≤ n) ∧ m' = (n - i).toNat) ?_ (n := _) ⟨_, by (exact c1 (j hS hLn)), by (exact c1 (j hS hLn)), wM, wM, rfl⟩
  rintro m' ⟨t, H, k⟩ ⟨i, h0, h3, hq0, hq1, hm⟩ next
  simp only at h0 h3
  refine n1 (j h0 (j h3 (j hS hLn))) ?_
  open QBd7 in exact As2
  done
 |fail) : p := h
end QBd6
theorem n73 {n : Nat} {v : PV} (h : NdL n v) (hn : n ≤ 4194304) : Pure Tab X G 73 [v] (fun r => ∃ b : Bool, r = .bool b) := by
 obtain ⟨hS, hDp, hLn, hMem⟩ := h
 have hF : NdF 0 v := ⟨hS, hDp, by omega, hMem, fun h => absurd h (by omega)⟩
 refine Fn_of T73 (by simp) ?_
 refine n1 (j hS (j hDp hLn)) ?_
 open QBd6 in exact As1
noncomputable def intF (X : CallF) (G : Nat → PV) (n : Int) : ByteArray := by
 classical exact if h : ∃ z : ByteArray, z.size ≤ 12 ∧ Pure Tab X G 53 [.int .i64 n] (fun r => r = .str z) then h.choose else bs []
theorem intF_size (n : Int) : (intF X G n).size ≤ 1000 := by
 unfold intF
 split
 ·rename_i h; have := h.choose_spec.1; omega
 ·rw [bs_size]; simp
theorem n53F (n : Int) (h0 : 0 ≤ n) (h1 : n < 1000) : Pure Tab X G 53 [.int .i64 n] (fun r => r = .str (intF X G n)) := by
 have h : ∃ z : ByteArray, z.size ≤ 12 ∧ Pure Tab X G 53 [.int .i64 n] (fun r => r = .str z) := by
  obtain ⟨r, c, hf, z, rfl, hz⟩ := n53 (X := X) (G := G) n (by omega) (by omega)
  exact ⟨z, hz, _, c, hf, rfl⟩
 unfold intF
 rw [dif_pos h]
 exact h.choose_spec.2
end
end Go.Pi
end
section
open Go Go.Pi
namespace Go.Pi
variable {p q a : Prop}
set_option maxRecDepth 100000
set_option maxHeartbeats 0
section
variable {X : CallF} {G : Nat → PV}
def U8L (ys : List (List PV)) : Prop := ∀ y, y ∈ ys → ∃ n : Int, y = [.int .u8 n] ∧ 0 ≤ n ∧ n < 256
theorem U8L.nil : U8L [] := fun y hy => absurd hy (by simp)
theorem U8L.app {ys : List (List PV)} {a b : Int} (h : U8L ys) : U8L (ys ++ [[.int .u8 (IntKind.wrap .u8 a)], [.int .u8 (IntKind.wrap .u8 b)]]) := by
 intro y hy
 simp only [List.mem_append, List.mem_cons, List.not_mem_nil, or_false] at hy
 rcases hy with hy | rfl | rfl
 ·exact h y hy
 ·exact ⟨_, rfl, (wrap_u8 _).1, (wrap_u8 _).2⟩
 ·exact ⟨_, rfl, (wrap_u8 _).1, (wrap_u8 _).2⟩
theorem U8L.flat {ys : List (List PV)} (h : U8L ys) : U8s ys.flatten ∧ ys.flatten.length = ys.length := by
 constructor
 ·intro c hc
  obtain ⟨y, hy, hcy⟩ := List.mem_flatten.1 hc
  obtain ⟨n, rfl, h0, h1⟩ := h y hy
  simp only [List.mem_singleton] at hcy
  exact ⟨n, hcy, h0, h1⟩
 ·have := flatten_len (s := 1) (zs := ys) fun y hy => by obtain ⟨n, rfl, _⟩ := h y hy; rfl
  omega
theorem Grow.none {H : Heap} {A : List Nat} {e s id st : Nat} (hA : id ∈ A) (hH : H id = some ⟨e, st, [], s⟩) : Grow A H e s (.row id st 0) [] := ⟨fun y hy => absurd hy (by simp), .inr ⟨id, st, hA, rfl, hH⟩⟩
theorem elems_grow {H : Heap} {A : List Nat} {e : Nat} {g : PV} {ys : List (List PV)} (h : Grow A H e 1 g ys) (hu : U8L ys) : elemsOf H 1 g = some (ys.length, ys.flatten) := by
 have hl := hu.flat.2
 rcases h.2 with ⟨rfl, rfl⟩ | ⟨id, st, _, rfl, hH⟩
 ·rfl
 ·simp only [elemsOf, hH]
  rw [if_pos ⟨trivial, by omega⟩, List.take_of_length_le (by omega)]
namespace QBe3
theorem fB3 (x : a) (g : q) (h : a → Nx p q := by (intro x; simp only [x, h3, h10, h11, h12, hv, hd, List.replicate_zero, List.flatten_nil, hTT, go_sem, Nat.reduceEqDiff, Nat.reduceAdd, Nat.reduceLeDiff, Nat.reduceLT, Nat.reduceMul, Nat.reduceSub, reduceIte, reduceCtorEq, Int.reduceEq, Int.reduceLT, Int.reduceLE, Nat.reduceBEq, Int.reduceToNat, M_block]; exact Nx.r)) : p := h x g
theorem kN3 (h : p := by
 first
 |(refine next _ ?_ _ ⟨_, _, _, by (first | (simp only [h3, h10, h11, h12, hv, hd, List.replicate_zero, List.flatten_nil, go_sem, Nat.reduceEqDiff, Nat.reduceAdd, Nat.reduceLeDiff, Nat.reduceLT, Nat.reduceMul, Nat.reduceSub, reduceIte, reduceCtorEq, Int.reduceEq, Int.reduceLT, Int.reduceLE, Nat.reduceBEq, Int.reduceToNat, M_block]; done) | (simp only [h3, h10, h11, h12, hv, hd, List.replicate_zero, List.flatten_nil, go_sem, Nat.reduceEqDiff, Nat.reduceAdd, Nat.reduceLeDiff, Nat.reduceLT, Nat.reduceMul, Nat.reduceSub, reduceIte, reduceCtorEq, Int.reduceEq, Int.reduceLT, Int.reduceLE, Nat.reduceBEq, Int.reduceToNat, M_block]; rfl) | rfl), by (first | (simp only [h3, h10, h11, h12, hv, hd, List.replicate_zero, List.flatten_nil, go_sem, Nat.reduceEqDiff, Nat.reduceAdd, Nat.reduceLeDiff, Nat.reduceLT, Nat.reduceMul, Nat.reduceSub, reduceIte, reduceCtorEq, Int.reduceEq, Int.reduceLT, Int.reduceLE, Nat.reduceBEq, Int.reduceToNat, M_block]; done) | (simp only [h3, h10, h11, h12, hv, hd, List.replicate_zero, List.flatten_nil, go_sem, Nat.reduceEqDiff, Nat.reduceAdd, Nat.reduceLeDiff, Nat.reduceLT, Nat.reduceMul, Nat.reduceSub, reduceIte, reduceCtorEq, Int.reduceEq, Int.reduceLT, Int.reduceLE, Nat.reduceBEq, Int.reduceToNat, M_block]; rfl) | rfl), by (first | (simp only [h3, h10, h11, h12, hv, hd, List.replicate_zero, List.flatten_nil, go_sem, Nat.reduceEqDiff, Nat.reduceAdd, Nat.reduceLeDiff, Nat.reduceLT, Nat.reduceMul, Nat.reduceSub, reduceIte, reduceCtorEq, Int.reduceEq, Int.reduceLT, Int.reduceLE, Nat.reduceBEq, Int.reduceToNat, M_block]; done) | (simp only [h3, h10, h11, h12, hv, hd, List.replicate_zero, List.flatten_nil, go_sem, Nat.reduceEqDiff, Nat.reduceAdd, Nat.reduceLeDiff, Nat.reduceLT, Nat.reduceMul, Nat.reduceSub, reduceIte, reduceCtorEq, Int.reduceEq, Int.reduceLT, Int.reduceLE, Nat.reduceBEq, Int.reduceToNat, M_block]; rfl) | rfl), by (first | (simp only [h3, h10, h11, h12, hv, hd, List.replicate_zero, List.flatten_nil, go_sem, Nat.reduceEqDiff, Nat.reduceAdd, Nat.reduceLeDiff, Nat.reduceLT, Nat.reduceMul, Nat.reduceSub, reduceIte, reduceCtorEq, Int.reduceEq, Int.reduceLT, Int.reduceLE, Nat.reduceBEq, Int.reduceToNat, M_block]; done) | (simp only [h3, h10, h11, h12, hv, hd, List.replicate_zero, List.flatten_nil, go_sem, Nat.reduceEqDiff, Nat.reduceAdd, Nat.reduceLeDiff, Nat.reduceLT, Nat.reduceMul, Nat.reduceSub, reduceIte, reduceCtorEq, Int.reduceEq, Int.reduceLT, Int.reduceLE, Nat.reduceBEq, Int.reduceToNat, M_block]; rfl) | rfl), by (first | exact wM | exact Grow.none (by simp) (by first | (simp only [List.replicate_zero, List.flatten_nil, go_sem, Nat.reduceEqDiff, Nat.reduceAdd, Nat.reduceLeDiff, Nat.reduceLT, Nat.reduceMul, Nat.reduceSub, reduceIte, reduceCtorEq, Int.reduceEq, Int.reduceLT, Int.reduceLE, Nat.reduceBEq, Int.reduceToNat, M_block]; done) | (simp only [List.replicate_zero, List.flatten_nil, go_sem, Nat.reduceEqDiff, Nat.reduceAdd, Nat.reduceLeDiff, Nat.reduceLT, Nat.reduceMul, Nat.reduceSub, reduceIte, reduceCtorEq, Int.reduceEq, Int.reduceLT, Int.reduceLE, Nat.reduceBEq, Int.reduceToNat, M_block]; rfl) | rfl) | exact U8L.nil | exact hq4.app | (simp; done) | (simp only [List.length_append, List.length_cons, List.length_nil]; omega)), by (first | exact wM | exact Grow.none (by simp) (by first | (simp only [List.replicate_zero, List.flatten_nil, go_sem, Nat.reduceEqDiff, Nat.reduceAdd, Nat.reduceLeDiff, Nat.reduceLT, Nat.reduceMul, Nat.reduceSub, reduceIte, reduceCtorEq, Int.reduceEq, Int.reduceLT, Int.reduceLE, Nat.reduceBEq, Int.reduceToNat, M_block]; done) | (simp only [List.replicate_zero, List.flatten_nil, go_sem, Nat.reduceEqDiff, Nat.reduceAdd, Nat.reduceLeDiff, Nat.reduceLT, Nat.reduceMul, Nat.reduceSub, reduceIte, reduceCtorEq, Int.reduceEq, Int.reduceLT, Int.reduceLE, Nat.reduceBEq, Int.reduceToNat, M_block]; rfl) | rfl) | exact U8L.nil | exact hq4.app | (simp; done) | (simp only [List.length_append, List.length_cons, List.length_nil]; omega)), by (first | exact wM | exact Grow.none (by simp) (by first | (simp only [List.replicate_zero, List.flatten_nil, go_sem, Nat.reduceEqDiff, Nat.reduceAdd, Nat.reduceLeDiff, Nat.reduceLT, Nat.reduceMul, Nat.reduceSub, reduceIte, reduceCtorEq, Int.reduceEq, Int.reduceLT, Int.reduceLE, Nat.reduceBEq, Int.reduceToNat, M_block]; done) | (simp only [List.replicate_zero, List.flatten_nil, go_sem, Nat.reduceEqDiff, Nat.reduceAdd, Nat.reduceLeDiff, Nat.reduceLT, Nat.reduceMul, Nat.reduceSub, reduceIte, reduceCtorEq, Int.reduceEq, Int.reduceLT, Int.reduceLE, Nat.reduceBEq, Int.reduceToNat, M_block]; rfl) | rfl) | exact U8L.nil | exact hq4.app | (simp; done) | (simp only [List.length_append, List.length_cons, List.length_nil]; omega)), by (first | exact wM | exact Grow.none (by simp) (by first | (simp only [List.replicate_zero, List.flatten_nil, go_sem, Nat.reduceEqDiff, Nat.reduceAdd, Nat.reduceLeDiff, Nat.reduceLT, Nat.reduceMul, Nat.reduceSub, reduceIte, reduceCtorEq, Int.reduceEq, Int.reduceLT, Int.reduceLE, Nat.reduceBEq, Int.reduceToNat, M_block]; done) | (simp only [List.replicate_zero, List.flatten_nil, go_sem, Nat.reduceEqDiff, Nat.reduceAdd, Nat.reduceLeDiff, Nat.reduceLT, Nat.reduceMul, Nat.reduceSub, reduceIte, reduceCtorEq, Int.reduceEq, Int.reduceLT, Int.reduceLE, Nat.reduceBEq, Int.reduceToNat, M_block]; rfl) | rfl) | exact U8L.nil | exact hq4.app | (simp; done) | (simp only [List.length_append, List.length_cons, List.length_nil]; omega)), by (first | exact wM | exact Grow.none (by simp) (by first | (simp only [List.replicate_zero, List.flatten_nil, go_sem, Nat.reduceEqDiff, Nat.reduceAdd, Nat.reduceLeDiff, Nat.reduceLT, Nat.reduceMul, Nat.reduceSub, reduceIte, reduceCtorEq, Int.reduceEq, Int.reduceLT, Int.reduceLE, Nat.reduceBEq, Int.reduceToNat, M_block]; done) | (simp only [List.replicate_zero, List.flatten_nil, go_sem, Nat.reduceEqDiff, Nat.reduceAdd, Nat.reduceLeDiff, Nat.reduceLT, Nat.reduceMul, Nat.reduceSub, reduceIte, reduceCtorEq, Int.reduceEq, Int.reduceLT, Int.reduceLE, Nat.reduceBEq, Int.reduceToNat, M_block]; rfl) | rfl) | exact U8L.nil | exact hq4.app | (simp; done) | (simp only [List.length_append, List.length_cons, List.length_nil]; omega)), rfl⟩; (first | exact wM | exact Grow.none (by simp) (by first | (simp only [List.replicate_zero, List.flatten_nil, go_sem, Nat.reduceEqDiff, Nat.reduceAdd, Nat.reduceLeDiff, Nat.reduceLT, Nat.reduceMul, Nat.reduceSub, reduceIte, reduceCtorEq, Int.reduceEq, Int.reduceLT, Int.reduceLE, Nat.reduceBEq, Int.reduceToNat, M_block]; done) | (simp only [List.replicate_zero, List.flatten_nil, go_sem, Nat.reduceEqDiff, Nat.reduceAdd, Nat.reduceLeDiff, Nat.reduceLT, Nat.reduceMul, Nat.reduceSub, reduceIte, reduceCtorEq, Int.reduceEq, Int.reduceLT, Int.reduceLE, Nat.reduceBEq, Int.reduceToNat, M_block]; rfl) | rfl) | exact U8L.nil | exact hq4.app | (simp; done) | (simp only [List.length_append, List.length_cons, List.length_nil]; omega)))
 |fail) : p := h
end QBe3
namespace QBe2
theorem fB2 (x : a) (g : q) (h : a → Nx p q := by (intro x; simp only [x, h3, h10, h11, h12, hv, hd, List.replicate_zero, List.flatten_nil, hTT, go_sem, Nat.reduceEqDiff, Nat.reduceAdd, Nat.reduceLeDiff, Nat.reduceLT, Nat.reduceMul, Nat.reduceSub, reduceIte, reduceCtorEq, Int.reduceEq, Int.reduceLT, Int.reduceLE, Nat.reduceBEq, Int.reduceToNat, M_block]; exact Nx.r)) : p := h x g
theorem kB2 (h : p := by
 first
 |((refine MIX_S (P := fun y => ∃ n : Int, y = [.int .u16 n] ∧ 0 ≤ n ∧ n < 65536) (fun h => by obtain ⟨n, rfl, _⟩ := h; rfl) lv (by omega) (by omega) (fun y hy hmem hg => ?_); obtain ⟨yn, rfl, hy0, hy1⟩ := hy; simp only [h3, h10, h11, h12, hv, hd, List.replicate_zero, List.flatten_nil, go_sem, Nat.reduceEqDiff, Nat.reduceAdd, Nat.reduceLeDiff, Nat.reduceLT, Nat.reduceMul, Nat.reduceSub, reduceIte, reduceCtorEq, Int.reduceEq, Int.reduceLT, Int.reduceLE, Nat.reduceBEq, Int.reduceToNat, M_block])) <;> exact As2
 |fail) : p := h
theorem y2_0 (h : p := by
 first
 |skip
  refine M_app_sl (A := [1004, 5008]) (ids := [5007]) (by simp only [h3, h10, h11, h12, hv, hd, List.replicate_zero, List.flatten_nil, go_sem, Nat.reduceEqDiff, Nat.reduceAdd, Nat.reduceLeDiff, Nat.reduceLT, Nat.reduceMul, Nat.reduceSub, reduceIte, reduceCtorEq, Int.reduceEq, Int.reduceLT, Int.reduceLE, Nat.reduceBEq, Int.reduceToNat, M_block]; rfl) (by simp only [h3, h10, h11, h12, hv, hd, List.replicate_zero, List.flatten_nil, go_sem, Nat.reduceEqDiff, Nat.reduceAdd, Nat.reduceLeDiff, Nat.reduceLT, Nat.reduceMul, Nat.reduceSub, reduceIte, reduceCtorEq, Int.reduceEq, Int.reduceLT, Int.reduceLE, Nat.reduceBEq, Int.reduceToNat, M_block]; exact hq0.frame (by intro b hb; simp only [List.mem_cons, List.not_mem_nil, or_false] at hb; rcases hb with rfl | rfl <;> exact c0)) (by simp) (by intro b hb; simp at hb ⊢; omega) (by intro z hz; simp only [List.mem_cons, List.not_mem_nil, or_false] at hz; rcases hz with rfl | rfl <;> exact ⟨rfl, rfl⟩) (by simp) (by simp only [List.length_cons, List.length_nil]; omega) ?_
  intro v' H' tr' hgr hf htr
  have := htr rfl
  subst this
  simp only [h3, h10, h11, h12, hv, hd, List.replicate_zero, List.flatten_nil, go_sem, Nat.reduceEqDiff, Nat.reduceAdd, Nat.reduceLeDiff, Nat.reduceLT, Nat.reduceMul, Nat.reduceSub, reduceIte, reduceCtorEq, Int.reduceEq, Int.reduceLT, Int.reduceLE, Nat.reduceBEq, Int.reduceToNat, M_block]
  open QBe3 in exact As3
  done
 |fail) : p := h
theorem y2_1 (h : p := by
 first
 |skip
  obtain ⟨l, hl1, hl2⟩ := bytesOf_U8s hq4.flat.1
  have he : elemsOf H 1 g = some (ys.length, ys.flatten) := elems_grow hq0 hq4
  have hfl := hq4.flat.2
  rcases hq0.2 with ⟨hy0, hg0⟩ | ⟨id0, st0, _, hg0, _⟩
  ·subst hg0
   simp only [he, hl1]
   simp only [Option.map_some, go_sem, Nat.reduceEqDiff, Nat.reduceAdd, Nat.reduceLeDiff, Nat.reduceLT, Nat.reduceMul, Nat.reduceSub, reduceIte, reduceCtorEq, Int.reduceEq, Int.reduceLT, Int.reduceLE, Nat.reduceBEq, Int.reduceToNat, M_block]
   exact ⟨_, rfl, by simp only [ByteArray.size, List.size_toArray]; omega⟩
  ·subst hg0
   simp only [he, hl1]
   simp only [Option.map_some, go_sem, Nat.reduceEqDiff, Nat.reduceAdd, Nat.reduceLeDiff, Nat.reduceLT, Nat.reduceMul, Nat.reduceSub, reduceIte, reduceCtorEq, Int.reduceEq, Int.reduceLT, Int.reduceLE, Nat.reduceBEq, Int.reduceToNat, M_block]
   exact ⟨_, rfl, by simp only [ByteArray.size, List.size_toArray]; omega⟩
  done
 |fail) : p := h
theorem kZ2 (h : p := by
 first
 |skip
  all_goals first
  |exact y2_0
  |exact y2_1
  |fail
  done
 |fail) : p := h
end QBe2
namespace QBe1
theorem fB1 (x : a) (g : q) (h : a → Nx p q := by (intro x; simp only [x, hv, hd, List.replicate_zero, List.flatten_nil, hTT, go_sem, Nat.reduceEqDiff, Nat.reduceAdd, Nat.reduceLeDiff, Nat.reduceLT, Nat.reduceMul, Nat.reduceSub, reduceIte, reduceCtorEq, Int.reduceEq, Int.reduceLT, Int.reduceLE, Nat.reduceBEq, Int.reduceToNat, M_block]; exact Nx.r)) : p := h x g
theorem kZ1 (h : p := by
 first
 |skip
  refine M_loop (fun m' s' => ∃ (i : Int) (g : PV) (ys : List (List PV)), s'.t 3 = g ∧ s'.t 10 = v ∧ s'.t 11 = .int .i64 (els v).length ∧ s'.t 12 = .int .i64 i ∧ (Grow [1004, 5008] s'.H 5 1 g ys) ∧ (0 ≤ i) ∧ (i ≤ (els v).length) ∧ (ys.length = 2 * i.toNat) ∧ (U8L ys) ∧ m' = ((els v).length - i).toNat) ?_ (n := _) ⟨0, _, [], by (first | (simp only [hv, hd, List.replicate_zero, List.flatten_nil, go_sem, Nat.reduceEqDiff, Nat.reduceAdd, Nat.reduceLeDiff, Nat.reduceLT, Nat.reduceMul, Nat.reduceSub, reduceIte, reduceCtorEq, Int.reduceEq, Int.reduceLT, Int.reduceLE, Nat.reduceBEq, Int.reduceToNat, M_block]; done) | (simp only [hv, hd, List.replicate_zero, List.flatten_nil, go_sem, Nat.reduceEqDiff, Nat.reduceAdd, Nat.reduceLeDiff, Nat.reduceLT, Nat.reduceMul, Nat.reduceSub, reduceIte, reduceCtorEq, Int.reduceEq, Int.reduceLT, Int.reduceLE, Nat.reduceBEq, Int.reduceToNat, M_block]; rfl) | rfl), by (first | (simp only [hv, hd, List.replicate_zero, List.flatten_nil, go_sem, Nat.reduceEqDiff, Nat.reduceAdd, Nat.reduceLeDiff, Nat.reduceLT, Nat.reduceMul, Nat.reduceSub, reduceIte, reduceCtorEq, Int.reduceEq, Int.reduceLT, Int.reduceLE, Nat.reduceBEq, Int.reduceToNat, M_block]; done) | (simp only [hv, hd, List.replicate_zero, List.flatten_nil, go_sem, Nat.reduceEqDiff, Nat.reduceAdd, Nat.reduceLeDiff, Nat.reduceLT, Nat.reduceMul, Nat.reduceSub, reduceIte, reduceCtorEq, Int.reduceEq, Int.reduceLT, Int.reduceLE, Nat.reduceBEq, Int.reduceToNat, M_block]; rfl) | rfl), by (first | (simp only [hv, hd, List.replicate_zero, List.flatten_nil, go_sem, Nat.reduceEqDiff, Nat.reduceAdd, Nat.reduceLeDiff, Nat.reduceLT, Nat.reduceMul, Nat.reduceSub, reduceIte, reduceCtorEq, Int.reduceEq, Int.reduceLT, Int.reduceLE, Nat.reduceBEq, Int.reduceToNat, M_block]; done) | (simp only [hv, hd, List.replicate_zero, List.flatten_nil, go_sem, Nat.reduceEqDiff, Nat.reduceAdd, Nat.reduceLeDiff, Nat.reduceLT, Nat.reduceMul, Nat.reduceSub, reduceIte, reduceCtorEq, Int.reduceEq, Int.reduceLT, Int.reduceLE, Nat.reduceBEq, Int.reduceToNat, M_block]; rfl) | rfl), by (first | (simp only [hv, hd, List.replicate_zero, List.flatten_nil, go_sem, Nat.reduceEqDiff, Nat.reduceAdd, Nat.reduceLeDiff, Nat.reduceLT, Nat.reduceMul, Nat.reduceSub, reduceIte, reduceCtorEq, Int.reduceEq, Int.reduceLT, Int.reduceLE, Nat.reduceBEq, Int.reduceToNat, M_block]; done) | (simp only [hv, hd, List.replicate_zero, List.flatten_nil, go_sem, Nat.reduceEqDiff, Nat.reduceAdd, Nat.reduceLeDiff, Nat.reduceLT, Nat.reduceMul, Nat.reduceSub, reduceIte, reduceCtorEq, Int.reduceEq, Int.reduceLT, Int.reduceLE, Nat.reduceBEq, Int.reduceToNat, M_block]; rfl) | rfl), by (first | exact wM | exact Grow.none (by simp) (by first | (simp only [List.replicate_zero, List.flatten_nil, go_sem, Nat.reduceEqDiff, Nat.reduceAdd, Nat.reduceLeDiff, Nat.reduceLT, Nat.reduceMul, Nat.reduceSub, reduceIte, reduceCtorEq, Int.reduceEq, Int.reduceLT, Int.reduceLE, Nat.reduceBEq, Int.reduceToNat, M_block]; done) | (simp only [List.replicate_zero, List.flatten_nil, go_sem, Nat.reduceEqDiff, Nat.reduceAdd, Nat.reduceLeDiff, Nat.reduceLT, Nat.reduceMul, Nat.reduceSub, reduceIte, reduceCtorEq, Int.reduceEq, Int.reduceLT, Int.reduceLE, Nat.reduceBEq, Int.reduceToNat, M_block]; rfl) | rfl) | exact U8L.nil | exact hq4.app | (simp; done) | (simp only [List.length_append, List.length_cons, List.length_nil]; omega)), by (first | exact wM | exact Grow.none (by simp) (by first | (simp only [List.replicate_zero, List.flatten_nil, go_sem, Nat.reduceEqDiff, Nat.reduceAdd, Nat.reduceLeDiff, Nat.reduceLT, Nat.reduceMul, Nat.reduceSub, reduceIte, reduceCtorEq, Int.reduceEq, Int.reduceLT, Int.reduceLE, Nat.reduceBEq, Int.reduceToNat, M_block]; done) | (simp only [List.replicate_zero, List.flatten_nil, go_sem, Nat.reduceEqDiff, Nat.reduceAdd, Nat.reduceLeDiff, Nat.reduceLT, Nat.reduceMul, Nat.reduceSub, reduceIte, reduceCtorEq, Int.reduceEq, Int.reduceLT, Int.reduceLE, Nat.reduceBEq, Int.reduceToNat, M_block]; rfl) | rfl) | exact U8L.nil | exact hq4.app | (simp; done) | (simp only [List.length_append, List.length_cons, List.length_nil]; omega)), by (first | exact wM | exact Grow.none (by simp) (by first | (simp only [List.replicate_zero, List.flatten_nil, go_sem, Nat.reduceEqDiff, Nat.reduceAdd, Nat.reduceLeDiff, Nat.reduceLT, Nat.reduceMul, Nat.reduceSub, reduceIte, reduceCtorEq, Int.reduceEq, Int.reduceLT, Int.reduceLE, Nat.reduceBEq, Int.reduceToNat, M_block]; done) | (simp only [List.replicate_zero, List.flatten_nil, go_sem, Nat.reduceEqDiff, Nat.reduceAdd, Nat.reduceLeDiff, Nat.reduceLT, Nat.reduceMul, Nat.reduceSub, reduceIte, reduceCtorEq, Int.reduceEq, Int.reduceLT, Int.reduceLE, Nat.reduceBEq, Int.reduceToNat, M_block]; rfl) | rfl) | exact U8L.nil | exact hq4.app | (simp; done) | (simp only [List.length_append, List.length_cons, List.length_nil]; omega)), by (first | exact wM | exact Grow.none (by simp) (by first | (simp only [List.replicate_zero, List.flatten_nil, go_sem, Nat.reduceEqDiff, Nat.reduceAdd, Nat.reduceLeDiff, Nat.reduceLT, Nat.reduceMul, Nat.reduceSub, reduceIte, reduceCtorEq, Int.reduceEq, Int.reduceLT, Int.reduceLE, Nat.reduceBEq, Int.reduceToNat, M_block]; done) | (simp only [List.replicate_zero, List.flatten_nil, go_sem, Nat.reduceEqDiff, Nat.reduceAdd, Nat.reduceLeDiff, Nat.reduceLT, Nat.reduceMul, Nat.reduceSub, reduceIte, reduceCtorEq, Int.reduceEq, Int.reduceLT, Int.reduceLE, Nat.reduceBEq, Int.reduceToNat, M_block]; rfl) | rfl) | exact U8L.nil | exact hq4.app | (simp; done) | (simp only [List.length_append, List.length_cons, List.length_nil]; omega)), by (first | exact wM | exact Grow.none (by simp) (by first | (simp only [List.replicate_zero, List.flatten_nil, go_sem, Nat.reduceEqDiff, Nat.reduceAdd, Nat.reduceLeDiff, Nat.reduceLT, Nat.reduceMul, Nat.reduceSub, reduceIte, reduceCtorEq, Int.reduceEq, Int.reduceLT, Int.reduceLE, Nat.reduceBEq, Int.reduceToNat, M_block]; done) | (simp only [List.replicate_zero, List.flatten_nil, go_sem, Nat.reduceEqDiff, Nat.reduceAdd, Nat.reduceLeDiff, Nat.reduceLT, Nat.reduceMul, Nat.reduceSub, reduceIte, reduceCtorEq, Int.reduceEq, Int.reduceLT, Int.reduceLE, Nat.reduceBEq, Int.reduceToNat, M_block]; rfl) | rfl) | exact U8L.nil | exact hq4.app | (simp; done) | (simp only [List.length_append, List.length_cons, List.length_nil]; omega)), rfl⟩
  rintro m' ⟨t, H, k⟩ ⟨i, g, ys, h3, h10, h11, h12, hq0, hq1, hq2, hq3, hq4, hm⟩ next
  simp only at h3 h10 h11 h12
  simp only [h3, h10, h11, h12, hv, hd, List.replicate_zero, List.flatten_nil, go_sem, Nat.reduceEqDiff, Nat.reduceAdd, Nat.reduceLeDiff, Nat.reduceLT, Nat.reduceMul, Nat.reduceSub, reduceIte, reduceCtorEq, Int.reduceEq, Int.reduceLT, Int.reduceLE, Nat.reduceBEq, Int.reduceToNat, M_block]
  open QBe2 in exact As2
  done
 |fail) : p := h
end QBe1
theorem n42 {v : PV} (lv : SlP (fun y => ∃ n : Int, y = [.int .u16 n] ∧ 0 ≤ n ∧ n < 65536) v) : Pure Tab X G 42 [v] (fun r => ∃ s : ByteArray, r = .str s ∧ s.size ≤ 2097152) := by
 have hv := lv.1
 have hd := lv.2.1
 have hB := lv.1.len
 refine Fn_of T42 (by simp) ?_
 refine n1 (j hv hd) ?_
 open QBe1 in exact As1
end
end Go.Pi
end
section
open Go Go.Pi
namespace Go.Pi
variable {p q a : Prop}
theorem baseOk {X : CallF} {G : Nat → PV} : Base X G (intF X G) where
 h53 := fun n h0 h1 => n53F n h0 h1
 hF := intF_size
 h80 := fun s goal hs => by
  obtain ⟨r, c, hf, k, t, m, nu, fr, to_, a, b, c2, rfl, h⟩ := c80 (X := X) (G := G) s goal hs
  exact ⟨_, c, hf, k, t, m, nu, fr, to_, a, b, c2, rfl, by omega⟩
 h87 := fun s hs h1 => by
  obtain ⟨r, c, hf, k, t, m, nu, fr, to_, a, b, c2, rfl, h⟩ := c87 (X := X) (G := G) s hs h1
  exact ⟨_, c, hf, k, t, m, nu, fr, to_, a, b, c2, rfl⟩
 h42 := fun lv => n42 lv
 h41 := fun s hs => n41 s hs
 h43 := fun s hs => n43 s hs
 h56 := fun hc => n56 hc
 h57 := fun s hs => n57 s hs
 h51 := fun n hn => n51 n hn
 h73 := fun h hn => n73 h (by omega)
end Go.Pi
end
section
open Go Go.Pi
namespace Go.Pi
variable {p q a : Prop}
set_option maxRecDepth 100000
set_option maxHeartbeats 0
section
variable {X : CallF} {G : Nat → PV}
theorem Mt.mono {T : Nat → Option FX} {f : Nat} {vs : List PV} {P Q : Bool → PV → Prop} (h : Mt T X G f vs P) (hi : ∀ b r, P b r → Q b r) : Mt T X G f vs Q := by
 intro e fine
 obtain ⟨r, c, h1, f', h2, h3, h4⟩ := h e fine
 exact ⟨r, c, h1, f', h2, h3, hi _ _ h4⟩
structure IHg (X : CallF) (G : Nat → PV) (F : Int → ByteArray) (m : Nat) : Prop where
 i : IHf X G m
 l : ∀ {y}, EZ m y → Mt Tab X G 29 [.agg y] (fun _ => NdX)
 b : ∀ {y}, BZ m y → Mt Tab X G 72 [.agg y] (NdN F y)
section
variable {F : Int → ByteArray} {m : Nat}
theorem IHg.h46 (B : Base X G F) (h73 : ∀ {n : Nat} {v : PV}, NdL n v → n ≤ 4194304 → Pure Tab X G 73 [v] (fun r => ∃ b : Bool, r = .bool b)) (g : IHg X G F m) {y : List PV} (hy : FZ m y) (k : Int) : Mt Tab X G 46 [.agg y, .int .u64 k] (fun _ => NdX) := r46 B h73 g.i hy.1 hy.le k
theorem IHg.h120 (g : IHg X G F m) {y : List PV} (hy : IZ m y) : Mt Tab X G 120 [.agg y] (NdN F (y.drop 3)) := r120 g.i g.b hy.1 hy.le
theorem IHg.h45n (g : IHg X G F m) (kind op ref flags : Int) (str exprs kids decls cases fns classes : PV) (hx : StmtC [.int .i64 kind, .int .i64 op, .int .i64 ref, .int .i64 flags, str, exprs, kids, decls, cases, fns, classes]) (hm : SizeOf.sizeOf ([.int .i64 kind, .int .i64 op, .int .i64 ref, .int .i64 flags, str, exprs, kids, decls, cases, fns, classes] : List PV) ≤ m) : Mt Tab X G 45 [.agg [.int .i64 kind, .int .i64 op, .int .i64 ref, .int .i64 flags, str, exprs, kids, decls, cases, fns, classes]] (NdD F op decls) := r45 g.i g.b _ _ _ _ _ _ _ _ _ _ _ rfl hx hm
theorem IHg.h45 (g : IHg X G F m) {x : List PV} (hx : StmtC x) (hm : SizeOf.sizeOf x ≤ m) : Mt Tab X G 45 [.agg x] (fun _ => NdX) := by
 obtain ⟨kind, op, ref, flags, str, exprs, kids, decls, cases, fns, classes, rfl, _⟩ := hx.open hm
 exact (g.h45n _ _ _ _ _ _ _ _ _ _ _ hx hm).mono fun b r ⟨c, hr, hc, _⟩ => ⟨c, hr, hc⟩
end
theorem ihg {F : Int → ByteArray} (B : Base X G F) (h73 : ∀ {n : Nat} {v : PV}, NdL n v → n ≤ 4194304 → Pure Tab X G 73 [v] (fun r => ∃ b : Bool, r = .bool b)) : ∀ m, IHg X G F m := by
 intro m
 induction m with
 |zero => exact ⟨⟨fun h => absurd h.2 (Nat.not_lt_zero _), fun h => absurd h.2 (Nat.not_lt_zero _), fun h => absurd h.2 (Nat.not_lt_zero _)⟩, fun h => absurd h.2 (Nat.not_lt_zero _), fun h => absurd h.2 (Nat.not_lt_zero _)⟩
 |succ m g =>
  have h46 : ∀ {y}, FZ m y → ∀ k, Mt Tab X G 46 [.agg y, .int .u64 k] (fun _ => NdX) := fun hy k => g.h46 B h73 hy k
  have h55 : ∀ {k v}, EZ m k → EZ m v → ∀ (kind flags : Int) (static : Bool), Mt Tab X G 55 [.int .i64 kind, .int .i64 flags, .agg k, .agg v, .bool static] (fun _ => NdX) := fun hk hv a b c => r55 B g.i h46 hk hv a b c
  have h74 : ∀ {y}, MZ m y → Mt Tab X G 74 [.agg y] (fun _ => NdX) := fun hy => r74 B g.i h55 hy.1 hy.le
  have h47 : ∀ {y}, CZ m y → Mt Tab X G 47 [.agg y] (fun _ => NdX) := fun hy => r47 B g.i h74 hy.1 hy.le
  have h120 : ∀ {y}, IZ m y → Mt Tab X G 120 [.agg y] (NdN F (y.drop 3)) := fun hy => g.h120 hy
  have hb : ∀ {y}, BZ (m + 1) y → Mt Tab X G 72 [.agg y] (NdN F y) := fun h =>
   r72 B h.1 (fun a b c e => r100 g.b h120 a b c e h.1 (Nat.le_of_lt_succ h.2)) (fun a b c e => r101 B g.i g.b h120 a b c e h.1 (Nat.le_of_lt_succ h.2))
  have hl : ∀ {y}, EZ (m + 1) y → Mt Tab X G 29 [.agg y] (fun _ => NdX) := fun h => r29 B g.i g.l h.1 (Nat.le_of_lt_succ h.2)
  have h45 : ∀ {y}, SZ m y → Mt Tab X G 45 [.agg y] (fun _ => NdX) := fun hy => g.h45 hy.1 hy.le
  refine ⟨⟨fun h => ?_, fun h => ?_, fun h => (hb h).mono fun b r ⟨c, hr, hc, _⟩ => ⟨c, hr, hc⟩⟩, hl, hb⟩
  ·have hm := Nat.le_of_lt_succ h.2
   exact r16 g.i (r22 B h46 h.1 hm) (r25 B g.i h46 h.1 hm) (r26 g.i h.1 hm) (r27 B g.i h.1 hm) (r28 g.i h47 h.1 hm) (hl h) (r31 B g.i h.1 hm) h.1 hm
  ·have hm := Nat.le_of_lt_succ h.2
   exact r21 B g.i (g.h45 h.1 hm) h46 h47 (r49 B g.i (r75 (F := F) g.i h45 h.1 hm) (r76 (F := F) g.i h45 h.1 hm) (r77 g.i g.b h.1 hm) h.1 hm) h.1 hm
theorem ihgOk (m : Nat) : IHg X G (intF X G) m := ihg baseOk (fun h hn => n73 h hn) m
end
end Go.Pi
end
section
open Go Go.Pi
namespace Go.Pi
variable {p q a : Prop}
set_option maxRecDepth 100000
set_option maxHeartbeats 0
section
variable {X : CallF} {G : Nat → PV}
abbrev letS (ds : PV) : List PV := [.int .i64 4, .int .i64 1, .int .i64 (-1), .int .i64 0, .nils, .nils, .nils, ds, .nils, .nils, .nils]
namespace QGa1
theorem kA1 (h : p := by
 first
 |((refine ⟨_, rfl, ?_, _, rfl, hnc0, hnm⟩; first | exact hF | exact fun _ => trivial)) <;> exact Am1
 |((refine ⟨_, rfl, ?_, _, rfl, ?_, fun h => absurd h Bool.false_ne_true⟩; (first | exact hF | exact fun _ => trivial | exact fun h => absurd h Bool.false_ne_true); (simp [Nd_cells, NdF_nils]; first | done | fail))) <;> exact Am1
 |exact kH
 |fail) : p := h
theorem kB1 (h : p := by
 first
 |(refine MC_mt (r30 _) cA dM hF ?_; rintro _ b1 ⟨rfl, hnd⟩ hmono hF; exact kT1)
 |(refine MC_mt (h45) cA dM hF ?_; rintro _ b1 ⟨_, rfl, hnc0, hnm⟩ hmono hF; exact kT1)
 |(obtain ⟨k0, x0, m0, n0, kk0, a0, rfl, hN0⟩ := hnc0.open; have hS0 := hN0.1; have hDp0 := hN0.2.1; refine nA ?_) <;> exact Am1
 |fail) : p := h
end QGa1
theorem g21 {F : Int → ByteArray} {ds : PV} (hd : deepB ds = true) (h45 : Mt Tab X G 45 [.agg (letS ds)] (NdD F 1 ds)) : Mt Tab X G 21 [.agg (letS ds)] (NdD F 1 ds) := by
 intro e fine
 have hF : fine = true → fine = true := id
 refine Fn_of T21 (by simp) ?_
 refine nA ?_
 open QGa1 in exact Am1
def Nms (F : Int → ByteArray) (ds : PV) (c : List PV) : Prop := ∃ l : List Int, Dns (els ds) l ∧ (∀ n, n ∈ l → 0 ≤ n ∧ n < 1000) ∧ NB c (l.map fun n => bs [118] ++ F n)
theorem g14 {F : Int → ByteArray} {ds : PV} (hd : deepB ds = true) (h21 : Mt Tab X G 21 [.agg (letS ds)] (NdD F 1 ds)) : Mt Tab X G 14 [.sl [letS ds]] (fun f r => ∃ c, r = .sl [c] ∧ Nd c ∧ (f = true → Nms F ds c)) := by
 intro e fine
 have hF : fine = true → fine = true := id
 have lv : SlP (fun y => y = letS ds) (.sl [letS ds]) := ⟨.inr ⟨_, rfl, by simp⟩, by simp [deepB, deepLL, deepL, hd], by simp [els]⟩
 generalize hv0 : PV.sl [letS ds] = v at lv
 have hl : (els v).length = 1 := by rw [← hv0]; rfl
 refine Fn_of T14 (by simp) ?_
 have hv := lv.1
 have hB := lv.1.len
 refine s1 (j hv hl) ?_
 refine M_loop (fun n s => ∃ (i : Nat) (b : Bool) (ys : List (List PV)), i + n = 1 ∧ s.t 0 = .ptr 0 0 0 ∧ s.t 8 = v ∧ s.t 9 = .int .i64 1 ∧ s.t 10 = .int .i64 i ∧ s.H 0 = some ⟨e, 0, [.bool b], 0⟩ ∧ (b = true → fine = true) ∧
  (∀ y, y ∈ ys → Nd y ∧ (b = true → Nms F ds y)) ∧ ys.length = i ∧ Grow [5006] s.H 45 6 (s.t 5) ys) ?_ (n := 1) ⟨0, fine, [], by simp, z0, z0, z0, z0, z0, id, by simp, rfl, by refine s0 ?_; exact Grow.nil⟩
 rintro n ⟨t, H, k⟩ ⟨i, b, ys, hi, h0, h8, h9, h10, e0, hF, hys, hyl, hrow⟩ next
 simp only at h0 h8 h9 h10 e0 hrow
 refine s1 (j h0 (j h8 (j h9 h10))) ?_
 refine MB_dec (fun hp hb => ?_) (fun hp hb => ?_)
 ·have hi0 : i = 0 := by omega
  subst hi0
  have hys0 : ys = [] := List.length_eq_zero_iff.1 hyl
  subst hys0
  refine s1 (j h0 (j h8 (j h9 h10))) ?_
  refine MIX_S (P := fun y => y = letS ds) (fun h => by rw [h]; rfl) lv (by omega) (by omega) (fun y hy hmem hg => ?_)
  subst hy
  refine s1 (j h0 (j h8 (j h9 (j h10 e0)))) ?_
  refine MC_mt (e := e) (b0 := b) h21 (z1 e0) (by simp [deepB, deepL, hd]) hF ?_
  rintro r b1 ⟨c, rfl, hc, hnm⟩ hmono hF
  have hnm : b1 = true → Nms F ds c := fun h => hnm h rfl
  obtain ⟨nk, nt, nm, nn, nkids, na, rfl, hN⟩ := hc.open
  have hDp := hN.2.1
  refine s1 (j h0 (j h8 (j h9 (j h10 hDp)))) ?_
  refine M_app1 (A := [5006]) (ys := []) (z0) (z0) hc.len hc.deep ?_ (by simp) (by simp) (by simp) ?_
  ·refine s0 ?_
   exact hrow.frame (fun b hb => by simp only [List.mem_singleton] at hb; rw [hb]; exact z0)
  ·intro v' H2 tr' hgr hf htr
   have := htr rfl
   subst this
   refine s1 (j h0 (j h8 (j h9 h10))) ?_
   refine next (n - 1) (by omega) _ ⟨1, b1, [[.int .i64 nk, .str nt, .str nm, .int .u64 nn, nkids, .int .i64 na]], by omega, z1 h0, z1 h8, z1 h9, by refine s1 h10 ?_; first | done | rfl, ?_, hF, ?_, rfl, ?_⟩
   ·show H2 0 = _
    rw [hf 0 (by simp) (by simp)]
    exact z0
   ·intro y hy
    simp only [List.nil_append, List.mem_singleton] at hy
    subst hy
    exact ⟨hc, hnm⟩
   ·refine s0 ?_
    exact hgr
 ·refine s0 ?_
  have hi1 : i = 1 := by omega
  subst hi1
  obtain ⟨c, rfl⟩ : ∃ c, ys = [c] := List.length_eq_one_iff.1 hyl
  obtain ⟨y, ids, hset, hids, hy, hdy⟩ := hrow.settle
  have hset : Go.Pi.settle 30 H (t 5) = some (y, ids) := hset
  refine s1 (j hset e0) ?_
  refine ⟨by simpa using fun h => absurd (hids 0 h) (by decide), b, rfl, hF, ?_⟩
  have hc := hys c (by simp)
  rcases hy with ⟨h, rfl⟩ | rfl
  ·cases h
  ·exact ⟨c, rfl, hc.1, hc.2⟩
end
end Go.Pi
end
section
open Go Go.Pi
namespace Go.Pi
variable {p q a : Prop}
set_option maxRecDepth 100000
set_option maxHeartbeats 0
section
variable {T : Nat → Option FX} {X : CallF} {G : Nat → PV} {Q : Ex → St → Prop} {w : List Wk} {i len n : Nat} {os : List XO} {tr : Trk} {d : Option Nat} {t : Nat → PV} {H : Heap}
theorem MC_mtp {f b g e : Nat} {b0 : Bool} {args : List PV} {R : Bool → PV → Prop} (hM : Mt T X G f args R) (hb : H b = some ⟨e, g, [.bool b0], 0⟩) (hd : deepL args = true)
  (k : ∀ r b1, R b1 r → (b1 = true → b0 = true) → M T X G (.ops i os len tr :: w) ⟨put t d r, H.put b (some ⟨e, g, [.bool b1], 0⟩), n⟩ Q) (hro : roF f = false := by rfl) : MC T X G f (.ptr b g 0 :: args) d i os len tr w t H n Q := by
 obtain ⟨r, cells, h1, b1, rfl, hb1, h2⟩ := hM e b0
 refine MC_ptr hro hb rfl (by rfl) (settleL_deep hd) (by rfl) ⟨r, _, h1, rfl, ?_⟩
 rw [drop_none]
 exact k r b1 h2 hb1
def Mk (T : Nat → Option FX) (X : CallF) (G : Nat → PV) (f : Nat) (args : List PV) (R : PV → Prop) : Prop := ∀ e, ∃ r cells, Fn T X G f (.ptr 0 0 0 :: args) (some ⟨e, 0, [.bool true], 0⟩) r cells ∧ cells = [.bool true] ∧ R r
theorem MC_mk {f b g e : Nat} {args : List PV} {R : PV → Prop} (hM : Mk T X G f args R) (hb : H b = some ⟨e, g, [.bool true], 0⟩) (hd : deepL args = true)
  (k : ∀ r, R r → M T X G (.ops i os len tr :: w) ⟨put t d r, H, n⟩ Q) (hro : roF f = false := by rfl) : MC T X G f (.ptr b g 0 :: args) d i os len tr w t H n Q := by
 obtain ⟨r, cells, h1, rfl, h2⟩ := hM e
 refine MC_ptr hro hb rfl (by rfl) (settleL_deep hd) (by rfl) ⟨r, _, h1, rfl, ?_⟩
 rw [drop_none]
 have e1 : H.put b (some ⟨e, g, [.bool true], 0⟩) = H := by
  funext x
  by_cases hx : x = b
  ·subst hx; rw [Heap.put_same]; exact hb.symm
  ·rw [Heap.put_ne _ _ hx]
 rw [e1]
 exact k r h2
end
section
variable {X : CallF} {G : Nat → PV}
theorem g6 {F : Int → ByteArray} {ds : PV} (hd : deepB ds = true) (h14 : Mt Tab X G 14 [.sl [letS ds]] (fun f r => ∃ c, r = .sl [c] ∧ Nd c ∧ (f = true → Nms F ds c))) : Pure Tab X G 6 [.sl [letS ds]] (fun r => ∃ c b, r = .tup [.sl [c], .bool b] ∧ Nd c ∧ (b = true → Nms F ds c)) := by
 refine Fn_of T6 (by simp) ?_
 refine s0 ?_
 refine MC_mtp h14 (z0) (by simp [deepB, deepLL, deepL, hd]) ?_
 rintro _ b ⟨c, rfl, hc, hn⟩ _
 refine s0 ?_
 have hdc : deepB (.sl [c]) = true := by simp [deepB, deepLL, hc.deep]
 simp only [settle_deep hdc, go_sem, Nat.reduceEqDiff, Nat.reduceAdd, Nat.reduceLeDiff, Nat.reduceLT, Nat.reduceMul, Nat.reduceSub, reduceIte, reduceCtorEq, Int.reduceEq, Int.reduceLT, Int.reduceLE, Nat.reduceBEq, Int.reduceToNat, M_block, M_reg, M_dreg_nil, M_dreg]
 exact ⟨c, b, rfl, hc, hn⟩
abbrev symE (n : Int) : List PV := [.int .i64 8, .int .i64 0, .int .i64 n, .int .i64 0, .int .i64 0, .flt .f64 0, .nils, .str (bs []), .nils, .nils, .nils, .nils, .nils]
theorem k30 : Mk Tab X G 30 [.bool true] (fun r => r = .bool true) := by
 intro e
 refine Fn_of T30 (by simp) ?_
 exact z0
namespace QGb1
theorem kA1 (h : p := by
 first
 |(exact ⟨rfl, rfl⟩)
 |exact kH
 |fail) : p := h
theorem kB1 (h : p := by
 first
 |(refine MC_pure (B.h53 _ (by omega) (by omega)) pE dM ?_; rintro _ rfl; exact kT1)
 |(refine MC_mk k30 (cA) (by rfl) ?_; rintro _ rfl; (try refine nA ?_)) <;> exact Am1
 |fail) : p := h
end QGb1
theorem k48 {F : Int → ByteArray} (B : Base X G F) (n : Int) (h0 : 0 ≤ n) (h1 : n < 1000) : Mk Tab X G 48 [.int .i64 n] (fun r => r = .str (bs [118] ++ F n)) := by
 intro e
 have hF : true = true → true = true := id
 have hsz : (bs [118]).size + (F n).size ≤ 9223372036854775807 := by have := B.hF n; rw [str1]; omega
 refine Fn_of T48 (by simp) ?_
 refine nA ?_
 open QGb1 in exact Am1
abbrev SymR (F : Int → ByteArray) (n : Int) (y : List PV) : Prop := ∃ (k : Int) (more : ByteArray) (num at_ : Int) (kids : PV), y = [.int .i64 k, .str (bs [118] ++ F n), .str more, .int .u64 num, kids, .int .i64 at_] ∧ deepB kids = true
namespace QGb2
theorem kA1 (h : p := by
 first
 |(exact ⟨_, rfl, _, _, _, _, _, rfl, rfl⟩)
 |exact kH
 |fail) : p := h
theorem kB1 (h : p := by
 first
 |(refine MC_pure (B.h53 _ (by omega) (by omega)) pE dM ?_; rintro _ rfl; exact kT1)
 |(refine MC_mk k30 (cA) (by rfl) ?_; rintro _ rfl; (try refine nA ?_)) <;> exact Am1
 |(refine MC_mk (k48 B n h0 h1) (cA) (by rfl) ?_; rintro _ rfl; (try refine nA ?_)) <;> exact Am1
 |fail) : p := h
end QGb2
theorem k22 {F : Int → ByteArray} (B : Base X G F) (n : Int) (h0 : 0 ≤ n) (h1 : n < 1000) : Mk Tab X G 22 [.agg (symE n)] (fun r => ∃ y, r = .tup [.agg y, .bool true] ∧ SymR F n y) := by
 intro e
 have hF : true = true → true = true := id
 have hsz : (bs [118]).size + (F n).size ≤ 9223372036854775807 := by have := B.hF n; rw [str1]; omega
 refine Fn_of T22 (by simp) ?_
 refine nA ?_
 open QGb2 in exact Am1
namespace QGb3
theorem kA1 (h : p := by
 first
 |(exact ⟨_, rfl, _, _, _, _, _, rfl, hdk⟩)
 |exact kH
 |fail) : p := h
theorem kB1 (h : p := by
 first
 |(refine MC_mk (k22 B n h0 h1) (cA) (by rfl) ?_; rintro _ ⟨_, rfl, k, more, num, at_, kids, rfl, hdk⟩; (try refine nA ?_)) <;> exact Am1
 |fail) : p := h
end QGb3
theorem k16 {F : Int → ByteArray} (B : Base X G F) (n : Int) (h0 : 0 ≤ n) (h1 : n < 1000) : Mk Tab X G 16 [.agg (symE n)] (fun r => ∃ y, r = .agg y ∧ SymR F n y) := by
 intro e
 have hF : true = true → true = true := id
 refine Fn_of T16 (by simp) ?_
 refine nA ?_
 open QGb3 in exact Am1
theorem g9 {F : Int → ByteArray} (B : Base X G F) (n : Int) (h0 : 0 ≤ n) (h1 : n < 1000) : Pure Tab X G 9 [.agg (symE n)] (fun r => ∃ y, r = .tup [.agg y, .bool true] ∧ SymR F n y) := by
 refine Fn_of T9 (by simp) ?_
 refine s0 ?_
 refine MC_mk (k16 B n h0 h1) (z0) (by rfl) ?_
 rintro _ ⟨_, rfl, k, more, num, at_, kids, rfl, hdk⟩
 refine s1 hdk ?_
 exact ⟨_, rfl, _, _, _, _, _, rfl, hdk⟩
end
end Go.Pi
end
section
open Go Go.Pi
namespace Go.Pi
variable {p q a : Prop}
set_option maxRecDepth 100000
set_option maxHeartbeats 0
section
variable {X : CallF} {G : Nat → PV}
namespace QGc2
theorem fB2 (x : a) (g : q) (h : a → q → p := by (intro x g; exact n1 (j x (j h1 (j h2 (j h5 (j h6 (j e1 (j hS (j hDp hTT)))))))) g)) : p := h x g
theorem kN2 (h : p := by
 first
 |(refine next _ ?_ _ ⟨_, _, by (exact c1 (j h1 (j h2 (j h5 (j h6 (j e1 (j hS hDp))))))), by (exact c1 (j h1 (j h2 (j h5 (j h6 (j e1 (j hS hDp))))))), by (exact c1 (j h1 (j h2 (j h5 (j h6 (j e1 (j hS hDp))))))), by (exact c1 (j h1 (j h2 (j h5 (j h6 (j e1 (j hS hDp))))))), by (exact c1 (j h1 (j h2 (j h5 (j h6 (j e1 (j hS hDp))))))), wM, wM, rfl⟩; exact wM)
 |fail) : p := h
theorem kA2 (h : p := by
 first
 |(exact ⟨_, rfl⟩) <;> exact As2
 |fail) : p := h
theorem kB2 (h : p := by
 first
 |((refine MC_pure (ih hy (hlt _ hmem) _) (by intro b g r h; cases h) (c1 hSc) ?_; rintro _ ⟨zc, rfl⟩; refine n1 (j h1 (j h2 (j h5 (j h6 (j e1 (j hS hDp)))))) ?_)) <;> exact As2
 |((refine MIX_N hN (by omega) (by omega) (fun y hy hmem hg => ?_); have hdy := hy.deep; obtain ⟨ck, ct, cm, cn, ckids, ca, rfl, hNc⟩ := hy.open; have hSc := hNc.2.1; refine n1 (j h1 (j h2 (j h5 (j h6 (j e1 (j hS (j hDp hSc))))))) ?_)) <;> exact As2
 |fail) : p := h
end QGc2
namespace QGc1
theorem fB1 (x : a) (g : q) (h : a → q → p := by (intro x g; exact n1 (j x (j hS (j hDp hTT))) g)) : p := h x g
theorem kZ1 (h : p := by
 first
 |skip
  refine M_loop (fun m' s' => ∃ (i z : Int), s'.t 1 = .int .i64 lim ∧ s'.t 2 = .ptr 1 1 0 ∧ s'.t 5 = .int .i64 z ∧ s'.t 6 = .int .i64 i ∧ s'.H 1 = some ⟨45, 1, [.int .i64 nk, .str nt, .str nm, .int .u64 nn, nkids, .int .i64 na], 0⟩ ∧ (0 ≤ i) ∧ (i ≤ (els nkids).length) ∧ m' = ((els nkids).length - i).toNat) ?_ (n := _) ⟨_, _, by (exact c1 (j hS hDp)), by (exact c1 (j hS hDp)), by (exact c1 (j hS hDp)), by (exact c1 (j hS hDp)), by (exact c1 (j hS hDp)), wM, wM, rfl⟩
  rintro m' ⟨t, H, k⟩ ⟨i, z, h1, h2, h5, h6, e1, hq0, hq1, hm⟩ next
  simp only at h1 h2 h5 h6 e1
  refine n1 (j h1 (j h2 (j h5 (j h6 (j e1 (j hS hDp)))))) ?_
  open QGc2 in exact As2
  done
 |fail) : p := h
end QGc1
theorem g7 : ∀ (m : Nat) {c : List PV}, Nd c → SizeOf.sizeOf c < m → ∀ lim : Int, Pure Tab X G 7 [.agg c, .int .i64 lim] (fun r => ∃ z, r = .int .i64 z) := by
 intro m
 induction m with
 |zero => intro c _ h; exact absurd h (Nat.not_lt_zero _)
 |succ m ih =>
  intro c hc hm lim
  have hlt : ∀ v y, v ∈ c → y ∈ els v → SizeOf.sizeOf y < m := fun v y hv hy => Nat.lt_of_lt_of_le (els_lt hv hy) (Nat.le_of_lt_succ hm)
  obtain ⟨nk, nt, nm, nn, nkids, na, rfl, hN⟩ := hc.open
  have hS := hN.1
  have hDp := hN.2.1
  have hB := hN.2.2.1
  have hlt : ∀ y, y ∈ els nkids → SizeOf.sizeOf y < m := fun y hy => hlt nkids y (by simp) hy
  clear hm
  refine Fn_of T7 (by simp) ?_
  refine n1 (j hS hDp) ?_
  open QGc1 in exact As1
end
end Go.Pi
end
section
open Go Go.Pi
namespace Go.Pi
variable {p q a : Prop}
set_option maxRecDepth 100000
set_option maxHeartbeats 0
section
variable {X : CallF} {G : Nat → PV}
def NmsV (l : List ByteArray) (r : PV) : Prop := Sls r ∧ deepB r = true ∧ els r = l.map fun s => [.str s]
theorem g15 {v : PV} {l : List ByteArray} {k : Int} (hv : NdF k v) (hl : l.length ≤ 1048576) (hn : NBs (els v) l) (h8 : ∀ y l', y ∈ els v → Nd y → NB y l' → l'.length ≤ 1048576 → Pure Tab X G 8 [.agg y] (NmsV l')) : Pure Tab X G 15 [v] (NmsV l) := by
 have hS := hv.1
 have hDp := hv.2.1
 have hB := hv.2.2.1
 refine Fn_of T15 (by simp) ?_
 refine s1 hS ?_
 refine M_loop (fun n s => ∃ (i : Nat) (l1 l2 : List ByteArray), i + n = (els v).length ∧ s.t 0 = v ∧ s.t 4 = .int .i64 i ∧ l = l1 ++ l2 ∧ NBs ((els v).drop i) l2 ∧ Grow [5007] s.H 9 1 (s.t 3) (l1.map fun s => [.str s])) ?_ (n := (els v).length) ⟨0, [], l, by simp, z0, z0, rfl, by simpa using hn, by refine s0 ?_; exact Grow.nil⟩
 rintro n ⟨t, H, k⟩ ⟨i, l1, l2, hi, h0, h4, hle, hnb, hrow⟩ next
 simp only at h0 h4 hrow
 refine s1 (j h0 (j h4 hS)) ?_
 refine MB_dec (fun hp hb => ?_) (fun hp hb => ?_)
 ·refine s1 (j h0 (j h4 hS)) ?_
  refine MIX_N hv (by omega) (by omega) (fun y hy hmem hg => ?_)
  have hdr : (els v).drop i = y :: (els v).drop (i + 1) := by
   have hlt : i < (els v).length := by omega
   rw [List.drop_eq_getElem_cons hlt]
   have : (els v)[i]? = some y := by simpa using hg
   rw [List.getElem?_eq_getElem hlt] at this
   cases this
   rfl
  rw [hdr] at hnb
  cases hnb with
  |cons _ _ la ls hA hR =>
  have hll : l.length = l1.length + (la.length + ls.length) := by rw [hle]; simp only [List.length_append]
  have hM := h8 y la hmem hy hA (by omega)
  have hdy := hy.deep
  obtain ⟨ck, ct, cm, cn, ckids, ca, rfl, hNc⟩ := hy.open
  have hSc := hNc.2.1
  refine s1 (j h0 (j h4 hS)) ?_
  refine MC_pure hM (by intro b g r h; cases h) (c1 hSc) ?_
  rintro r ⟨hrS, hrD, hrE⟩
  refine M_apps (A := [5007]) (ys := l1.map fun s => [.str s]) (r := r) (z0) hrS hrD (fun c hc => by rw [hrE] at hc; obtain ⟨s, _, rfl⟩ := List.mem_map.1 hc; rfl) (by refine s0 ?_; exact hrow) (by simp) (by rw [hrE, List.length_map, List.length_map]; omega) (fun v' H2 tr' hgr hf htr hz => ?_)
  have htr := htr rfl
  subst htr
  refine s1 (j h0 (j h4 hS)) ?_
  rw [hrE, ← List.map_append] at hgr
  refine next (n - 1) (by omega) _ ⟨i + 1, l1 ++ la, ls, by omega, z1 h0, by refine s1 h4 ?_; rw [wrap_i64 (by omega) (by omega)]; first | rfl | (congr 1; omega), by rw [hle, List.append_assoc], hR, by refine s0 ?_; exact hgr⟩
 ·refine s0 ?_
  have hl2 : l2 = [] := by
   rw [List.drop_of_length_le (by omega)] at hnb
   cases hnb
   rfl
  subst hl2
  obtain ⟨y, ids, hset, hids, hy, hdy⟩ := hrow.settle
  have hset : Go.Pi.settle 30 H (t 3) = some (y, ids) := hset
  refine s1 hset ?_
  refine ⟨by simpa using fun h => absurd (hids 0 h) (by decide), ?_⟩
  rw [hle, List.append_nil]
  rcases hy with ⟨h, rfl⟩ | rfl
  ·exact ⟨.inl rfl, rfl, h.symm⟩
  ·exact ⟨.inr ⟨_, rfl⟩, hdy, rfl⟩
end
end Go.Pi
end
section
open Go Go.Pi
namespace Go.Pi
variable {p q a : Prop}
set_option maxRecDepth 100000
set_option maxHeartbeats 0
section
variable {X : CallF} {G : Nat → PV}
theorem els_drop1 {v : PV} {c : List PV} {cs : List (List PV)} (h : els v = c :: cs) : (els v)[Int.toNat 0]? = some c := by rw [h]; rfl
theorem els_drop2 {v : PV} {c0 c : List PV} {cs : List (List PV)} (h : els v = c0 :: c :: cs) : (els v)[Int.toNat 1]? = some c := by rw [h]; rfl
theorem g8 : ∀ (m : Nat) {c : List PV} {l : List ByteArray}, Nd c → NB c l → l.length ≤ 1048576 → SizeOf.sizeOf c < m → Pure Tab X G 8 [.agg c] (NmsV l) := by
 intro m
 induction m with
 |zero => intro c l _ _ _ h; exact absurd h (Nat.not_lt_zero _)
 |succ m ih =>
  intro c l hc hn hl hm
  have hlt : ∀ v y, v ∈ c → y ∈ els v → SizeOf.sizeOf y < m := fun v y hv hy => Nat.lt_of_lt_of_le (els_lt hv hy) (Nat.le_of_lt_succ hm)
  obtain ⟨nk, nt, nm, nn, nkids, na, rfl, hN⟩ := hc.open
  have hS := hN.1
  have hDp := hN.2.1
  have hB := hN.2.2.1
  have hlt : ∀ y, y ∈ els nkids → SizeOf.sizeOf y < m := fun y hy => hlt nkids y (by simp) hy
  clear hm
  have h8 : ∀ y l', y ∈ els nkids → Nd y → NB y l' → l'.length ≤ 1048576 → Pure Tab X G 8 [.agg y] (NmsV l') := fun y l' hy hd hb hl => ih hd hb hl (hlt y hy)
  refine Fn_of T8 (by simp) ?_
  cases hn with
  |name =>
   refine s1 (j hS hDp) ?_
   exact ⟨.inr ⟨_, rfl⟩, rfl, rfl⟩
  |none =>
   refine s1 (j hS hDp) ?_
   exact ⟨.inl rfl, rfl, rfl⟩
  |parts _ _ _ _ _ _ _ hk h =>
   have h15 := g15 hN hl h h8
   rcases hk with rfl | rfl | rfl <;>
   ·refine s1 (j hS hDp) ?_
    refine MC_pure h15 (by intro b g r h; cases h; rcases hS with h | ⟨_, h⟩ <;> cases h) (c1 hDp) ?_
    rintro r ⟨hr1, hr2, hr3⟩
    refine s1 (j hr1 hr2) ?_
    exact ⟨hr1, hr2, hr3⟩
  |first _ _ _ _ _ _ c cs _ hk he h =>
   have hmem : c ∈ els nkids := by rw [he]; simp
   have hcN := hN.2.2.2.1 c hmem
   have h1 := h8 c l hmem hcN h hl
   have hdc := hcN.deep
   have hlen : (els nkids).length = cs.length + 1 := by rw [he]; rfl
   obtain ⟨ck, ct, cm, cn, ckids, ca, rfl, hNc⟩ := hcN.open
   have hSc := hNc.2.1
   rcases hk with rfl | rfl | rfl <;>
   ·refine s1 (j hS hDp) ?_
    refine MIX_Nre (els_drop1 he) hN (by omega) ?_
    refine s1 (j hS (j hDp hSc)) ?_
    refine MC_pure h1 (by intro b g r h; cases h) (c1 hSc) ?_
    rintro r ⟨hr1, hr2, hr3⟩
    refine s1 (j hr1 hr2) ?_
    exact ⟨hr1, hr2, hr3⟩
  |second _ _ _ _ _ c0 c cs _ he h =>
   have hmem : c ∈ els nkids := by rw [he]; simp
   have hcN := hN.2.2.2.1 c hmem
   have h1 := h8 c l hmem hcN h hl
   obtain ⟨ck, ct, cm, cn, ckids, ca, rfl, hNc⟩ := hcN.open
   have hSc := hNc.2.1
   refine s1 (j hS hDp) ?_
   refine MIX_Nre (els_drop2 he) hN (by omega) ?_
   refine s1 (j hS (j hDp hSc)) ?_
   refine MC_pure h1 (by intro b g r h; cases h) (c1 hSc) ?_
   rintro r ⟨hr1, hr2, hr3⟩
   refine s1 (j hr1 hr2) ?_
   exact ⟨hr1, hr2, hr3⟩
end
end Go.Pi
end
