import Derived.Test.YtpnkedaceaodbaaGreatDoorP09
import Derived.Test.YtpnkedaceaodbaaGreatDoorP16
import Derived.Test.YtpnkedaceaodbaaGreatDoorP19
import Derived.Test.YtpnkedaceaodbaaGreatDoorP20
/- Part of the proof. -/
set_option linter.all false
set_option maxHeartbeats 0
set_option maxRecDepth 100000
section
open Go Go.Pi
namespace Go.Pi
section
variable {X : CallF} {G : Nat → PV}
theorem c104 {s : ByteArray} (hs : s.size ≤ 2097152) (goal : Int) : Sc Tab X G 104 s [.int .i64 goal] (fun a => a + 1 ≤ (s.size : Int)) (fun at0 bad0 at1 bad1 r => TokR (16 * s.size + 1000) r) := by
 intro e sc ln at0 bad0 h0 h1 hpre
 have hpre : at0 + 1 ≤ (s.size : Int) := hpre
 have hs' : s.size ≤ 4398046511104 := by omega
 have hs2 : s.size ≤ 268435456 := by omega
 refine Fn_of T104 (by simp) ?_
 simp only [go_sem, Nat.reduceEqDiff, Nat.reduceAdd, Nat.reduceLeDiff, Nat.reduceLT, Nat.reduceMul, Nat.reduceSub, reduceIte, reduceCtorEq, Int.reduceEq, Int.reduceLT, Int.reduceLE, Nat.reduceBEq, Int.reduceToNat, M_block]
 repeat' first
  |contradiction
  |((refine ⟨_, _, _, rfl, by omega, by omega, _, _, _, _, _, _, _, _, _, rfl, by first | omega | (rw [bs_size]; simp; done) | (rw [bs_size]; simp; omega)⟩))
  |(simp (disch := omega) only [wrap_i64, wrap_u64, and_low, fdiv32, fdiv1, tdiv32, tmod32, min_sh, and_one, and_m52, or52, or32, tdiv10, tmod10, and_m11, fdiv52, fdiv63, or52r, and_m63]; (try simp only [go_sem, Nat.reduceEqDiff, Nat.reduceAdd, Nat.reduceLeDiff, Nat.reduceLT, Nat.reduceMul, Nat.reduceSub, reduceIte, reduceCtorEq, Int.reduceEq, Int.reduceLT, Int.reduceLE, Nat.reduceBEq, Int.reduceToNat, M_block]))
  |((first | simp only [M_reg] | simp only [M_dreg_nil] | simp only [M_dreg]); (try simp only [go_sem, Nat.reduceEqDiff, Nat.reduceAdd, Nat.reduceLeDiff, Nat.reduceLT, Nat.reduceMul, Nat.reduceSub, reduceIte, reduceCtorEq, Int.reduceEq, Int.reduceLT, Int.reduceLE, Nat.reduceBEq, Int.reduceToNat, M_block]))
  |((first | refine MB_dec (fun hp hb => ?_) (fun hp hb => ?_) | refine MB_ndec (fun hp hb => ?_) (fun hp hb => ?_) | refine MG_dec (fun hp hb => ?_) (fun hp hb => ?_) | refine MG_ndec (fun hp hb => ?_) (fun hp hb => ?_)) <;> simp only [hb, go_sem, Nat.reduceEqDiff, Nat.reduceAdd, Nat.reduceLeDiff, Nat.reduceLT, Nat.reduceMul, Nat.reduceSub, reduceIte, reduceCtorEq, Int.reduceEq, Int.reduceLT, Int.reduceLE, Nat.reduceBEq, Int.reduceToNat, M_block])
  |((first | refine MB_nsplit (fun hb => ?_) (fun hb => ?_) | refine MB_split (fun hb => ?_) (fun hb => ?_) | refine MG_split (fun hb => ?_) (fun hb => ?_)) <;> (first | (subst hb; simp only [go_sem, Nat.reduceEqDiff, Nat.reduceAdd, Nat.reduceLeDiff, Nat.reduceLT, Nat.reduceMul, Nat.reduceSub, reduceIte, reduceCtorEq, Int.reduceEq, Int.reduceLT, Int.reduceLE, Nat.reduceBEq, Int.reduceToNat, M_block]) | simp only [hb, go_sem, Nat.reduceEqDiff, Nat.reduceAdd, Nat.reduceLeDiff, Nat.reduceLT, Nat.reduceMul, Nat.reduceSub, reduceIte, reduceCtorEq, Int.reduceEq, Int.reduceLT, Int.reduceLE, Nat.reduceBEq, Int.reduceToNat, M_block]))
  |((first
    |(refine MC_scR (c121a hs' _) c0 (by omega) (by omega) (by first | rfl | exact c0) (fun r hr => ?_); obtain ⟨b, rfl, hb, hbv⟩ := hr; cases b; all_goals (first | (have hb := hb rfl) | clear hb))
    |(refine MC_sc (c123 hs') c0 (by omega) (by omega) (by first | trivial | omega | (dsimp only; omega)) (by first | rfl | exact c0) (fun r at1 ln1 bad1 hat hatb hr => ?_); obtain ⟨rfl, rfl, r, n, rfl, hr1, hn1, hr0, hr9, hn0, hn4, hnl⟩ := hr)
    |(refine MC_sc (c129 hs) c0 (by omega) (by omega) (by first | trivial | omega | (dsimp only; omega)) (by first | rfl | exact c0) (fun r at1 ln1 bad1 hat hatb hr => ?_); obtain ⟨k, tx, mo, nu, fr, to_, ba, bb, bc, rfl, htx⟩ := hr)
    |(refine MC_sc (c131 hs2) c0 (by omega) (by omega) (by first | trivial | omega | (dsimp only; omega)) (by first | rfl | exact c0) (fun r at1 ln1 bad1 hat hatb hr => ?_); obtain ⟨k, tx, mo, nu, fr, to_, ba, bb, bc, rfl, htx⟩ := hr)
    |(refine MC_sc (c132 hs2) c0 (by omega) (by omega) (by first | trivial | omega | (dsimp only; omega)) (by first | rfl | exact c0) (fun r at1 ln1 bad1 hat hatb hr => ?_); obtain ⟨k, tx, mo, nu, fr, to_, ba, bb, bc, rfl, htx⟩ := hr)
    |(refine MC_sc (c111 hs2) c0 (by omega) (by omega) (by first | trivial | omega | (dsimp only; omega)) (by first | rfl | exact c0) (fun r at1 ln1 bad1 hat hatb hr => ?_); obtain ⟨k, tx, mo, nu, fr, to_, ba, bb, bc, rfl, htx⟩ := hr)
    |(refine MC_sc (c134 hs2) c0 (by omega) (by omega) (by first | trivial | omega | (dsimp only; omega)) (by first | rfl | exact c0) (fun r at1 ln1 bad1 hat hatb hr => ?_); obtain ⟨k, tx, mo, nu, fr, to_, ba, bb, bc, rfl, htx⟩ := hr)
    |(refine MC_sc (c133 hs') c0 (by omega) (by omega) (by first | trivial | omega | (dsimp only; omega)) (by first | rfl | exact c0) (fun r at1 ln1 bad1 hat hatb hr => ?_); obtain ⟨z, be, rfl, hz⟩ := hr)
    |(refine MC_sc (c124 _) c0 (by omega) (by omega) (by first | trivial | omega | (dsimp only; omega)) (by first | rfl | exact c0) (fun r at1 ln1 bad1 hat hatb hr => ?_); obtain ⟨rfl, hb1, hb2⟩ := hr)
    |(refine MC_pure (c128 _) pP (by first | rfl | exact c0) ?_; rintro _ rfl)
    |(refine MC_pure (c130 _) pP (by first | rfl | exact c0) ?_; rintro _ ⟨v, rfl⟩)
    |(refine M_sxE ?_; (try simp only [go_sem, Nat.reduceEqDiff, Nat.reduceAdd, Nat.reduceLeDiff, Nat.reduceLT, Nat.reduceMul, Nat.reduceSub, reduceIte, reduceCtorEq, Int.reduceEq, Int.reduceLT, Int.reduceLE, Nat.reduceBEq, Int.reduceToNat, M_block]); refine MSX_re (by omega) (by omega) (fun b hb hb0 hb1 => ?_))
    |(refine M_sstrE ?_; (try simp only [Option.map_some, Option.map_none]); (try simp only [go_sem, Nat.reduceEqDiff, Nat.reduceAdd, Nat.reduceLeDiff, Nat.reduceLT, Nat.reduceMul, Nat.reduceSub, reduceIte, reduceCtorEq, Int.reduceEq, Int.reduceLT, Int.reduceLE, Nat.reduceBEq, Int.reduceToNat, M_block]); refine MSS_re rfl rfl (by omega) (by omega) (by omega) (fun z hz hzs => ?_))
    |refine MSS_re rfl rfl (by omega) (by omega) (by omega) (fun z hz hzs => ?_)
    |refine MSX_re (by omega) (by omega) (fun b hb hb0 hb1 => ?_)
    |rw [if_pos (by first | omega | (simp only [ByteArray.size_append, bs_size, List.length_cons, List.length_nil]; omega))]) <;> simp only [go_sem, Nat.reduceEqDiff, Nat.reduceAdd, Nat.reduceLeDiff, Nat.reduceLT, Nat.reduceMul, Nat.reduceSub, reduceIte, reduceCtorEq, Int.reduceEq, Int.reduceLT, Int.reduceLE, Nat.reduceBEq, Int.reduceToNat, M_block])
end
end Go.Pi
end
section
open Go Go.Pi
namespace Go.Pi
variable {p q a : Prop}
section
variable {X : CallF} {G : Nat → PV}
namespace QCi2
theorem fB2 (x : a) (g : q) (h : a → q → p := by (intro x g; exact n1 (j x (j h0 (j h2 (j e0 hTT)))) g)) : p := h x g
theorem kN2 (h : p := by
 first
 |(refine next _ ?_ _ ⟨_, _, _, _, by (exact c1 (j h0 (j h2 e0))), by (exact c1 (j h0 (j h2 e0))), by (exact c1 (j h0 (j h2 e0))), wM, wM, rfl⟩; exact wM)
 |fail) : p := h
theorem kA2 (h : p := by
 first
 |((refine ⟨_, _, _, rfl, by omega, by omega⟩)) <;> exact As2
 |fail) : p := h
theorem kB2 (h : p := by
 first
 |(refine MC_scR (c121b hs _ _) dC2 (by omega) (by omega) dD2 (fun r hr => ?_); obtain ⟨b, rfl, hb, hbv⟩ := hr; cases b; all_goals (first | (have hb := hb rfl) | clear hb); all_goals (refine fB2 hTT ?_; exact As2))
 |(refine MC_scR (c121c hs _ _ _) dC2 (by omega) (by omega) dD2 (fun r hr => ?_); obtain ⟨b, rfl, hb, hbv⟩ := hr; cases b; all_goals (first | (have hb := hb rfl) | clear hb); all_goals (refine fB2 hTT ?_; exact As2))
 |(refine MC_scR (c121d hs _ _ _ _) dC2 (by omega) (by omega) dD2 (fun r hr => ?_); obtain ⟨b, rfl, hb, hbv⟩ := hr; cases b; all_goals (first | (have hb := hb rfl) | clear hb); all_goals (refine fB2 hTT ?_; exact As2))
 |(refine MC_sc (c123 hs) dC2 (by omega) (by omega) (by first | trivial | omega | (dsimp only; omega)) dD2 (fun r at1 ln1 bad1 hat hatb hr => ?_); obtain ⟨rfl, rfl, r, n, rfl, hr1, hn1, hr0, hr9, hn0, hn4, hnl⟩ := hr; (refine fB2 hTT ?_; exact As2))
 |(refine MC_sc (c122 hs) dC2 (by omega) (by omega) (by first | trivial | omega | (dsimp only; omega)) dD2 (fun r at1 ln1 bad1 hat hatb hr => ?_); obtain ⟨rfl, hrp⟩ := hr; have hrp := hrp (by omega) (by omega) (by rw [← hr1]; assumption); (refine fB2 hTT ?_; exact As2))
 |(refine MC_sc (c127 hs) dC2 (by omega) (by omega) (by first | trivial | omega | (dsimp only; omega)) dD2 (fun r at1 ln1 bad1 hat hatb hr => ?_); obtain hcm := hr; (refine fB2 hTT ?_; exact As2))
 |(refine MC_sc (c124 _) dC2 (by omega) (by omega) (by first | trivial | omega | (dsimp only; omega)) dD2 (fun r at1 ln1 bad1 hat hatb hr => ?_); obtain ⟨rfl, hb1, hb2⟩ := hr; (refine fB2 hTT ?_; exact As2))
 |(refine MC_pure (c125 _) pP dD2 ?_; rintro _ rfl; (refine fB2 hTT ?_; exact As2))
 |(refine MC_pure (c126 _) pP dD2 ?_; rintro _ ⟨bq, rfl⟩; (refine fB2 hTT ?_; exact As2))
 |fail) : p := h
end QCi2
namespace QCi1
theorem fB1 (x : a) (g : q) (h : a → q → p := by (intro x g; exact n1 (j x hTT) g)) : p := h x g
theorem kB1 (h : p := by
 first
 |(refine MC_scR (c121b hs _ _) dC1 (by omega) (by omega) dD1 (fun r hr => ?_); obtain ⟨b, rfl, hb, hbv⟩ := hr; cases b; all_goals (first | (have hb := hb rfl) | clear hb); all_goals (refine fB1 hTT ?_; exact As1))
 |(refine MC_sc (c122 hs) dC1 (by omega) (by omega) (by first | trivial | omega | (dsimp only; omega)) dD1 (fun r at1 ln1 bad1 hat hatb hr => ?_); obtain ⟨rfl, hr9⟩ := hr; (refine fB1 hTT ?_; exact As1))
 |fail) : p := h
theorem kZ1 (h : p := by
 first
 |skip
  all_goals
   refine M_loop (fun m' s' => ∃ (p b2 : Int) (l2 bg : Bool), s'.t 0 = .ptr 0 0 0 ∧ s'.t 2 = .bool bg ∧ s'.H 0 = some ⟨e, 0, [.str s, .int .i64 p, .bool sc, .bool l2, .int .i64 b2], 0⟩ ∧ (at0 ≤ p) ∧ (p ≤ s.size) ∧ m' = (s.size - p).toNat + (1 - min b2.natAbs 1)) ?_ (n := _) ⟨_, _, _, _, by (exact c0), by (exact c0), by (exact c0), wM, wM, rfl⟩
   rintro m' ⟨t, H, k⟩ ⟨p, b2, l2, bg, h0, h2, e0, hq0, hq1, hm⟩ next
   simp only at h0 h2 e0
   refine n1 (j h0 (j h2 e0)) ?_
   open QCi2 in exact As2
  done
 |fail) : p := h
end QCi1
theorem c103 {s : ByteArray} (hs : s.size ≤ 4398046511104) : Sc Tab X G 103 s [] (fun _ => True) (fun at0 bad0 at1 bad1 r => True) := by
 intro e sc ln at0 bad0 h0 h1 _
 refine Fn_of T103 (by simp) ?_
 refine n0 ?_
 open QCi1 in exact As1
end
end Go.Pi
end
section
open Go Go.Pi
namespace Go.Pi
variable {p q a : Prop}
section
variable {X : CallF} {G : Nat → PV}
theorem two_limbs (q : Int) (h0 : 0 ≤ q) (h1 : q < 18446744073709551616) : Pure Tab X G 105 [.sl [[.int .u64 (q % 4294967296)], [.int .u64 (q / 4294967296)]]] (NatV q 2) := by
 have h := n105 (X := X) (G := G) (v := .sl (lims [q % 4294967296, q / 4294967296])) (a := [q % 4294967296, q / 4294967296]) (.inr rfl) (by intro x hx; simp at hx; omega) (by simp)
 have e : vl [q % 4294967296, q / 4294967296] = q := by simp only [vl]; omega
 rw [e] at h
 exact h
theorem ex_up {m e : Int} (he : 1075 ≤ e) : m * 2 ^ (e - 1075).toNat * (PP : Nat) = m * 2 ^ (e - 1).toNat * 1 := by
 rw [PP_int, Int.mul_assoc, ← Int.pow_add, Int.mul_one]
 congr 2
 omega
theorem ex_down {m e : Int} (he : ¬1075 ≤ e) (h1 : 1 ≤ e) : m * (PP : Nat) = m * 2 ^ (e - 1).toNat * (1 * 2 ^ (1075 - e).toNat) := by
 rw [PP_int, Int.one_mul, Int.mul_assoc, ← Int.pow_add]
 congr 2
 omega
namespace QNk1
theorem fB1 (x : a) (g : q) (h : a → q → p := by (intro x g; exact n1 (j x (j e1 hTT)) g)) : p := h x g
theorem kB1 (h : p := by
 first
 |(refine MC_pure (n82 1 (by omega) (by omega)) pQ dQ1 ?_; rintro u hu; have hgd := hu.deep; refine fB1 hgd ?_; exact As1)
 |(refine MC_pure (n139 _ hx (by omega) (by omega) (by omega)) pQ dQ1 ?_; rintro x3 hx3; have hgd := hx3.deep; refine fB1 hgd ?_; exact As1)
 |(refine MC_pure (n139 _ hu (by omega) (by omega) (by omega)) pQ dQ1 ?_; rintro x3 hx3; have hgd := hx3.deep; refine fB1 hgd ?_; exact As1)
 |((refine MC_none rfl (by intro b g r h; cases h) (c0) ?_; obtain ⟨x, cells, hf, hx⟩ := two_limbs (X := X) (G := G) (b % 4503599627370496) (by omega) (by omega); have hgd := hx.deep; refine ⟨_, _, hf, ?_⟩; refine n1 hgd ?_)) <;> exact As1
 |fail) : p := h
theorem kZ1 (h : p := by
 first
 |skip
  have e2 : bM b = b % 4503599627370496 := by simp [bM, hz]
  have e3 : bE b = ((1 : Int) - 1).toNat := by simp [bE, hz]
  have hp2 : (0 : Int) < 1 * 2 ^ ((1075 : Int) - 1).toNat := by rw [Int.one_mul]; exact Int.pow_pos (by decide)
  refine n1 (j hx.deep (j hu.deep hx3.deep)) ?_
  exact ⟨_, _, _, _, rfl, hx.mono (by omega), hx3.mono (by omega), hp2, by rw [e2, e3]; exact ex_down (by omega) (by omega)⟩
  done
 |fail) : p := h
end QNk1
namespace QNk2
theorem fB1 (x : a) (g : q) (h : a → q → p := by (intro x g; exact n1 (j x (j e1 (j hz hTT))) g)) : p := h x g
theorem kB1 (h : p := by
 first
 |(refine MC_pure (n82 1 (by omega) (by omega)) pQ dQ1 ?_; rintro u hu; have hgd := hu.deep; refine fB1 hgd ?_; exact As1)
 |(refine MC_pure (n139 _ hx (by omega) (by omega) (by omega)) pQ dQ1 ?_; rintro x3 hx3; have hgd := hx3.deep; refine fB1 hgd ?_; exact As1)
 |(refine MC_pure (n139 _ hu (by omega) (by omega) (by omega)) pQ dQ1 ?_; rintro x4 hx4; have hgd := hx4.deep; refine fB1 hgd ?_; exact As1)
 |((refine MC_none rfl (by intro b g r h; cases h) (c0) ?_; obtain ⟨x, cells, hf, hx⟩ := two_limbs (X := X) (G := G) (b % 4503599627370496 + 4503599627370496) (by omega) (by omega); have hgd := hx.deep; refine ⟨_, _, hf, ?_⟩; refine n1 hgd ?_)) <;> exact As1
 |fail) : p := h
theorem y1_0 (h : p := by
 first
 |skip
  refine n1 (j hu.deep hx3.deep) ?_
  exact ⟨_, _, _, _, rfl, hx3.mono (by omega), hu.mono (by omega), by omega, by rw [e2, e3]; exact ex_up (by omega)⟩
  done
 |fail) : p := h
theorem y1_1 (h : p := by
 first
 |skip
  have hp2 : (0 : Int) < 1 * 2 ^ (1075 - b / 4503599627370496).toNat := by rw [Int.one_mul]; exact Int.pow_pos (by decide)
  refine n1 (j hx.deep (j hu.deep hx4.deep)) ?_
  exact ⟨_, _, _, _, rfl, hx.mono (by omega), hx4.mono (by omega), hp2, by rw [e2, e3]; exact ex_down (by omega) (by omega)⟩
  done
 |fail) : p := h
theorem kZ1 (h : p := by
 first
 |skip
  all_goals first
  |exact y1_0
  |exact y1_1
  |fail
  done
 |fail) : p := h
end QNk2
theorem n135 (b : Int) (h0 : 0 ≤ b) (h1 : b < 9218868437227405312) : Pure Tab X G 135 [.int .u64 b] (fun r => ∃ x y A B, r = .tup [x, y] ∧ NatV A 64 x ∧ NatV B 64 y ∧ 0 < B ∧ A * (PP : Nat) = bM b * 2 ^ bE b * B) := by
 refine Fn_of T135 (by simp) ?_
 refine n0 ?_
 by_cases hz : b / 4503599627370496 = 0
 ·have e1 : b / 4503599627370496 % 2048 = 0 := by omega
  open QNk1 in exact As1
 ·have e1 : b / 4503599627370496 % 2048 = b / 4503599627370496 := by omega
  have e2 : bM b = b % 4503599627370496 + 4503599627370496 := by simp [bM, hz]
  have e3 : bE b = (b / 4503599627370496 - 1).toNat := by simp [bE, hz]
  open QNk2 in exact As1
namespace QNk3
theorem fB1 (x : a) (g : q) (h : a → q → p := by (intro x g; exact n1 (j x (j @Int.zero_sub hTT)) g)) : p := h x g
theorem kB1 (h : p := by
 first
 |(refine MC_pure (n82 1 (by omega) (by omega)) pQ dQ1 ?_; rintro u hu; have hgd := hu.deep; refine fB1 hgd ?_; exact As1)
 |(refine MC_pure (n137 10 _ hx (by omega) (by omega) (by omega) (by omega) (by omega)) pQ dQ1 ?_; rintro x3 hx3; have hgd := hx3.deep; refine fB1 hgd ?_; exact As1)
 |(refine MC_pure (n137 10 _ hu (by omega) (by omega) (by omega) (by omega) (by omega)) pQ dQ1 ?_; rintro x4 hx4; have hgd := hx4.deep; refine fB1 hgd ?_; exact As1)
 |(refine MC_pure (n162 hx3 hu (by omega) (by omega) (by omega)) pQ dQ1 ?_; rintro _ ⟨v, rfl, hvr⟩; have hgd := hgd; refine fB1 hgd ?_; exact As1)
 |(refine MC_pure (n162 hx hx4 (by rw [Int.one_mul]; exact Int.pow_pos (by decide)) (by omega) (by omega)) pQ dQ1 ?_; rintro _ ⟨v, rfl, hvr⟩; have hgd := hgd; refine fB1 hgd ?_; exact As1)
 |((refine MC_none rfl (by intro b g r h; cases h) (c0) ?_; obtain ⟨x, cells, hf, hx⟩ := two_limbs (X := X) (G := G) q (by omega) (by omega); have hgd := hx.deep; refine ⟨_, _, hf, ?_⟩; refine n1 hgd ?_)) <;> exact As1
 |fail) : p := h
theorem y1_0 (h : p := by
 first
 |skip
  rw [show (-e).toNat = 0 by omega]
  exact ⟨_, rfl, hvr⟩
  done
 |fail) : p := h
theorem y1_1 (h : p := by
 first
 |skip
  rw [show e.toNat = 0 by omega, Int.pow_zero, Int.mul_one]
  rw [Int.one_mul] at hvr
  exact ⟨_, rfl, hvr⟩
  done
 |fail) : p := h
theorem kZ1 (h : p := by
 first
 |skip
  all_goals first
  |exact y1_0
  |exact y1_1
  |fail
  done
 |fail) : p := h
end QNk3
theorem n140 (q e : Int) (h0 : 0 ≤ q) (h1 : q < 18446744073709551616) (he0 : -2000 ≤ e) (he1 : e ≤ 2000) : Pure Tab X G 140 [.int .u64 q, .int .i64 e] (RoundR (q * 10 ^ e.toNat) (10 ^ (-e).toNat)) := by
 refine Fn_of T140 (by simp) ?_
 refine n0 ?_
 open QNk3 in exact As1
namespace QNk5
theorem fB2 (x : a) (g : q) (h : a → q → p := by (intro x g; exact n1 (j x (j h1 (j h8 hTT))) g)) : p := h x g
theorem kN2 (h : p := by
 first
 |(refine next _ ?_ _ ⟨_, _, by (exact c1 (j h1 h8)), by (exact c1 (j h1 h8)), wM, wM, wM, wM, rfl⟩; exact wM)
 |fail) : p := h
theorem kA2 (h : p := by
 first
 |(exact ⟨_, _, rfl, by omega, by omega, by omega, by omega⟩) <;> exact As2
 |fail) : p := h
end QNk5
namespace QNk4
theorem fB1 (x : a) (g : q) (h : a → q → p := by (intro x g; exact n1 (j x hTT) g)) : p := h x g
theorem kB1 (h : p := by
 first
 |(refine MC_pure (n81 hx (by omega) hK (by omega)) pQ dQ1 ?_; rintro _ ⟨z, rfl, hz1, hz2⟩; have hgd := hgd; refine fB1 hgd ?_; exact As1)
 |((refine MC_none rfl (by intro b g r h; cases h) (c0) ?_; obtain ⟨x, cells, hf, hx⟩ := two_limbs (X := X) (G := G) q (by omega) (by omega); have hgd := hx.deep; refine ⟨_, _, hf, ?_⟩; refine n1 hgd ?_)) <;> exact As1
 |fail) : p := h
theorem kZ1 (h : p := by
 first
 |skip
  all_goals
   refine M_loop (fun m' s' => ∃ (y : ByteArray) (m : Int), s'.t 1 = .int .i64 m ∧ s'.t 8 = .str y ∧ (1 ≤ y.size) ∧ (y.size ≤ 20) ∧ (n ≤ m) ∧ (m ≤ n + 1) ∧ m' = y.size) ?_ (n := _) ⟨_, _, by (exact c0), by (exact c0), wM, wM, wM, wM, rfl⟩
   rintro m' ⟨t, H, k⟩ ⟨y, m, h1, h8, hq0, hq1, hq2, hq3, hm⟩ next
   simp only at h1 h8
   refine n1 (j h1 h8) ?_
   open QNk5 in exact As2
  done
 |fail) : p := h
end QNk4
theorem n141 (q n k : Int) (h0 : 0 ≤ q) (h1 : q < 18446744073709551616) (hn0 : -1000 ≤ n) (hn1 : n ≤ 1000) : Pure Tab X G 141 [.int .u64 q, .int .i64 n, .int .i64 k] (fun r => ∃ z m, r = .tup [.str z, .int .i64 m] ∧ 1 ≤ z.size ∧ z.size ≤ 20 ∧ n ≤ m ∧ m ≤ n + 1) := by
 refine Fn_of T141 (by simp) ?_
 refine n0 ?_
 have hK : q < 10 ^ 20 := by
  have : (10 : Int) ^ 20 = 100000000000000000000 := by decide
  omega
 open QNk4 in exact As1
namespace QNk7
theorem fB2 (x : a) (g : q) (h : a → q → p := by (intro x g; exact n1 (j x (j h0 (j h3 (j h4 hTT)))) g)) : p := h x g
theorem kN2 (h : p := by
 first
 |(refine next _ ?_ _ ⟨_, _, by (exact c1 (j h0 (j h3 h4))), by (exact c1 (j h0 (j h3 h4))), by (exact c1 (j h0 (j h3 h4))), by (first | exact wM | (rw [bs_size]; simp; done) | (intro _; omega) | (simp only [ByteArray.size_append, bs_size, List.length_cons, List.length_nil]; omega)), by (first | exact wM | (rw [bs_size]; simp; done) | (intro _; omega) | (simp only [ByteArray.size_append, bs_size, List.length_cons, List.length_nil]; omega)), by (first | exact wM | (rw [bs_size]; simp; done) | (intro _; omega) | (simp only [ByteArray.size_append, bs_size, List.length_cons, List.length_nil]; omega)), rfl⟩; (first | exact wM | (rw [bs_size]; simp; done) | (intro _; omega) | (simp only [ByteArray.size_append, bs_size, List.length_cons, List.length_nil]; omega)))
 |fail) : p := h
theorem kA2 (h : p := by
 first
 |(exact ⟨_, rfl, by omega⟩) <;> exact As2
 |fail) : p := h
end QNk7
namespace QNk6
theorem fB1 (x : a) (g : q) (h : a → q → p := by (intro x g; exact n1 (j x hTT) g)) : p := h x g
theorem kZ1 (h : p := by
 first
 |skip
  refine M_loop (fun m' s' => ∃ (i : Int) (z : ByteArray), s'.t 0 = .int .i64 n ∧ s'.t 3 = .str z ∧ s'.t 4 = .int .i64 i ∧ (0 ≤ i) ∧ (z.size = i.toNat) ∧ (0 < i → i ≤ n) ∧ m' = (n - i).toNat) ?_ (n := _) ⟨_, _, by (exact c0), by (exact c0), by (exact c0), by (first | exact wM | (rw [bs_size]; simp; done) | (intro _; omega) | (simp only [ByteArray.size_append, bs_size, List.length_cons, List.length_nil]; omega)), by (first | exact wM | (rw [bs_size]; simp; done) | (intro _; omega) | (simp only [ByteArray.size_append, bs_size, List.length_cons, List.length_nil]; omega)), by (first | exact wM | (rw [bs_size]; simp; done) | (intro _; omega) | (simp only [ByteArray.size_append, bs_size, List.length_cons, List.length_nil]; omega)), rfl⟩
  rintro m' ⟨t, H, k⟩ ⟨i, z, h0, h3, h4, hq0, hq1, hq2, hm⟩ next
  simp only at h0 h3 h4
  refine n1 (j h0 (j h3 h4)) ?_
  open QNk7 in exact As2
  done
 |fail) : p := h
end QNk6
theorem n109 (n : Int) (h1 : n ≤ 1000) : Pure Tab X G 109 [.int .i64 n] (fun r => ∃ z, r = .str z ∧ z.size ≤ 1000) := by
 refine Fn_of T109 (by simp) ?_
 refine n0 ?_
 open QNk6 in exact As1
namespace QNk8
theorem fB1 (x : a) (g : q) (h : a → q → p := by (intro x g; exact n1 (j x (j @Int.zero_sub hTT)) g)) : p := h x g
theorem kA1 (h : p := by
 first
 |(exact ⟨_, rfl, by first | omega | (rw [ByteArray.size_append, bs_size]; simp; omega)⟩) <;> exact As1
 |fail) : p := h
theorem kB1 (h : p := by
 first
 |(refine MC_pure (n82 _ (by omega) (by omega)) pQ dQ1 ?_; rintro u hu; have hgd := hu.deep; refine fB1 hgd ?_; exact As1)
 |(refine MC_pure (n81 hu (by omega) hK (by omega)) pQ dQ1 ?_; rintro _ ⟨z, rfl, hz1, hz2⟩; have hgd := hgd; refine fB1 hgd ?_; exact As1)
 |(refine MC_pure (n81 hu (by omega) hK2 (by omega)) pQ dQ1 ?_; rintro _ ⟨z, rfl, hz1, hz2⟩; have hgd := hgd; refine fB1 hgd ?_; exact As1)
 |fail) : p := h
end QNk8
theorem n53 (n : Int) (h0 : -4294967296 < n) (h1 : n < 4294967296) : Pure Tab X G 53 [.int .i64 n] (fun r => ∃ z, r = .str z ∧ z.size ≤ 12) := by
 have hK : n < 10 ^ 10 := by
  have : (10 : Int) ^ 10 = 10000000000 := by decide
  omega
 have hK2 : -n < 10 ^ 10 := by
  have : (10 : Int) ^ 10 = 10000000000 := by decide
  omega
 refine Fn_of T53 (by simp) ?_
 refine n0 ?_
 open QNk8 in exact As1
end
end Go.Pi
end
section
open Go Go.Pi
namespace Go.Pi
variable {p q a : Prop}
section
variable {X : CallF} {G : Nat → PV}
namespace QNl3
theorem fB3 (x : a) (g : q) (h : a → q → p := by (intro x g; exact n1 (j x (j h0 (j h4 (j h5 (j h6 (j hxd (j hyd (j hxd (j hyd hTT))))))))) g)) : p := h x g
theorem kN3 (h : p := by
 first
 |(refine next _ ?_ _ ⟨_, by (exact c1 (j h0 (j h4 (j h5 (j h6 (j hxd hyd)))))), by (exact c1 (j h0 (j h4 (j h5 (j h6 (j hxd hyd)))))), by (exact c1 (j h0 (j h4 (j h5 (j h6 (j hxd hyd)))))), by (exact c1 (j h0 (j h4 (j h5 (j h6 (j hxd hyd)))))), by (first | exact wM | (intro _; omega) | (intro _; rw [show n + 1 - 1 = n by omega]; omega)), by (first | exact wM | (intro _; omega) | (intro _; rw [show n + 1 - 1 = n by omega]; omega)), by (first | exact wM | (intro _; omega) | (intro _; rw [show n + 1 - 1 = n by omega]; omega)), rfl⟩; (first | exact wM | (intro _; omega) | (intro _; rw [show n + 1 - 1 = n by omega]; omega)))
 |fail) : p := h
end QNl3
namespace QNl5
theorem fB4 (x : a) (g : q) (h : a → q → p := by (intro x g; exact n1 (j x (j h0 (j h4 (j h5 (j h6 (j h0 (j h4 (j h5 (j h6 (j hxd (j hyd (j hxd (j hyd hTT))))))))))))) g)) : p := h x g
theorem kN4 (h : p := by
 first
 |(refine next _ ?_ _ ⟨_, by (exact c1 (j h0 (j h4 (j h5 (j h6 (j h0 (j h4 (j h5 (j h6 (j hxd hyd)))))))))), by (exact c1 (j h0 (j h4 (j h5 (j h6 (j h0 (j h4 (j h5 (j h6 (j hxd hyd)))))))))), by (exact c1 (j h0 (j h4 (j h5 (j h6 (j h0 (j h4 (j h5 (j h6 (j hxd hyd)))))))))), by (exact c1 (j h0 (j h4 (j h5 (j h6 (j h0 (j h4 (j h5 (j h6 (j hxd hyd)))))))))), by (first | exact wM | (rw [show (-n).toNat = 0 by omega, Int.pow_zero, Int.mul_one]; omega) | (intro _; omega) | (rw [show (-(n2 - 1)).toNat = (1 - n2).toNat by omega, show (n2 - 1).toNat = 0 by omega, Int.pow_zero, Int.mul_one]; omega)), by (first | exact wM | (rw [show (-n).toNat = 0 by omega, Int.pow_zero, Int.mul_one]; omega) | (intro _; omega) | (rw [show (-(n2 - 1)).toNat = (1 - n2).toNat by omega, show (n2 - 1).toNat = 0 by omega, Int.pow_zero, Int.mul_one]; omega)), by (first | exact wM | (rw [show (-n).toNat = 0 by omega, Int.pow_zero, Int.mul_one]; omega) | (intro _; omega) | (rw [show (-(n2 - 1)).toNat = (1 - n2).toNat by omega, show (n2 - 1).toNat = 0 by omega, Int.pow_zero, Int.mul_one]; omega)), by (first | exact wM | (rw [show (-n).toNat = 0 by omega, Int.pow_zero, Int.mul_one]; omega) | (intro _; omega) | (rw [show (-(n2 - 1)).toNat = (1 - n2).toNat by omega, show (n2 - 1).toNat = 0 by omega, Int.pow_zero, Int.mul_one]; omega)), rfl⟩; (first | exact wM | (rw [show (-n).toNat = 0 by omega, Int.pow_zero, Int.mul_one]; omega) | (intro _; omega) | (rw [show (-(n2 - 1)).toNat = (1 - n2).toNat by omega, show (n2 - 1).toNat = 0 by omega, Int.pow_zero, Int.mul_one]; omega)))
 |fail) : p := h
end QNl5
namespace QNl6
theorem fB4 (x : a) (g : q) (h : a → q → p := by (intro x g; exact n1 (j x (j h0 (j h4 (j h5 (j h6 (j h7 (j h0 (j h4 (j h5 (j h6 (j hxd (j hyd (j hxd (j hyd (j @Int.neg_sub hTT))))))))))))))) g)) : p := h x g
theorem kA4 (h : p := by
 first
 |(exact ⟨_, _, rfl, by omega, by omega, by omega, by omega⟩) <;> exact As4
 |((exact absurd (short17 hb0 hb1 hA0 hBp hAB hv0 lo1 lo2 rfl (by rw [show (n2 - 17).toNat = 0 by omega, Int.pow_zero, Int.mul_one]) hqe (Q := q + 1) (by rw [← hme, if_pos (by omega)]) (by rw [show (-(n2 - 17)).toNat = (17 - n2).toNat by omega] at hvr; exact hvr)) (by assumption))) <;> exact As4
 |((exact absurd (short17 hb0 hb1 hA0 hBp hAB hv0 lo1 lo2 rfl (by rw [show (n2 - 17).toNat = 0 by omega, Int.pow_zero, Int.mul_one]) hqe (Q := q) (by rw [← hme, if_neg (by omega)]) (by rw [show (-(n2 - 17)).toNat = (17 - n2).toNat by omega] at hvr; exact hvr)) (by assumption))) <;> exact As4
 |fail) : p := h
theorem kB4 (h : p := by
 first
 |(refine MC_pure (n137 10 (17 - n2) hA (by omega) (by omega) (by omega) (by omega) (by omega)) pQ dQ4 ?_; rintro xx hxx; have hgd := hxx.deep; refine fB4 hgd ?_; exact As4)
 |(refine MC_pure (n138q hxx hB hyp (by omega) (by omega) (by omega)) pQ dQ4 ?_; rintro _ ⟨q, m, w, rfl, hqe, hme, hw, hq9, hq10⟩; rw [← hqe] at hkl; have hgd := hw.deep; refine fB4 hgd ?_; exact As4)
 |(refine MC_pure (n139 1 hw (by omega) (by omega) (by omega)) pQ dQ4 ?_; rintro x2 hx2; have hgd := hx2.deep; refine fB4 hgd ?_; exact As4)
 |(refine MC_pure (n136 hx2 hB (by omega) (by omega)) pQ dQ4 ?_; rintro _ ⟨c, rfl, hc⟩; rw [show (2 : Int) ^ (1 : Int).toNat = 2 from rfl] at hc; have hgd := hxd; refine fB4 hgd ?_; exact As4)
 |(refine MC_pure (n140 _ _ (by omega) (by omega) (by omega) (by omega)) pP dD4 ?_; rintro _ ⟨v, rfl, hv0, hv1, hvr⟩; (refine fB4 hTT ?_; exact As4))
 |(refine MC_pure (n141 _ _ _ (by omega) (by omega) (by omega) (by omega)) pP dD4 ?_; rintro _ ⟨z, mm, rfl, hz1, hz2, hm1, hm2⟩; (refine fB4 hTT ?_; exact As4))
 |fail) : p := h
end QNl6
namespace QNl7
theorem fB4 (x : a) (g : q) (h : a → q → p := by (intro x g; exact n1 (j x (j h0 (j h4 (j h5 (j h6 (j h7 (j h0 (j h4 (j h5 (j h6 (j hxd (j hyd (j hxd (j hyd hTT)))))))))))))) g)) : p := h x g
theorem kN4 (h : p := by
 first
 |(refine next _ ?_ _ ⟨_, by (exact c1 (j h0 (j h4 (j h5 (j h6 (j h7 (j h0 (j h4 (j h5 (j h6 (j hxd hyd))))))))))), by (exact c1 (j h0 (j h4 (j h5 (j h6 (j h7 (j h0 (j h4 (j h5 (j h6 (j hxd hyd))))))))))), by (exact c1 (j h0 (j h4 (j h5 (j h6 (j h7 (j h0 (j h4 (j h5 (j h6 (j hxd hyd))))))))))), by (exact c1 (j h0 (j h4 (j h5 (j h6 (j h7 (j h0 (j h4 (j h5 (j h6 (j hxd hyd))))))))))), by (exact c1 (j h0 (j h4 (j h5 (j h6 (j h7 (j h0 (j h4 (j h5 (j h6 (j hxd hyd))))))))))), wM, wM, rfl⟩; exact wM)
 |fail) : p := h
theorem kA4 (h : p := by
 first
 |(exact ⟨_, _, rfl, by omega, by omega, by omega, by omega⟩) <;> exact As4
 |fail) : p := h
theorem kB4 (h : p := by
 first
 |(refine MC_pure (n137 10 (k - n2) hA (by omega) (by omega) (by omega) (by omega) (by omega)) pQ dQ4 ?_; rintro xx hxx; have hgd := hxx.deep; refine fB4 hgd ?_; exact As4)
 |(refine MC_pure (n138q hxx hB hyp (by omega) (by omega) (by omega)) pQ dQ4 ?_; rintro _ ⟨q, m, w, rfl, hqe, hme, hw, hq9, hq10⟩; rw [← hqe] at hkl; have hgd := hw.deep; refine fB4 hgd ?_; exact As4)
 |(refine MC_pure (n139 1 hw (by omega) (by omega) (by omega)) pQ dQ4 ?_; rintro x2 hx2; have hgd := hx2.deep; refine fB4 hgd ?_; exact As4)
 |(refine MC_pure (n136 hx2 hB (by omega) (by omega)) pQ dQ4 ?_; rintro _ ⟨c, rfl, hc⟩; rw [show (2 : Int) ^ (1 : Int).toNat = 2 from rfl] at hc; have hgd := hxd; refine fB4 hgd ?_; exact As4)
 |(refine MC_pure (n140 _ _ (by omega) (by omega) (by omega) (by omega)) pP dD4 ?_; rintro _ ⟨v, rfl, hv0, hv1, hvr⟩; (refine fB4 hTT ?_; exact As4))
 |(refine MC_pure (n141 _ _ _ (by omega) (by omega) (by omega) (by omega)) pP dD4 ?_; rintro _ ⟨z, mm, rfl, hz1, hz2, hm1, hm2⟩; (refine fB4 hTT ?_; exact As4))
 |fail) : p := h
end QNl7
namespace QNl8
theorem fB4 (x : a) (g : q) (h : a → q → p := by (intro x g; exact n1 (j x (j h0 (j h4 (j h5 (j h6 (j h7 (j h0 (j h4 (j h5 (j h6 (j hxd (j hyd (j hxd (j hyd (j @Int.neg_sub hTT))))))))))))))) g)) : p := h x g
theorem kA4 (h : p := by
 first
 |(exact ⟨_, _, rfl, by omega, by omega, by omega, by omega⟩) <;> exact As4
 |((exact absurd (short17 hb0 hb1 hA0 hBp hAB hv0 lo1 lo2 (by rw [show (17 - n2).toNat = 0 by omega, Int.pow_zero, Int.mul_one]) rfl hqe (Q := q + 1) (by rw [← hme, if_pos (by omega)]) (by rw [show (-(n2 - 17)).toNat = (17 - n2).toNat by omega] at hvr; exact hvr)) (by assumption))) <;> exact As4
 |((exact absurd (short17 hb0 hb1 hA0 hBp hAB hv0 lo1 lo2 (by rw [show (17 - n2).toNat = 0 by omega, Int.pow_zero, Int.mul_one]) rfl hqe (Q := q) (by rw [← hme, if_neg (by omega)]) (by rw [show (-(n2 - 17)).toNat = (17 - n2).toNat by omega] at hvr; exact hvr)) (by assumption))) <;> exact As4
 |fail) : p := h
theorem kB4 (h : p := by
 first
 |(refine MC_pure (n137 10 (n2 - 17) hB (by omega) (by omega) (by omega) (by omega) (by omega)) pQ dQ4 ?_; rintro xx hxx; have hgd := hxx.deep; refine fB4 hgd ?_; exact As4)
 |(refine MC_pure (n138q hA hxx hyp (by omega) (by omega) (by omega)) pQ dQ4 ?_; rintro _ ⟨q, m, w, rfl, hqe, hme, hw, hq9, hq10⟩; rw [← hqe] at hkl; have hgd := hw.deep; refine fB4 hgd ?_; exact As4)
 |(refine MC_pure (n139 1 hw (by omega) (by omega) (by omega)) pQ dQ4 ?_; rintro x2 hx2; have hgd := hx2.deep; refine fB4 hgd ?_; exact As4)
 |(refine MC_pure (n136 hx2 hxx (by omega) (by omega)) pQ dQ4 ?_; rintro _ ⟨c, rfl, hc⟩; rw [show (2 : Int) ^ (1 : Int).toNat = 2 from rfl] at hc; have hgd := hxd; refine fB4 hgd ?_; exact As4)
 |(refine MC_pure (n140 _ _ (by omega) (by omega) (by omega) (by omega)) pP dD4 ?_; rintro _ ⟨v, rfl, hv0, hv1, hvr⟩; (refine fB4 hTT ?_; exact As4))
 |(refine MC_pure (n141 _ _ _ (by omega) (by omega) (by omega) (by omega)) pP dD4 ?_; rintro _ ⟨z, mm, rfl, hz1, hz2, hm1, hm2⟩; (refine fB4 hTT ?_; exact As4))
 |fail) : p := h
end QNl8
namespace QNl9
theorem fB4 (x : a) (g : q) (h : a → q → p := by (intro x g; exact n1 (j x (j h0 (j h4 (j h5 (j h6 (j h7 (j h0 (j h4 (j h5 (j h6 (j hxd (j hyd (j hxd (j hyd hTT)))))))))))))) g)) : p := h x g
theorem kN4 (h : p := by
 first
 |(refine next _ ?_ _ ⟨_, by (exact c1 (j h0 (j h4 (j h5 (j h6 (j h7 (j h0 (j h4 (j h5 (j h6 (j hxd hyd))))))))))), by (exact c1 (j h0 (j h4 (j h5 (j h6 (j h7 (j h0 (j h4 (j h5 (j h6 (j hxd hyd))))))))))), by (exact c1 (j h0 (j h4 (j h5 (j h6 (j h7 (j h0 (j h4 (j h5 (j h6 (j hxd hyd))))))))))), by (exact c1 (j h0 (j h4 (j h5 (j h6 (j h7 (j h0 (j h4 (j h5 (j h6 (j hxd hyd))))))))))), by (exact c1 (j h0 (j h4 (j h5 (j h6 (j h7 (j h0 (j h4 (j h5 (j h6 (j hxd hyd))))))))))), wM, wM, rfl⟩; exact wM)
 |fail) : p := h
theorem kA4 (h : p := by
 first
 |(exact ⟨_, _, rfl, by omega, by omega, by omega, by omega⟩) <;> exact As4
 |fail) : p := h
theorem kB4 (h : p := by
 first
 |(refine MC_pure (n137 10 (n2 - k) hB (by omega) (by omega) (by omega) (by omega) (by omega)) pQ dQ4 ?_; rintro xx hxx; have hgd := hxx.deep; refine fB4 hgd ?_; exact As4)
 |(refine MC_pure (n138q hA hxx hyp (by omega) (by omega) (by omega)) pQ dQ4 ?_; rintro _ ⟨q, m, w, rfl, hqe, hme, hw, hq9, hq10⟩; rw [← hqe] at hkl; have hgd := hw.deep; refine fB4 hgd ?_; exact As4)
 |(refine MC_pure (n139 1 hw (by omega) (by omega) (by omega)) pQ dQ4 ?_; rintro x2 hx2; have hgd := hx2.deep; refine fB4 hgd ?_; exact As4)
 |(refine MC_pure (n136 hx2 hxx (by omega) (by omega)) pQ dQ4 ?_; rintro _ ⟨c, rfl, hc⟩; rw [show (2 : Int) ^ (1 : Int).toNat = 2 from rfl] at hc; have hgd := hxd; refine fB4 hgd ?_; exact As4)
 |(refine MC_pure (n140 _ _ (by omega) (by omega) (by omega) (by omega)) pP dD4 ?_; rintro _ ⟨v, rfl, hv0, hv1, hvr⟩; (refine fB4 hTT ?_; exact As4))
 |(refine MC_pure (n141 _ _ _ (by omega) (by omega) (by omega) (by omega)) pP dD4 ?_; rintro _ ⟨z, mm, rfl, hz1, hz2, hm1, hm2⟩; (refine fB4 hTT ?_; exact As4))
 |fail) : p := h
end QNl9
namespace QNl4
theorem fB3 (x : a) (g : q) (h : a → q → p := by (intro x g; exact n1 (j x (j h0 (j h4 (j h5 (j h6 (j h0 (j h4 (j h5 (j h6 (j hxd (j hyd (j hxd (j hyd hTT))))))))))))) g)) : p := h x g
theorem kB3 (h : p := by
 first
 |(refine MC_pure (n137 10 (1 - n2) hA (by omega) (by omega) (by omega) (by omega) (by omega)) pQ dQ3 ?_; rintro u2 hu2; have hgd := hu2.deep; refine fB3 hgd ?_; exact As3)
 |(refine MC_pure (n136 hu2 hB (by omega) (by omega)) pQ dQ3 ?_; rintro _ ⟨c2, rfl, hc2⟩; have hgd := hgd; refine fB3 hgd ?_; exact As3)
 |fail) : p := h
theorem y3_0 (h : p := by
 first
 |skip
  have hn5 := down_gt hb0 hb1 hA0 hBp hAB (n := n2) (by omega)
  open QNl5 in exact As4
  done
 |fail) : p := h
theorem y3_1 (h : p := by
 first
 |skip
  all_goals
   have lo2 : n2 ≤ 0 → B ≤ A * 10 ^ (1 - n2).toNat := by intro h; omega
   have lo1 := hq2
   have hup := hq3
   have hna := hq0
   have hnb := hq1
   refine M_loop (fun m' s' => ∃ (k : Int), s'.t 0 = .int .u64 b ∧ s'.t 4 = wx ∧ s'.t 5 = wy ∧ s'.t 6 = .int .i64 n2 ∧ s'.t 7 = .int .i64 k ∧ (1 ≤ k) ∧ (k ≤ 17) ∧ m' = (17 - k).toNat) ?_ (n := _) ⟨_, by (exact c1 (j h0 (j h4 (j h5 (j h6 (j hxd hyd)))))), by (exact c1 (j h0 (j h4 (j h5 (j h6 (j hxd hyd)))))), by (exact c1 (j h0 (j h4 (j h5 (j h6 (j hxd hyd)))))), by (exact c1 (j h0 (j h4 (j h5 (j h6 (j hxd hyd)))))), by (exact c1 (j h0 (j h4 (j h5 (j h6 (j hxd hyd)))))), wM, wM, rfl⟩
   rintro m' ⟨t, H, k⟩ ⟨k, h0, h4, h5, h6, h7, hq0, hq1, hm⟩ next
   simp only at h0 h4 h5 h6 h7
   refine n1 (j h0 (j h4 (j h5 (j h6 (j h7 (j h0 (j h4 (j h5 (j h6 (j hxd hyd)))))))))) ?_
   have hkl := k_lt hBp hq0 hq1 hup
   by_cases hkn : k ≥ n2
   ·rw [show (n2 - k).toNat = 0 by omega, Int.pow_zero, Int.mul_one] at hkl
    have hyp := hBp
    by_cases hk17 : k = 17
    ·subst hk17
     open QNl6 in exact As4
    ·skip
     open QNl7 in exact As4
   ·rw [show (k - n2).toNat = 0 by omega, Int.pow_zero, Int.mul_one] at hkl
    have hyp : 0 < B * 10 ^ (n2 - k).toNat := Int.mul_pos hBp (p10 _)
    by_cases hk17 : k = 17
    ·subst hk17
     open QNl8 in exact As4
    ·skip
     open QNl9 in exact As4
  done
 |fail) : p := h
theorem kZ3 (h : p := by
 first
 |skip
  all_goals first
  |exact y3_0
  |exact y3_1
  |fail
  done
 |fail) : p := h
end QNl4
namespace QNl2
theorem fB2 (x : a) (g : q) (h : a → q → p := by (intro x g; exact n1 (j x (j h0 (j h4 (j h5 (j h6 (j hxd (j hyd (j hxd (j hyd hTT))))))))) g)) : p := h x g
theorem kB2 (h : p := by
 first
 |(refine MC_pure (n137 10 n hB (by omega) (by omega) (by omega) (by omega) (by omega)) pQ dQ2 ?_; rintro u hu; have hgd := hu.deep; refine fB2 hgd ?_; exact As2)
 |(refine MC_pure (n136 hA hu (by omega) (by omega)) pQ dQ2 ?_; rintro _ ⟨c, rfl, hc⟩; have hgd := hgd; refine fB2 hgd ?_; exact As2)
 |fail) : p := h
theorem y2_0 (h : p := by
 first
 |skip
  have hn4 := up_lt hb0 hb1 hBp hAB (n := n) (by omega)
  open QNl3 in exact As3
  done
 |fail) : p := h
theorem y2_1 (h : p := by
 first
 |skip
  refine M_loop (fun m' s' => ∃ (n2 : Int), s'.t 0 = .int .u64 b ∧ s'.t 4 = wx ∧ s'.t 5 = wy ∧ s'.t 6 = .int .i64 n2 ∧ (-400 ≤ n2) ∧ (n2 ≤ 400) ∧ (1 ≤ n2 → B * 10 ^ (n2 - 1).toNat ≤ A) ∧ (A * 10 ^ (-n2).toNat < B * 10 ^ n2.toNat) ∧ m' = (n2 + 400).toNat) ?_ (n := _) ⟨_, by (exact c1 (j h0 (j h4 (j h5 (j h6 (j hxd hyd)))))), by (exact c1 (j h0 (j h4 (j h5 (j h6 (j hxd hyd)))))), by (exact c1 (j h0 (j h4 (j h5 (j h6 (j hxd hyd)))))), by (exact c1 (j h0 (j h4 (j h5 (j h6 (j hxd hyd)))))), by (first | exact wM | (rw [show (-n).toNat = 0 by omega, Int.pow_zero, Int.mul_one]; omega) | (intro _; omega) | (rw [show (-(n2 - 1)).toNat = (1 - n2).toNat by omega, show (n2 - 1).toNat = 0 by omega, Int.pow_zero, Int.mul_one]; omega)), by (first | exact wM | (rw [show (-n).toNat = 0 by omega, Int.pow_zero, Int.mul_one]; omega) | (intro _; omega) | (rw [show (-(n2 - 1)).toNat = (1 - n2).toNat by omega, show (n2 - 1).toNat = 0 by omega, Int.pow_zero, Int.mul_one]; omega)), by (first | exact wM | (rw [show (-n).toNat = 0 by omega, Int.pow_zero, Int.mul_one]; omega) | (intro _; omega) | (rw [show (-(n2 - 1)).toNat = (1 - n2).toNat by omega, show (n2 - 1).toNat = 0 by omega, Int.pow_zero, Int.mul_one]; omega)), by (first | exact wM | (rw [show (-n).toNat = 0 by omega, Int.pow_zero, Int.mul_one]; omega) | (intro _; omega) | (rw [show (-(n2 - 1)).toNat = (1 - n2).toNat by omega, show (n2 - 1).toNat = 0 by omega, Int.pow_zero, Int.mul_one]; omega)), rfl⟩
  rintro m' ⟨t, H, k⟩ ⟨n2, h0, h4, h5, h6, hq0, hq1, hq2, hq3, hm⟩ next
  simp only at h0 h4 h5 h6
  refine n1 (j h0 (j h4 (j h5 (j h6 (j h0 (j h4 (j h5 (j h6 (j hxd hyd))))))))) ?_
  open QNl4 in exact As3
  done
 |fail) : p := h
theorem kZ2 (h : p := by
 first
 |skip
  all_goals first
  |exact y2_0
  |exact y2_1
  |fail
  done
 |fail) : p := h
end QNl2
namespace QNl1
theorem fB1 (x : a) (g : q) (h : a → q → p := by (intro x g; exact n1 (j x hTT) g)) : p := h x g
theorem kB1 (h : p := by
 first
 |(refine MC_pure (n135 b (by omega) hb1) pQ dQ1 ?_; rintro _ ⟨wx, wy, A, B, rfl, hA, hB, hBp, hAB⟩; have hgd := hA.deep; refine fB1 hgd ?_; exact As1)
 |fail) : p := h
theorem kZ1 (h : p := by
 first
 |skip
  have hA0 := hA.nonneg
  have hxd := hA.deep
  have hyd := hB.deep
  refine M_loop (fun m' s' => ∃ (n : Int), s'.t 0 = .int .u64 b ∧ s'.t 4 = wx ∧ s'.t 5 = wy ∧ s'.t 6 = .int .i64 n ∧ (0 ≤ n) ∧ (n ≤ 400) ∧ (1 ≤ n → B * 10 ^ (n - 1).toNat ≤ A) ∧ m' = (400 - n).toNat) ?_ (n := _) ⟨_, by (exact c1 (j hxd hyd)), by (exact c1 (j hxd hyd)), by (exact c1 (j hxd hyd)), by (exact c1 (j hxd hyd)), by (first | exact wM | (intro _; omega) | (intro _; rw [show n + 1 - 1 = n by omega]; omega)), by (first | exact wM | (intro _; omega) | (intro _; rw [show n + 1 - 1 = n by omega]; omega)), by (first | exact wM | (intro _; omega) | (intro _; rw [show n + 1 - 1 = n by omega]; omega)), rfl⟩
  rintro m' ⟨t, H, k⟩ ⟨n, h0, h4, h5, h6, hq0, hq1, hq2, hm⟩ next
  simp only at h0 h4 h5 h6
  refine n1 (j h0 (j h4 (j h5 (j h6 (j hxd hyd))))) ?_
  open QNl2 in exact As2
  done
 |fail) : p := h
end QNl1
theorem n108 (b : Int) (hb0 : 0 < b) (hb1 : b < 9218868437227405312) : Pure Tab X G 108 [.int .u64 b] (fun r => ∃ z m, r = .tup [.str z, .int .i64 m] ∧ 1 ≤ z.size ∧ z.size ≤ 20 ∧ -1000 ≤ m ∧ m ≤ 1000) := by
 refine Fn_of T108 (by simp) ?_
 refine n0 ?_
 open QNl1 in exact As1
end
end Go.Pi
end
