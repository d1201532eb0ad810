import Derived.Test.YtpnkedaceaodbaaGreatDoorP06
import Derived.Test.YtpnkedaceaodbaaGreatDoorP07
import Derived.Test.YtpnkedaceaodbaaGreatDoorP08
import Derived.Test.YtpnkedaceaodbaaGreatDoorP09
import Derived.Test.YtpnkedaceaodbaaGreatDoorP10
import Derived.Test.YtpnkedaceaodbaaGreatDoorP14
import Derived.Test.YtpnkedaceaodbaaGreatDoorP15
/- Part of the proof. -/
set_option linter.all false
section
open Go Go.Pi
namespace Go.Pi
variable {p q a : Prop}
set_option maxRecDepth 100000
set_option maxHeartbeats 0
section
variable {X : CallF} {G : Nat → PV}
namespace QNf3
theorem fB3 (x : a) (g : q) (h : a → q → p := by (intro x g; exact n1 (j x (j h0 (j h1 (j h5 (j h6 (j h7 (j hv (j hlen (j gv (j glen hTT)))))))))) g)) : p := h x g
theorem kN3 (h : p := by
 first
 |(refine next _ ?_ _ ⟨_, _, _, _, by (exact c1 (j h0 (j h1 (j h5 (j h6 (j h7 (j hv (j hlen (j gv glen))))))))), by (exact c1 (j h0 (j h1 (j h5 (j h6 (j h7 (j hv (j hlen (j gv glen))))))))), by (exact c1 (j h0 (j h1 (j h5 (j h6 (j h7 (j hv (j hlen (j gv glen))))))))), by (exact c1 (j h0 (j h1 (j h5 (j h6 (j h7 (j hv (j hlen (j gv glen))))))))), by (exact c1 (j h0 (j h1 (j h5 (j h6 (j h7 (j hv (j hlen (j gv glen))))))))), by (first | exact wM | exact Grow.nil | exact Lim.nil | (simp [vl]; done) | exact hq4.snoc (by omega) (by omega) | (simp only [List.length_append, List.length_cons, List.length_nil]; omega) | exact sub_step hx (take_y hq1 (by assumption)) hq1 hq5 hq6 (by omega) | exact sub_step (y := 0) hx (take_n (by omega)) hq1 hq5 hq6 (by omega) | assumption), by (first | exact wM | exact Grow.nil | exact Lim.nil | (simp [vl]; done) | exact hq4.snoc (by omega) (by omega) | (simp only [List.length_append, List.length_cons, List.length_nil]; omega) | exact sub_step hx (take_y hq1 (by assumption)) hq1 hq5 hq6 (by omega) | exact sub_step (y := 0) hx (take_n (by omega)) hq1 hq5 hq6 (by omega) | assumption), by (first | exact wM | exact Grow.nil | exact Lim.nil | (simp [vl]; done) | exact hq4.snoc (by omega) (by omega) | (simp only [List.length_append, List.length_cons, List.length_nil]; omega) | exact sub_step hx (take_y hq1 (by assumption)) hq1 hq5 hq6 (by omega) | exact sub_step (y := 0) hx (take_n (by omega)) hq1 hq5 hq6 (by omega) | assumption), by (first | exact wM | exact Grow.nil | exact Lim.nil | (simp [vl]; done) | exact hq4.snoc (by omega) (by omega) | (simp only [List.length_append, List.length_cons, List.length_nil]; omega) | exact sub_step hx (take_y hq1 (by assumption)) hq1 hq5 hq6 (by omega) | exact sub_step (y := 0) hx (take_n (by omega)) hq1 hq5 hq6 (by omega) | assumption), by (first | exact wM | exact Grow.nil | exact Lim.nil | (simp [vl]; done) | exact hq4.snoc (by omega) (by omega) | (simp only [List.length_append, List.length_cons, List.length_nil]; omega) | exact sub_step hx (take_y hq1 (by assumption)) hq1 hq5 hq6 (by omega) | exact sub_step (y := 0) hx (take_n (by omega)) hq1 hq5 hq6 (by omega) | assumption), by (first | exact wM | exact Grow.nil | exact Lim.nil | (simp [vl]; done) | exact hq4.snoc (by omega) (by omega) | (simp only [List.length_append, List.length_cons, List.length_nil]; omega) | exact sub_step hx (take_y hq1 (by assumption)) hq1 hq5 hq6 (by omega) | exact sub_step (y := 0) hx (take_n (by omega)) hq1 hq5 hq6 (by omega) | assumption), by (first | exact wM | exact Grow.nil | exact Lim.nil | (simp [vl]; done) | exact hq4.snoc (by omega) (by omega) | (simp only [List.length_append, List.length_cons, List.length_nil]; omega) | exact sub_step hx (take_y hq1 (by assumption)) hq1 hq5 hq6 (by omega) | exact sub_step (y := 0) hx (take_n (by omega)) hq1 hq5 hq6 (by omega) | assumption), rfl⟩; (first | exact wM | exact Grow.nil | exact Lim.nil | (simp [vl]; done) | exact hq4.snoc (by omega) (by omega) | (simp only [List.length_append, List.length_cons, List.length_nil]; omega) | exact sub_step hx (take_y hq1 (by assumption)) hq1 hq5 hq6 (by omega) | exact sub_step (y := 0) hx (take_n (by omega)) hq1 hq5 hq6 (by omega) | assumption))
 |fail) : p := h
end QNf3
namespace QNf2
theorem fB2 (x : a) (g : q) (h : a → q → p := by (intro x g; exact n1 (j x (j h0 (j h1 (j h5 (j h6 (j h7 (j hv (j hlen (j gv (j glen hTT)))))))))) g)) : p := h x g
theorem kB2 (h : p := by
 first
 |((refine MIX_NV hva (by omega) (by omega) (fun x hx => ?_); have hxb := hla.get hx; refine n1 (j h0 (j h1 (j h5 (j h6 (j h7 (j hv (j hlen (j gv glen)))))))) ?_)) <;> exact As2
 |((refine MIX_NV hvb (by omega) (by omega) (fun y hy => ?_); have hyb := hlb.get hy; refine n1 (j h0 (j h1 (j h5 (j h6 (j h7 (j hv (j hlen (j gv glen)))))))) ?_)) <;> exact As2
 |fail) : p := h
theorem y2_0 (h : p := by
 first
 |skip
  skip
  have hq0' : Grow [14006] H 43 1 g (lims out) := hq0
  refine MC_grow hq0' (n105 hq0'.nv hq4 (by omega)) (fun r hr => ?_)
  have hrd := hr.deep
  refine n1 (j h0 (j h1 (j h5 (j h6 (j h7 (j hv (j hlen (j gv (j glen hrd))))))))) ?_
  have e : vl out = vl a - vl b := sub_end hla hlb htb hle hq4 (by omega) hq3 (by rw [show i.toNat = a.length by omega, List.take_length] at hq6; exact hq6)
  rw [e] at hr
  exact hr.mono (by omega)
  done
 |fail) : p := h
theorem y2_1 (h : p := by
 first
 |skip
  all_goals
   refine M_appN (A := [14006]) (rid := 14005) (c1 (j h0 (j h1 (j h5 (j h6 (j h7 (j hv (j hlen (j gv glen))))))))) (c1 (j h0 (j h1 (j h5 (j h6 (j h7 (j hv (j hlen (j gv glen))))))))) (by refine n1 (j h0 (j h1 (j h5 (j h6 (j h7 (j hv (j hlen (j gv glen)))))))) ?_; exact hq0.frame (by intro b hb; simp only [List.mem_singleton] at hb; subst hb; exact c0)) (by simp) (by simp) (by omega) ?_
   intro v' H' tr' hgr hf htr
   have := htr rfl
   subst this
   refine n1 (j h0 (j h1 (j h5 (j h6 (j h7 (j hv (j hlen (j gv glen)))))))) ?_
   open QNf3 in exact As3
  done
 |fail) : p := h
theorem kZ2 (h : p := by
 first
 |skip
  all_goals first
  |exact y2_0
  |exact y2_1
  |fail
  done
 |fail) : p := h
end QNf2
namespace QNf1
theorem fB1 (x : a) (g : q) (h : a → q → p := by (intro x g; exact n1 (j x (j hv (j hd (j hlen (j gv (j gd (j glen hTT))))))) g)) : p := h x g
theorem kZ1 (h : p := by
 first
 |skip
  refine M_loop (fun m' s' => ∃ (i c : Int) (out : List Int) (g : PV), s'.t 0 = v ∧ s'.t 1 = u ∧ s'.t 5 = g ∧ s'.t 6 = .int .u64 c ∧ s'.t 7 = .int .i64 i ∧ (Grow [14006] s'.H 43 1 g (lims out)) ∧ (0 ≤ i) ∧ (i ≤ a.length) ∧ (c = 0 ∨ c = 1) ∧ (Lim out) ∧ (out.length = i.toNat) ∧ (vl out = vl (a.take i.toNat) - vl (b.take i.toNat) + c * 4294967296 ^ i.toNat) ∧ m' = (a.length - i).toNat) ?_ (n := _) ⟨0, 0, [], .nils, by (exact c1 (j hv (j hlen (j gv glen)))), by (exact c1 (j hv (j hlen (j gv glen)))), by (exact c1 (j hv (j hlen (j gv glen)))), by (exact c1 (j hv (j hlen (j gv glen)))), by (exact c1 (j hv (j hlen (j gv glen)))), by (first | exact wM | exact Grow.nil | exact Lim.nil | (simp [vl]; done) | exact hq4.snoc (by omega) (by omega) | (simp only [List.length_append, List.length_cons, List.length_nil]; omega) | exact sub_step hx (take_y hq1 (by assumption)) hq1 hq5 hq6 (by omega) | exact sub_step (y := 0) hx (take_n (by omega)) hq1 hq5 hq6 (by omega) | assumption), by (first | exact wM | exact Grow.nil | exact Lim.nil | (simp [vl]; done) | exact hq4.snoc (by omega) (by omega) | (simp only [List.length_append, List.length_cons, List.length_nil]; omega) | exact sub_step hx (take_y hq1 (by assumption)) hq1 hq5 hq6 (by omega) | exact sub_step (y := 0) hx (take_n (by omega)) hq1 hq5 hq6 (by omega) | assumption), by (first | exact wM | exact Grow.nil | exact Lim.nil | (simp [vl]; done) | exact hq4.snoc (by omega) (by omega) | (simp only [List.length_append, List.length_cons, List.length_nil]; omega) | exact sub_step hx (take_y hq1 (by assumption)) hq1 hq5 hq6 (by omega) | exact sub_step (y := 0) hx (take_n (by omega)) hq1 hq5 hq6 (by omega) | assumption), by (first | exact wM | exact Grow.nil | exact Lim.nil | (simp [vl]; done) | exact hq4.snoc (by omega) (by omega) | (simp only [List.length_append, List.length_cons, List.length_nil]; omega) | exact sub_step hx (take_y hq1 (by assumption)) hq1 hq5 hq6 (by omega) | exact sub_step (y := 0) hx (take_n (by omega)) hq1 hq5 hq6 (by omega) | assumption), by (first | exact wM | exact Grow.nil | exact Lim.nil | (simp [vl]; done) | exact hq4.snoc (by omega) (by omega) | (simp only [List.length_append, List.length_cons, List.length_nil]; omega) | exact sub_step hx (take_y hq1 (by assumption)) hq1 hq5 hq6 (by omega) | exact sub_step (y := 0) hx (take_n (by omega)) hq1 hq5 hq6 (by omega) | assumption), by (first | exact wM | exact Grow.nil | exact Lim.nil | (simp [vl]; done) | exact hq4.snoc (by omega) (by omega) | (simp only [List.length_append, List.length_cons, List.length_nil]; omega) | exact sub_step hx (take_y hq1 (by assumption)) hq1 hq5 hq6 (by omega) | exact sub_step (y := 0) hx (take_n (by omega)) hq1 hq5 hq6 (by omega) | assumption), by (first | exact wM | exact Grow.nil | exact Lim.nil | (simp [vl]; done) | exact hq4.snoc (by omega) (by omega) | (simp only [List.length_append, List.length_cons, List.length_nil]; omega) | exact sub_step hx (take_y hq1 (by assumption)) hq1 hq5 hq6 (by omega) | exact sub_step (y := 0) hx (take_n (by omega)) hq1 hq5 hq6 (by omega) | assumption), rfl⟩
  rintro m' ⟨t, H, k⟩ ⟨i, c, out, g, h0, h1, h5, h6, h7, hq0, hq1, hq2, hq3, hq4, hq5, hq6, hm⟩ next
  simp only at h0 h1 h5 h6 h7
  refine n1 (j h0 (j h1 (j h5 (j h6 (j h7 (j hv (j hlen (j gv glen)))))))) ?_
  open QNf2 in exact As2
  done
 |fail) : p := h
end QNf1
theorem n161 {N M : Int} {L L2 : Nat} {v u : PV} (h : NatV N L v) (g : NatV M L2 u) (hle : M ≤ N) (hl : L ≤ 1073741824) (hl2 : L2 ≤ 1073741824) : Pure Tab X G 161 [v, u] (NatV (N - M) L) := by
 obtain ⟨a, hva, hla, hta, rfl, hna⟩ := h
 obtain ⟨b, hvb, hlb, htb, rfl, hnb⟩ := g
 have hv := hva.sls
 have hd := hva.deep
 have hlen := hva.len
 have gv := hvb.sls
 have gd := hvb.deep
 have glen := hvb.len
 refine Fn_of T161 (by simp) ?_
 refine n1 (j hv (j hd (j hlen (j gv (j gd glen))))) ?_
 open QNf1 in exact As1
end
end Go.Pi
end
section
open Go Go.Pi
namespace Go.Pi
variable {p q a : Prop}
set_option maxRecDepth 100000
set_option maxHeartbeats 0
section
variable {X : CallF} {G : Nat → PV}
theorem NatV.nonneg {N : Int} {L : Nat} {v : PV} (h : NatV N L v) : 0 ≤ N := by
 obtain ⟨a, h1, h2, h3, rfl, h5⟩ := h
 exact vl_nonneg h2
theorem shl_one (x : Int) : x * 2 ^ (min 1 64) = x * 2 := rfl
namespace QNg2
theorem fB2 (x : a) (g : q) (h : a → q → p := by (intro x g; exact n1 (j x (j h0 (j h1 (j h6 (j h7 (j hgd (j gd (j hpn (j shl_one hTT))))))))) g)) : p := h x g
theorem kN2 (h : p := by
 first
 |(refine next _ ?_ _ ⟨_, _, _, _, by (exact c1 (j h0 (j h1 (j h6 h7)))), by (exact c1 (j h0 (j h1 (j h6 h7)))), by (exact c1 (j h0 (j h1 (j h6 h7)))), by (exact c1 (j h0 (j h1 (j h6 h7)))), by (first | exact wM | exact div_init hN hM b0 b2 cc1 cc2 | (simp; done) | exact div_ge hpn hq3 | exact div_lt hpn hq3 | exact rem_ge hpn hq4 | exact rem_lt hpn (by omega)), by (first | exact wM | exact div_init hN hM b0 b2 cc1 cc2 | (simp; done) | exact div_ge hpn hq3 | exact div_lt hpn hq3 | exact rem_ge hpn hq4 | exact rem_lt hpn (by omega)), by (first | exact wM | exact div_init hN hM b0 b2 cc1 cc2 | (simp; done) | exact div_ge hpn hq3 | exact div_lt hpn hq3 | exact rem_ge hpn hq4 | exact rem_lt hpn (by omega)), by (first | exact wM | exact div_init hN hM b0 b2 cc1 cc2 | (simp; done) | exact div_ge hpn hq3 | exact div_lt hpn hq3 | exact rem_ge hpn hq4 | exact rem_lt hpn (by omega)), by (first | exact wM | exact div_init hN hM b0 b2 cc1 cc2 | (simp; done) | exact div_ge hpn hq3 | exact div_lt hpn hq3 | exact rem_ge hpn hq4 | exact rem_lt hpn (by omega)), rfl⟩; (first | exact wM | exact div_init hN hM b0 b2 cc1 cc2 | (simp; done) | exact div_ge hpn hq3 | exact div_lt hpn hq3 | exact rem_ge hpn hq4 | exact rem_lt hpn (by omega)))
 |fail) : p := h
theorem kB2 (h : p := by
 first
 |(refine MC_pure (n139 n g (by omega) (by omega) (by omega)) pQ dQ2 ?_; rintro x hx; have hxd := hx.deep; refine fB2 hgd ?_; exact As2)
 |(refine MC_pure (n136 hq0 hx (by omega) (by omega)) pQ dQ2 ?_; rintro _ ⟨c, rfl, hc⟩; have hgd := hgd; refine fB2 hgd ?_; exact As2)
 |(refine MC_pure (n161 hq0 hx (by omega) (by omega) (by omega)) pQ dQ2 ?_; rintro y hy; have hyd := hy.deep; refine fB2 hgd ?_; exact As2)
 |fail) : p := h
end QNg2
namespace QNg3
theorem fB2 (x : a) (g : q) (h : a → q → p := by (intro x g; exact n1 (j x (j h0 (j h1 (j h6 (j h7 (j hgd (j gd (j hpn hTT)))))))) g)) : p := h x g
theorem kA2 (h : p := by
 first
 |(exact ⟨_, by rw [f1], by rw [← f2]; exact hq0⟩) <;> exact As2
 |fail) : p := h
end QNg3
namespace QNg1
theorem fB1 (x : a) (g : q) (h : a → q → p := by (intro x g; exact n1 (j x (j hd (j gd hTT))) g)) : p := h x g
theorem kB1 (h : p := by
 first
 |(refine MC_pure (n160 (by assumption) (by omega)) pQ dQ1 ?_; rintro _ ⟨nb, rfl, hnb0, hnb1, hnb2, hnb3⟩; have hgd := hd; refine fB1 hgd ?_; exact As1)
 |fail) : p := h
theorem kZ1 (h : p := by
 first
 |skip
  rename_i nN b0 b1 b2 b3 gdd
  obtain ⟨cc1, cc2⟩ := hnb3 hM
  refine M_loop (fun m' s' => ∃ (n q A : Int) (g' : PV), s'.t 0 = g' ∧ s'.t 1 = u ∧ s'.t 6 = .int .u64 q ∧ s'.t 7 = .int .i64 n ∧ (NatV A L g') ∧ (n ≤ nN) ∧ (0 ≤ q) ∧ (N = q * 2 ^ (n + 1).toNat * M + A) ∧ (A < 2 ^ (n + 1).toNat * M) ∧ m' = (n + 1).toNat) ?_ (n := _) ⟨_, 0, N, v, by (exact c0), by (exact c0), by (exact c0), by (exact c0), by (first | exact wM | exact div_init hN hM b0 b2 cc1 cc2 | (simp; done) | exact div_ge hpn hq3 | exact div_lt hpn hq3 | exact rem_ge hpn hq4 | exact rem_lt hpn (by omega)), by (first | exact wM | exact div_init hN hM b0 b2 cc1 cc2 | (simp; done) | exact div_ge hpn hq3 | exact div_lt hpn hq3 | exact rem_ge hpn hq4 | exact rem_lt hpn (by omega)), by (first | exact wM | exact div_init hN hM b0 b2 cc1 cc2 | (simp; done) | exact div_ge hpn hq3 | exact div_lt hpn hq3 | exact rem_ge hpn hq4 | exact rem_lt hpn (by omega)), by (first | exact wM | exact div_init hN hM b0 b2 cc1 cc2 | (simp; done) | exact div_ge hpn hq3 | exact div_lt hpn hq3 | exact rem_ge hpn hq4 | exact rem_lt hpn (by omega)), by (first | exact wM | exact div_init hN hM b0 b2 cc1 cc2 | (simp; done) | exact div_ge hpn hq3 | exact div_lt hpn hq3 | exact rem_ge hpn hq4 | exact rem_lt hpn (by omega)), rfl⟩
  rintro m' ⟨t, H, k⟩ ⟨n, q, A, g', h0, h1, h6, h7, hq0, hq1, hq2, hq3, hq4, hm⟩ next
  simp only at h0 h1 h6 h7
  refine n1 (j h0 (j h1 (j h6 h7))) ?_
  have hA := hq0.nonneg
  have hgd := hq0.deep
  have hpw : (0 : Int) < 2 ^ n.toNat := Int.pow_pos (by decide)
  by_cases hpn : n ≥ 0
  ·have hqb := div_bd (div_dbl hpn hq3) hA hM hpw (by omega)
   have hqc : M * 2 ^ n.toNat ≤ A → q * 2 + 1 ≤ N / M := fun h => div_bd (div_ge hpn hq3) (by omega) hM (Int.pow_pos (by decide)) (by omega)
   open QNg2 in exact As2
  ·obtain ⟨f1, f2⟩ := div_fin hpn hq3 hA hq4
   open QNg3 in exact As2
  done
 |fail) : p := h
end QNg1
theorem n138 {N M : Int} {L L2 : Nat} {v u : PV} (h : NatV N L v) (g : NatV M L2 u) (hM : 0 < M) (hq : N / M < 18446744073709551616) (hl : L ≤ 134217728) (hl2 : L2 ≤ 134217728) : Pure Tab X G 138 [v, u] (fun r => ∃ w, r = .tup [.int .u64 (N / M), w] ∧ NatV (N % M) L w) := by
 have hN := h.nonneg
 have hd := h.deep
 have gd := g.deep
 refine Fn_of T138 (by simp) ?_
 refine n1 (j hd gd) ?_
 open QNg1 in exact As1
theorem n138q {N M : Int} {L L2 : Nat} {v u : PV} (h : NatV N L v) (g : NatV M L2 u) (hM : 0 < M) (hq : N / M < 18446744073709551616) (hl : L ≤ 134217728) (hl2 : L2 ≤ 134217728) :
  Pure Tab X G 138 [v, u] (fun r => ∃ q m w, r = .tup [.int .u64 q, w] ∧ q = N / M ∧ m = N % M ∧ NatV m L w ∧ 0 ≤ q ∧ q < 18446744073709551616) := by
 obtain ⟨r, c, hf, w, rfl, hw⟩ := n138 (X := X) (G := G) h g hM hq hl hl2
 exact ⟨_, c, hf, _, _, w, rfl, rfl, rfl, hw, Int.ediv_nonneg h.nonneg (Int.le_of_lt hM), hq⟩
end
end Go.Pi
end
section
namespace Go.Pi
def PP : Nat := 2 ^ 1074
theorem PP_int : ((PP : Nat) : Int) = 2 ^ 1074 := by unfold PP; exact Int.natCast_pow 2 1074
theorem PP_pos : (0 : Int) < (PP : Nat) := by rw [PP_int]; exact Int.pow_pos (by decide)
theorem pw_pos (n : Nat) : (0 : Int) < 2 ^ n := Int.pow_pos (by decide)
def ex (e : Int) : Nat := (e + 1074).toNat
theorem rs_pos {M e : Int} (he : e > 0) : M * 2 ^ ex e = M * 2 ^ e.toNat * (PP : Nat) := by
 rw [PP_int, Int.mul_assoc, ← Int.pow_add]
 congr 2
 unfold ex; omega
theorem rs_neg {N e : Int} (he : ¬e > 0) (h : -1074 ≤ e) : N * (PP : Nat) = N * 2 ^ (-e).toNat * 2 ^ ex e := by
 rw [PP_int, Int.mul_assoc, ← Int.pow_add]
 congr 2
 unfold ex; omega
structure Scal (N M e x y c : Int) : Prop where
 pos : 0 < c
 num : N * (PP : Nat) = x * c
 den : M * 2 ^ ex e = y * c
theorem Scal.up {N M e : Int} (he : e > 0) : Scal N M e N (M * 2 ^ e.toNat) (PP : Nat) := ⟨PP_pos, rfl, rs_pos he⟩
theorem Scal.down {N M e : Int} (he : ¬e > 0) (h : -1074 ≤ e) : Scal N M e (N * 2 ^ (-e).toNat) M (2 ^ ex e) := ⟨pw_pos _, rs_neg he h, rfl⟩
structure RndI (N M e : Int) (f : Nat) : Prop where
 least : -1074 ≤ e
 ge : e = -1074 ∨ 9007199254740992 * (M * 2 ^ ex (e - 1)) ≤ N * (PP : Nat)
 lt : f ≤ 1 ∧ (f = 0 → N * (PP : Nat) < 9007199254740992 * (M * 2 ^ ex e)) ∧ N * (PP : Nat) < 18014398509481984 * (M * 2 ^ ex e)
theorem Scal.q_lt {N M e x y c K : Int} (h : Scal N M e x y c) (hy : 0 < y) (hx : 0 ≤ x) (hlt : N * (PP : Nat) < K * (M * 2 ^ ex e)) : x / y < K := by
 rw [h.num, h.den, ← Int.mul_assoc] at hlt
 have := Int.lt_of_mul_lt_mul_right hlt (Int.le_of_lt h.pos)
 exact Int.ediv_lt_of_lt_mul hy this
theorem Scal.q_ge {N M e x y c K : Int} (h : Scal N M e x y c) (hy : 0 < y) (hq : K ≤ x / y) : K * (M * 2 ^ ex e) ≤ N * (PP : Nat) := by
 rw [h.num, h.den, ← Int.mul_assoc]
 have := (Int.le_ediv_iff_mul_le hy).1 hq
 exact Int.mul_le_mul_of_nonneg_right this (Int.le_of_lt h.pos)
theorem Scal.q_ge' {N M e x y c K : Int} (h : Scal N M e x y c) (hy : 0 < y) (hlt : K * (M * 2 ^ ex e) ≤ N * (PP : Nat)) : K ≤ x / y := by
 rw [h.num, h.den, ← Int.mul_assoc] at hlt
 exact (Int.le_ediv_iff_mul_le hy).2 (Int.le_of_mul_le_mul_right hlt h.pos)
theorem ex_succ {e : Int} (h : -1074 ≤ e) : ex (e + 1) = ex e + 1 := by unfold ex; omega
theorem ex_pred {e : Int} (h : -1074 < e) : ex e = ex (e - 1) + 1 := by unfold ex; omega
theorem RndI.next {N M e x y c : Int} {f : Nat} (h : RndI N M e f) (s : Scal N M e x y c) (hy : 0 < y) (hx : 0 ≤ x) (hq : x / y ≥ 9007199254740992) : RndI N M (e + 1) 0 ∧ f = 1 := by
 refine ⟨⟨by have := h.least; omega, .inr ?_, by omega, fun _ => ?_, ?_⟩, ?_⟩
 ·rw [show e + 1 - 1 = e by omega]; exact s.q_ge hy hq
 ·have := h.lt.2.2
  rw [ex_succ h.least, Int.pow_succ]
  have e1 : 9007199254740992 * (M * (2 ^ ex e * 2)) = 18014398509481984 * (M * 2 ^ ex e) := by grind
  rw [e1]; exact this
 ·have := h.lt.2.2
  rw [ex_succ h.least, Int.pow_succ]
  have e1 : 18014398509481984 * (M * (2 ^ ex e * 2)) = 2 * (18014398509481984 * (M * 2 ^ ex e)) := by grind
  have h2 : 0 ≤ N * (PP : Nat) := by rw [s.num]; exact Int.mul_nonneg hx (Int.le_of_lt s.pos)
  omega
 ·rcases Nat.lt_or_ge f 1 with h2 | h2
  ·have := s.q_lt hy hx (h.lt.2.1 (by omega))
   omega
  ·have := h.lt.1; omega
theorem RndI.first {N M n m e : Int} (hN : 0 < N) (hM : 0 < M) (hn : 1 ≤ n) (h1 : N < 2 ^ n.toNat) (h2 : 2 ^ (n - 1).toNat ≤ N) (hm : 1 ≤ m) (g1 : M < 2 ^ m.toNat) (g2 : 2 ^ (m - 1).toNat ≤ M) (he : e = if -1074 > n - m - 53 then -1074 else n - m - 53) : RndI N M e 1 := by
 have hP := PP_pos
 have hup : N * (PP : Nat) < 18014398509481984 * (M * 2 ^ ex e) := by
  have k1 : N * (PP : Nat) < 2 ^ n.toNat * (PP : Nat) := Int.mul_lt_mul_of_pos_right h1 hP
  have k2 : (2 : Int) ^ (m - 1).toNat * (18014398509481984 * 2 ^ ex e) ≤ M * (18014398509481984 * 2 ^ ex e) := Int.mul_le_mul_of_nonneg_right g2 (by have := pw_pos (ex e); omega)
  have k3 : (2 : Int) ^ n.toNat * (PP : Nat) ≤ 2 ^ (m - 1).toNat * (18014398509481984 * 2 ^ ex e) := by
   have e54 : (18014398509481984 : Int) = 2 ^ 54 := by decide
   rw [PP_int, e54, ← Int.pow_add, ← Int.pow_add, ← Int.pow_add]
   obtain ⟨k, hk⟩ : ∃ k, (m - 1).toNat + (54 + ex e) = n.toNat + 1074 + k := ⟨(m - 1).toNat + (54 + ex e) - (n.toNat + 1074), by unfold ex; split at he <;> omega⟩
   rw [hk, Int.pow_add 2 (n.toNat + 1074)]
   have h6 := pw_pos k
   have h7 : (2 : Int) ^ (n.toNat + 1074) * 1 ≤ 2 ^ (n.toNat + 1074) * 2 ^ k := Int.mul_le_mul_of_nonneg_left (by omega) (Int.le_of_lt (pw_pos _))
   omega
  have e2 : M * (18014398509481984 * 2 ^ ex e) = 18014398509481984 * (M * 2 ^ ex e) := by grind
  omega
 refine ⟨by split at he <;> omega, ?_, by omega, by omega, hup⟩
 split at he
 ·exact .inl he
 ·rcases Int.lt_or_le (-1074) e with h | h
  ·refine .inr ?_
   have k1 : (2 : Int) ^ (n - 1).toNat * (PP : Nat) ≤ N * (PP : Nat) := Int.mul_le_mul_of_nonneg_right h2 (Int.le_of_lt hP)
   have k2 : M * (9007199254740992 * 2 ^ ex (e - 1)) ≤ 2 ^ m.toNat * (9007199254740992 * 2 ^ ex (e - 1)) := Int.mul_le_mul_of_nonneg_right (Int.le_of_lt g1) (by have := pw_pos (ex (e - 1)); omega)
   have k3 : (2 : Int) ^ m.toNat * (9007199254740992 * 2 ^ ex (e - 1)) = 2 ^ (n - 1).toNat * (PP : Nat) := by
    have e53 : (9007199254740992 : Int) = 2 ^ 53 := by decide
    rw [PP_int, e53, ← Int.pow_add, ← Int.pow_add, ← Int.pow_add]
    congr 1
    unfold ex; omega
   have e2 : M * (9007199254740992 * 2 ^ ex (e - 1)) = 9007199254740992 * (M * 2 ^ ex (e - 1)) := by grind
   omega
  ·exact .inl (by omega)
theorem RndI.res {N M e x y c q2 v : Int} {f : Nat} (hN : 0 ≤ N) (hM : 0 < M) (h : RndI N M e f) (s : Scal N M e x y c) (hy : 0 < y) (hx : 0 ≤ x) (hq : ¬x / y ≥ 9007199254740992)
  (hq2 : q2 = if y < x % y * 2 ∨ x % y * 2 = y ∧ x / y % 2 = 1 then x / y + 1 else x / y) (hv : v = min (ex e * 4503599627370496 + q2) (2047 * 4503599627370496)) : RndR PP N.toNat M.toNat v.toNat := by
 have eN : ((N.toNat : Nat) : Int) = N := Int.toNat_of_nonneg hN
 have eM : ((M.toNat : Nat) : Int) = M := Int.toNat_of_nonneg (Int.le_of_lt hM)
 have hlt : N * (PP : Nat) < 9007199254740992 * (M * 2 ^ ex e) := by
  rcases Int.lt_or_le (N * (PP : Nat)) (9007199254740992 * (M * 2 ^ ex e)) with h | h
  ·exact h
  ·exact absurd (s.q_ge' hy h) hq
 have hat : RndAt PP N.toNat M.toNat (ex e) := by
  constructor
  ·have : ((N.toNat * PP : Nat) : Int) < ((9007199254740992 * (M.toNat * 2 ^ ex e) : Nat) : Int) := by
    simp only [Int.natCast_mul, Int.natCast_pow, eN, eM]; exact hlt
   omega
  ·rcases h.ge with h1 | h1
   ·left; unfold ex; omega
   ·rcases Int.lt_or_le (-1074) e with h2 | h2
    ·refine .inr ⟨ex (e - 1), ex_pred h2, ?_⟩
     have : ((9007199254740992 * (M.toNat * 2 ^ ex (e - 1)) : Nat) : Int) ≤ ((N.toNat * PP : Nat) : Int) := by
      simp only [Int.natCast_mul, Int.natCast_pow, eN, eM]; exact h1
     omega
    ·left; unfold ex; omega
 have hD : (0 : Int) < M * 2 ^ ex e := Int.mul_pos hM (pw_pos _)
 have eq1 : N * (PP : Nat) / (M * 2 ^ ex e) = x / y := by
  rw [s.num, s.den]; exact Int.mul_ediv_mul_of_pos_left _ _ s.pos
 have eq2 : N * (PP : Nat) % (M * 2 ^ ex e) = x % y * c := by
  rw [s.num, s.den, Int.mul_comm x c, Int.mul_comm y c, Int.mul_emod_mul_of_pos _ _ s.pos, Int.mul_comm]
 obtain ⟨Nn, hNn⟩ : ∃ k : Nat, k = N.toNat * PP := ⟨_, rfl⟩
 obtain ⟨D, hD2⟩ : ∃ k : Nat, k = M.toNat * 2 ^ ex e := ⟨_, rfl⟩
 have iN : ((Nn : Nat) : Int) = N * (PP : Nat) := by rw [hNn, Int.natCast_mul, eN]
 have iD : ((D : Nat) : Int) = M * 2 ^ ex e := by rw [hD2, Int.natCast_mul, eM, Int.natCast_pow]; rfl
 have iq : ((Nn / D : Nat) : Int) = x / y := by rw [Int.natCast_ediv, iN, iD, eq1]
 have ir : ((Nn % D : Nat) : Int) = x % y * c := by rw [Int.natCast_emod, iN, iD, eq2]
 have hxy : 0 ≤ x / y := Int.ediv_nonneg hx (Int.le_of_lt hy)
 have hc := s.pos
 have iD' : ((D : Nat) : Int) = y * c := by rw [iD, s.den]
 have c1 : D < 2 * (Nn % D) ↔ y < x % y * 2 := by
  constructor
  ·intro h
   have h' : ((D : Nat) : Int) < 2 * ((Nn % D : Nat) : Int) := by omega
   rw [iD', ir, show 2 * (x % y * c) = x % y * 2 * c by grind] at h'
   exact Int.lt_of_mul_lt_mul_right h' (Int.le_of_lt hc)
  ·intro h
   have h' : y * c < x % y * 2 * c := Int.mul_lt_mul_of_pos_right h hc
   rw [show x % y * 2 * c = 2 * (x % y * c) by grind, ← iD', ← ir] at h'
   omega
 have c2 : 2 * (Nn % D) = D ↔ x % y * 2 = y := by
  constructor
  ·intro h
   have h' : 2 * ((Nn % D : Nat) : Int) = ((D : Nat) : Int) := by omega
   rw [iD', ir, show 2 * (x % y * c) = x % y * 2 * c by grind] at h'
   exact Int.eq_of_mul_eq_mul_right (by omega) h'
  ·intro h
   have h' : x % y * 2 * c = y * c := by rw [h]
   rw [show x % y * 2 * c = 2 * (x % y * c) by grind, ← iD', ← ir] at h'
   omega
 have c3 : Nn / D % 2 = 1 ↔ x / y % 2 = 1 := by omega
 refine rnd_end (q2 := q2.toNat) hat rfl rfl ?_ ?_
 ·rw [← hNn, ← hD2, hq2]
  by_cases hcd : y < x % y * 2 ∨ x % y * 2 = y ∧ x / y % 2 = 1
  ·rw [if_pos hcd, if_pos (by rw [c1, c2, c3]; exact hcd)]; omega
  ·rw [if_neg hcd, if_neg (by rw [c1, c2, c3]; exact hcd)]; omega
 ·have hq20 : 0 ≤ q2 := by rw [hq2]; split <;> omega
  rw [hv]
  clear hat hD iD eq1 eq2 iD' c1 c2 c3 ir iq iN hlt s h hD2
  generalize ex e = E
  obtain ⟨k, rfl⟩ := Int.eq_ofNat_of_zero_le hq20
  rw [show min ((E : Int) * 4503599627370496 + (k : Int)) (2047 * 4503599627370496) = ((min (E * 4503599627370496 + k) (2047 * 4503599627370496) : Nat) : Int) from ?_]
  ·rw [Int.toNat_natCast, Int.toNat_natCast]
  ·generalize hz : E * 4503599627370496 + k = z
   have hz2 : (E : Int) * 4503599627370496 + (k : Int) = (z : Int) := by rw [← hz, Int.natCast_add, Int.natCast_mul]; rfl
   rw [hz2]
   rw [show (2047 * 4503599627370496 : Int) = ((9218868437227405312 : Nat) : Int) from rfl, show (2047 * 4503599627370496 : Nat) = 9218868437227405312 from rfl]
   clear hz hz2
   generalize (9218868437227405312 : Nat) = w
   omega
theorem RndI.q52 {N M e x y c : Int} {f : Nat} (h : RndI N M e f) (s : Scal N M e x y c) (hy : 0 < y) : e = -1074 ∨ 4503599627370496 ≤ x / y := by
 rcases h.ge with h1 | h1
 ·exact .inl h1
 ·rcases Int.lt_or_le (-1074) e with h2 | h2
  ·refine .inr (s.q_ge' hy ?_)
   rw [ex_pred h2, Int.pow_succ, show 4503599627370496 * (M * (2 ^ ex (e - 1) * 2)) = 9007199254740992 * (M * 2 ^ ex (e - 1)) by grind]
   exact h1
  ·exact .inl (by have := h.least; omega)
theorem ex_eq {e : Int} (h : -1074 ≤ e) : ((ex e : Nat) : Int) = e + 1074 := by unfold ex; omega
end Go.Pi
end
section
open Go Go.Pi
namespace Go.Pi
variable {p q a : Prop}
set_option maxRecDepth 100000
set_option maxHeartbeats 0
section
variable {X : CallF} {G : Nat → PV}
def RoundR (N M : Int) (r : PV) : Prop := ∃ v, r = .int .u64 v ∧ 0 ≤ v ∧ v < 18446744073709551616 ∧ RndR PP N.toNat M.toNat v.toNat
theorem RoundR.zero {M : Int} (hM : 0 < M) : RoundR 0 M (.int .u64 0) := by
 have hD : 0 < M.toNat * 2 ^ 0 := by omega
 refine ⟨0, rfl, by omega, by omega, 0, ⟨by simp; omega, .inl rfl⟩, ?_⟩
 simp [rndQ]
namespace QNh2
theorem fB2 (x : a) (g : q) (h : a → q → p := by (intro x g; exact n1 (j x (j h0 (j h1 (j h5 (j hd (j gd (j hep (j shl52 (j @Int.zero_sub hTT))))))))) g)) : p := h x g
theorem kN2 (h : p := by
 first
 |(refine next _ ?_ _ ⟨_, _, by (exact c1 (j h0 (j h1 h5))), by (exact c1 (j h0 (j h1 h5))), by (exact c1 (j h0 (j h1 h5))), by (first | exact wM | exact RndI.first hN1 hM d1 b2 d2 cc1 hnb2 cc2 rfl | (split <;> omega) | exact (hq0.next sc hy hx0 (by rw [← hqe]; omega)).1 | (have := (hq0.next sc hy hx0 (by rw [← hqe]; omega)).2; omega)), by (first | exact wM | exact RndI.first hN1 hM d1 b2 d2 cc1 hnb2 cc2 rfl | (split <;> omega) | exact (hq0.next sc hy hx0 (by rw [← hqe]; omega)).1 | (have := (hq0.next sc hy hx0 (by rw [← hqe]; omega)).2; omega)), rfl⟩; (first | exact wM | exact RndI.first hN1 hM d1 b2 d2 cc1 hnb2 cc2 rfl | (split <;> omega) | exact (hq0.next sc hy hx0 (by rw [← hqe]; omega)).1 | (have := (hq0.next sc hy hx0 (by rw [← hqe]; omega)).2; omega)))
 |fail) : p := h
theorem kA2 (h : p := by
 first
 |((refine ⟨_, rfl, by omega, by omega, hq0.res (q2 := q + 1) hN hM sc hy hx0 (by rw [← hqe]; omega) (by rw [← hqe, ← hme, if_pos (by omega)]) (by rw [ex_eq hms]; omega)⟩)) <;> exact As2
 |((refine ⟨_, rfl, by omega, by omega, hq0.res (q2 := q) hN hM sc hy hx0 (by rw [← hqe]; omega) (by rw [← hqe, ← hme, if_neg (by omega)]) (by rw [ex_eq hms]; omega)⟩)) <;> exact As2
 |fail) : p := h
theorem kB2 (h : p := by
 first
 |(refine MC_pure (n139 e g (by omega) (by omega) (by omega)) pQ dQ2 ?_; rintro xx hxx; have hgd := hxx.deep; refine fB2 hgd ?_; exact As2)
 |(refine MC_pure (n138q h hxx hy (by omega) (by omega) (by omega)) pQ dQ2 ?_; rintro _ ⟨q, m, w, rfl, hqe, hme, hw, hqq0, hqq1⟩; rw [← hqe] at hqlt hq52; have hgd := hw.deep; refine fB2 hgd ?_; exact As2)
 |(refine MC_pure (n139 1 hw (by omega) (by omega) (by omega)) pQ dQ2 ?_; rintro x2 hx2; have hgd := hx2.deep; refine fB2 hgd ?_; exact As2)
 |(refine MC_pure (n136 hx2 hxx (by omega) (by omega)) pQ dQ2 ?_; rintro _ ⟨c, rfl, hc⟩; rw [show (2 : Int) ^ (1 : Int).toNat = 2 from rfl] at hc; have hgd := hd; refine fB2 hgd ?_; exact As2)
 |fail) : p := h
end QNh2
namespace QNh3
theorem fB2 (x : a) (g : q) (h : a → q → p := by (intro x g; exact n1 (j x (j h0 (j h1 (j h5 (j hd (j gd (j hep (j shl52 (j @Int.zero_sub hTT))))))))) g)) : p := h x g
theorem kN2 (h : p := by
 first
 |(refine next _ ?_ _ ⟨_, _, by (exact c1 (j h0 (j h1 h5))), by (exact c1 (j h0 (j h1 h5))), by (exact c1 (j h0 (j h1 h5))), by (first | exact wM | exact RndI.first hN1 hM d1 b2 d2 cc1 hnb2 cc2 rfl | (split <;> omega) | exact (hq0.next sc hy hx0 (by rw [← hqe]; omega)).1 | (have := (hq0.next sc hy hx0 (by rw [← hqe]; omega)).2; omega)), by (first | exact wM | exact RndI.first hN1 hM d1 b2 d2 cc1 hnb2 cc2 rfl | (split <;> omega) | exact (hq0.next sc hy hx0 (by rw [← hqe]; omega)).1 | (have := (hq0.next sc hy hx0 (by rw [← hqe]; omega)).2; omega)), rfl⟩; (first | exact wM | exact RndI.first hN1 hM d1 b2 d2 cc1 hnb2 cc2 rfl | (split <;> omega) | exact (hq0.next sc hy hx0 (by rw [← hqe]; omega)).1 | (have := (hq0.next sc hy hx0 (by rw [← hqe]; omega)).2; omega)))
 |fail) : p := h
theorem kA2 (h : p := by
 first
 |((refine ⟨_, rfl, by omega, by omega, hq0.res (q2 := q + 1) hN hM sc hy hx0 (by rw [← hqe]; omega) (by rw [← hqe, ← hme, if_pos (by omega)]) (by rw [ex_eq hms]; omega)⟩)) <;> exact As2
 |((refine ⟨_, rfl, by omega, by omega, hq0.res (q2 := q) hN hM sc hy hx0 (by rw [← hqe]; omega) (by rw [← hqe, ← hme, if_neg (by omega)]) (by rw [ex_eq hms]; omega)⟩)) <;> exact As2
 |fail) : p := h
theorem kB2 (h : p := by
 first
 |(refine MC_pure (n139 (-e) h (by omega) (by omega) (by omega)) pQ dQ2 ?_; rintro xx hxx; have hgd := hxx.deep; refine fB2 hgd ?_; exact As2)
 |(refine MC_pure (n138q hxx g hy (by omega) (by omega) (by omega)) pQ dQ2 ?_; rintro _ ⟨q, m, w, rfl, hqe, hme, hw, hqq0, hqq1⟩; rw [← hqe] at hqlt hq52; have hgd := hw.deep; refine fB2 hgd ?_; exact As2)
 |(refine MC_pure (n139 1 hw (by omega) (by omega) (by omega)) pQ dQ2 ?_; rintro x2 hx2; have hgd := hx2.deep; refine fB2 hgd ?_; exact As2)
 |(refine MC_pure (n136 hx2 g (by omega) (by omega)) pQ dQ2 ?_; rintro _ ⟨c, rfl, hc⟩; rw [show (2 : Int) ^ (1 : Int).toNat = 2 from rfl] at hc; have hgd := hd; refine fB2 hgd ?_; exact As2)
 |fail) : p := h
end QNh3
namespace QNh1
theorem fB1 (x : a) (g : q) (h : a → q → p := by (intro x g; exact n1 (j x (j hd (j gd (j hv (j hlen hTT))))) g)) : p := h x g
theorem kA1 (h : p := by
 first
 |((have e : a = [] := List.eq_nil_of_length_eq_zero (by omega); subst e; simp only [vl] at ha; subst ha; exact RoundR.zero hM)) <;> exact As1
 |fail) : p := h
theorem kB1 (h : p := by
 first
 |(refine MC_pure (n160 (by assumption) (by omega)) pQ dQ1 ?_; rintro _ ⟨nb, rfl, hnb0, hnb1, hnb2, hnb3⟩; have hgd := hd; refine fB1 hgd ?_; exact As1)
 |fail) : p := h
theorem kZ1 (h : p := by
 first
 |skip
  rename_i nN b0 b1 b2 b3 gdd
  have hN1 : 0 < N := by
   rcases Int.lt_or_le 0 N with h1 | h1
   ·exact h1
   ·have := vl_zero hla hta (by omega)
    subst this
    simp at *
  obtain ⟨cc1, cc2⟩ := hnb3 hM
  obtain ⟨d1, d2⟩ := b3 hN1
  refine M_loop (fun m' s' => ∃ (e : Int) (f : Nat), s'.t 0 = v ∧ s'.t 1 = u ∧ s'.t 5 = .int .i64 e ∧ (RndI N M e f) ∧ (e ≤ 32 * L + 1 - f) ∧ m' = f) ?_ (n := _) ⟨_, 1, by (exact c0), by (exact c0), by (exact c0), by (first | exact wM | exact RndI.first hN1 hM d1 b2 d2 cc1 hnb2 cc2 rfl | (split <;> omega) | exact (hq0.next sc hy hx0 (by rw [← hqe]; omega)).1 | (have := (hq0.next sc hy hx0 (by rw [← hqe]; omega)).2; omega)), by (first | exact wM | exact RndI.first hN1 hM d1 b2 d2 cc1 hnb2 cc2 rfl | (split <;> omega) | exact (hq0.next sc hy hx0 (by rw [← hqe]; omega)).1 | (have := (hq0.next sc hy hx0 (by rw [← hqe]; omega)).2; omega)), rfl⟩
  rintro m' ⟨t, H, k⟩ ⟨e, f, h0, h1, h5, hq0, hq1, hm⟩ next
  simp only at h0 h1 h5
  refine n1 (j h0 (j h1 h5)) ?_
  have hms := hq0.least
  have hf1 := hq0.lt.1
  by_cases hep : e > 0
  ·have sc := Scal.up (N := N) (M := M) hep
   have hy : 0 < M * 2 ^ e.toNat := Int.mul_pos hM (pw_pos _)
   have hx0 := hN
   have hqlt := sc.q_lt hy hx0 hq0.lt.2.2
   have hq52 := hq0.q52 sc hy
   open QNh2 in exact As2
  ·have sc := Scal.down (N := N) (M := M) hep hms
   have hy := hM
   have hx0 : 0 ≤ N * 2 ^ (-e).toNat := Int.mul_nonneg hN (Int.le_of_lt (pw_pos _))
   have hqlt := sc.q_lt hy hx0 hq0.lt.2.2
   have hq52 := hq0.q52 sc hy
   open QNh3 in exact As2
  done
 |fail) : p := h
end QNh1
theorem n162 {N M : Int} {L L2 : Nat} {v u : PV} (h : NatV N L v) (g : NatV M L2 u) (hM : 0 < M) (hl : L ≤ 33554432) (hl2 : L2 ≤ 33554432) : Pure Tab X G 162 [v, u] (RoundR N M) := by
 have hN := h.nonneg
 have hd := h.deep
 have gd := g.deep
 have h' := h
 obtain ⟨a, hva, hla, hta, ha, hna⟩ := h'
 have hv := hva.sls
 have hlen := hva.len
 refine Fn_of T162 (by simp) ?_
 refine n1 (j hd (j gd (j hv hlen))) ?_
 open QNh1 in exact As1
end
end Go.Pi
end
section
namespace Go.Pi
def cel (a : List Int) : List PV := a.map fun x => .int .u64 x
theorem cel_lims (a : List Int) : (lims a).flatten = cel a := by
 induction a with
 |nil => rfl
 |cons x xs ih => simp only [lims, cel, List.map_cons, List.flatten_cons] at *; rw [ih]; rfl
theorem cel_len (a : List Int) : (cel a).length = a.length := by simp [cel]
theorem cel_zeros (n : Nat) : (List.replicate n [PV.int .u64 0]).flatten = cel (List.replicate n 0) := by rw [← cel_lims]; exact (lims_zeros n).symm
theorem cel_set {a : List Int} {k : Nat} {y : Int} (hk : k < a.length) : splice (cel a) k [.int .u64 y] = cel (a.set k y) := by
 simp only [splice, cel, List.map_set, List.length_cons, List.length_nil, Nat.zero_add]
 rw [List.set_eq_take_append_cons_drop, if_pos (by simpa using hk)]
 simp
theorem cel_set1 {a : List Int} {k : Nat} {y : Int} (hk : k < a.length) : List.take (k * 1) (cel a) ++ [PV.int .u64 y] ++ List.drop (k * 1 + 1) (cel a) = cel (a.set k y) := by
 rw [Nat.mul_one]; exact cel_set hk
theorem Grow.cel {H : Heap} {id st : Nat} {A : List Nat} {a : List Int} (hA : id ∈ A) (hH : H id = some ⟨43, st, cel a, 1⟩) : Grow A H 43 1 (.row id st a.length) (lims a) :=
 ⟨fun y hy => by
  simp only [lims, List.mem_map] at hy
  obtain ⟨x, _, rfl⟩ := hy
  exact ⟨rfl, rfl⟩, .inr ⟨id, st, hA, by rw [lims_len], by rw [cel_lims]; exact hH⟩⟩
theorem Lim.set {a : List Int} {k : Nat} {y : Int} (h : Lim a) (h0 : 0 ≤ y) (h1 : y < 4294967296) : Lim (a.set k y) := by
 intro x hx
 rcases List.mem_or_eq_of_mem_set hx with hx | hx
 ·exact h x hx
 ·subst hx; exact ⟨h0, h1⟩
theorem ten_step {a nx : List Int} {k x r : Int} (hk : 0 ≤ k) (hx : a[k.toNat]? = some x) (hl : nx.length = a.length) (h : vl (a.drop (k + 1).toNat) = 10 * vl (nx.drop (k + 1).toNat) + r) :
  vl (a.drop (k - 1 + 1).toNat) = 10 * vl ((nx.set k.toNat ((r * 4294967296 + x) / 10)).drop (k - 1 + 1).toNat) + (r * 4294967296 + x) % 10 := by
 have ha : k.toNat < a.length := by
  rcases Nat.lt_or_ge k.toNat a.length with h2 | h2
  ·exact h2
  ·rw [List.getElem?_eq_none h2] at hx; cases hx
 rw [show (k - 1 + 1).toNat = k.toNat by omega]
 rw [show (k + 1).toNat = k.toNat + 1 by omega] at h
 rw [List.getElem?_eq_getElem ha] at hx
 rw [List.drop_eq_getElem_cons ha, Option.some.inj hx, List.drop_eq_getElem_cons (l := nx.set k.toNat _) (by simp; omega), List.getElem_set_self, List.drop_set_of_lt (by omega)]
 simp only [vl]
 rw [h]
 omega
theorem ten_end {a nx : List Int} {k r : Int} (hk : ¬k ≥ 0) (h : vl (a.drop (k + 1).toNat) = 10 * vl (nx.drop (k + 1).toNat) + r) : vl a = 10 * vl nx + r := by
 rw [show (k + 1).toNat = 0 by omega] at h
 simpa using h
theorem ten_lt {i K : Nat} {n N : Int} (hn : 0 < n) (h : n * 10 ^ i ≤ N) (hK : N < 10 ^ K) : i < K := by
 rcases Nat.lt_or_ge i K with h2 | h2
 ·exact h2
 ·exfalso
  obtain ⟨c, rfl⟩ : ∃ c, i = K + c := ⟨i - K, by omega⟩
  have h1 : (0 : Int) < 10 ^ (K + c) := Int.pow_pos (by decide)
  have h3 : (1 : Int) * 10 ^ (K + c) ≤ n * 10 ^ (K + c) := Int.mul_le_mul_of_nonneg_right (by omega) (by omega)
  have h4 : (0 : Int) < 10 ^ c := Int.pow_pos (by decide)
  have h5 : (10 : Int) ^ K * 1 ≤ 10 ^ K * 10 ^ c := Int.mul_le_mul_of_nonneg_left (by omega) (Int.le_of_lt (Int.pow_pos (by decide)))
  rw [Int.pow_add] at h3
  rw [Int.pow_add] at h
  omega
theorem ten_next {i : Nat} {n m r N : Int} (hr : 0 ≤ r) (e : n = 10 * m + r) (h : n * 10 ^ i ≤ N) : m * 10 ^ (1 + i) ≤ N := by
 have h1 : (0 : Int) < 10 ^ i := Int.pow_pos (by decide)
 have h3 : 10 * m * 10 ^ i ≤ n * 10 ^ i := Int.mul_le_mul_of_nonneg_right (by omega) (by omega)
 rw [Nat.add_comm, Int.pow_succ, show m * (10 ^ i * 10) = 10 * m * 10 ^ i by grind]
 omega
theorem limbs_ten {a : List Int} {L : Nat} (ha : Lim a) (hl : a.length ≤ L) : vl a < 10 ^ (10 * L) := by
 have h1 := vl_lt ha
 have h2 := pow_mono' hl
 have h3 : (4294967296 : Int) ^ L ≤ 10 ^ (10 * L) := by
  rw [Int.pow_mul]
  have : (10 : Int) ^ 10 = 10000000000 := by decide
  rw [this]
  clear h1 h2 hl
  induction L with
  |zero => simp
  |succ n ih =>
   rw [Int.pow_succ, Int.pow_succ]
   exact Int.mul_le_mul ih (by decide) (by decide) (Int.le_of_lt (Int.pow_pos (by decide)))
 omega
end Go.Pi
end
section
namespace Go.Pi
def bE (b : Int) : Nat := ((if b / 4503599627370496 = 0 then 1 else b / 4503599627370496) - 1).toNat
def bM (b : Int) : Int := if b / 4503599627370496 = 0 then b % 4503599627370496 else b % 4503599627370496 + 4503599627370496
theorem bEM {b : Int} (h0 : 0 < b) (h1 : b < 9218868437227405312) : (bE b : Int) * 4503599627370496 + bM b = b ∧ 0 < bM b ∧ bM b < 9007199254740992 ∧ (bE b = 0 ∨ 4503599627370496 ≤ bM b) ∧ bE b ≤ 2045 := by
 unfold bE bM
 split <;> omega
theorem p10 (n : Nat) : (0 : Int) < 10 ^ n := Int.pow_pos (by decide)
theorem p10_split {a b c : Nat} (h : c = a + b) : (10 : Int) ^ c = 10 ^ a * 10 ^ b := by rw [h, Int.pow_add]
theorem nat_pow10 (n : Nat) : ((10 : Int) ^ n).toNat = 10 ^ n := by
 have : ((10 ^ n : Nat) : Int) = (10 : Int) ^ n := Int.natCast_pow 10 n
 rw [← this, Int.toNat_natCast]
theorem short17 {A B b n v : Int} (hb0 : 0 < b) (hb1 : b < 9218868437227405312) (hA0 : 0 ≤ A) (hB : 0 < B) (hAB : A * (PP : Nat) = bM b * 2 ^ bE b * B) (hv : 0 ≤ v)
  (lo1 : 1 ≤ n → B * 10 ^ (n - 1).toNat ≤ A) (lo2 : n ≤ 0 → B ≤ A * 10 ^ (1 - n).toNat) {x y q Q : Int} (hx : x = A * 10 ^ (17 - n).toNat) (hy : y = B * 10 ^ (n - 17).toNat) (hq : q = x / y) (hQ : Q = if y ≤ x % y * 2 then q + 1 else q)
  (hr : RndR PP (Q * 10 ^ (n - 17).toNat).toNat ((10 : Int) ^ (17 - n).toNat).toNat v.toNat) : v = b := by
 obtain ⟨e1, e2, e3, e4, e5⟩ := bEM hb0 hb1
 obtain ⟨a, rfl⟩ := Int.eq_ofNat_of_zero_le hA0
 obtain ⟨d, rfl⟩ := Int.eq_ofNat_of_zero_le (Int.le_of_lt hB)
 obtain ⟨m, hm⟩ := Int.eq_ofNat_of_zero_le (Int.le_of_lt e2)
 have hd : 0 < d := by omega
 have hAB' : a * PP = m * 2 ^ bE b * d := by
  rw [hm] at hAB
  have : ((a * PP : Nat) : Int) = ((m * 2 ^ bE b * d : Nat) : Int) := by
   rw [Int.natCast_mul, Int.natCast_mul, Int.natCast_mul, Int.natCast_pow]; exact hAB
  omega
 rw [nat_pow10] at hr
 have key : v.toNat = bE b * 4503599627370496 + m := by
  rcases Int.lt_or_le 17 n with h17 | h17
  ·have ex0 : (17 - n).toNat = 0 := by omega
   obtain ⟨i, hi⟩ : ∃ i, (n - 17).toNat = i := ⟨_, rfl⟩
   rw [ex0, Int.pow_zero, Int.mul_one] at hx
   rw [hi] at hy hr
   rw [ex0, Nat.pow_zero] at hr
   have hlo := lo1 (by omega)
   rw [p10_split (show (n - 1).toNat = 16 + i by omega)] at hlo
   subst hx hy
   have ey : ((d : Int) * 10 ^ i) = ((d * 10 ^ i : Nat) : Int) := by rw [Int.natCast_mul, Int.natCast_pow]; rfl
   rw [ey] at hq hQ
   have eQ : Q = ((if d * 10 ^ i ≤ 2 * (a % (d * 10 ^ i)) then a / (d * 10 ^ i) + 1 else a / (d * 10 ^ i) : Nat) : Int) := by
    rw [hQ, hq, ← Int.natCast_ediv, ← Int.natCast_emod]
    split
    ·rename_i h; rw [if_pos (by omega)]; rfl
    ·rename_i h; rw [if_neg (by omega)]
   have e10 : Q * (10 : Int) ^ i = ((Q.toNat * 10 ^ i : Nat) : Int) := by
    rw [Int.natCast_mul, Int.natCast_pow, Int.toNat_of_nonneg (by rw [eQ]; omega)]; rfl
   rw [e10, Int.toNat_natCast] at hr
   refine short_up (P := PP) (Q := Q.toNat) (i := i) hd hAB' (by omega) (by omega) e5 ?_ (by rw [eQ, Int.toNat_natCast]) hr
   have : ((10000000000000000 * 10 ^ i * d : Nat) : Int) ≤ (a : Int) := by
    rw [Int.natCast_mul, Int.natCast_mul, Int.natCast_pow]
    have e16 : (10 : Int) ^ 16 = 10000000000000000 := by decide
    rw [e16] at hlo
    have : ((10000000000000000 : Nat) : Int) * ((10 : Nat) : Int) ^ i * (d : Int) = (d : Int) * (10000000000000000 * 10 ^ i) := by
     rw [show ((10 : Nat) : Int) = 10 from rfl, show ((10000000000000000 : Nat) : Int) = 10000000000000000 from rfl]; grind
    omega
   omega
  ·have ex0 : (n - 17).toNat = 0 := by omega
   obtain ⟨j, hj⟩ : ∃ j, (17 - n).toNat = j := ⟨_, rfl⟩
   rw [ex0, Int.pow_zero, Int.mul_one] at hy
   rw [hj] at hx hr
   rw [ex0, Int.pow_zero, Int.mul_one] at hr
   have hlo : (d : Int) * 10000000000000000 ≤ a * 10 ^ j := by
    have e16 : (10 : Int) ^ 16 = 10000000000000000 := by decide
    rcases Int.lt_or_le 0 n with h | h
    ·have h1 := lo1 (by omega)
     have h2 := Int.mul_le_mul_of_nonneg_right h1 (Int.le_of_lt (p10 j))
     rw [Int.mul_assoc, ← Int.pow_add, show (n - 1).toNat + j = 16 by omega, e16] at h2
     exact h2
    ·have h1 := lo2 (by omega)
     have h2 := Int.mul_le_mul_of_nonneg_right h1 (Int.le_of_lt (p10 16))
     rw [Int.mul_assoc (a : Int), ← Int.pow_add, show (1 - n).toNat + 16 = j by omega, e16] at h2
     exact h2
   subst hx hy
   have ex1 : ((a : Int) * 10 ^ j) = ((a * 10 ^ j : Nat) : Int) := by rw [Int.natCast_mul, Int.natCast_pow]; rfl
   rw [ex1] at hq hQ hlo
   have eQ : Q = ((if d ≤ 2 * (a * 10 ^ j % d) then a * 10 ^ j / d + 1 else a * 10 ^ j / d : Nat) : Int) := by
    rw [hQ, hq, ← Int.natCast_ediv, ← Int.natCast_emod]
    split
    ·rename_i h; rw [if_pos (by omega)]; rfl
    ·rename_i h; rw [if_neg (by omega)]
   refine short_down (P := PP) (Q := Q.toNat) (j := j) hd hAB' (by omega) (by omega) e5 (by omega) (by rw [eQ, Int.toNat_natCast]) hr
 omega
set_option exponentiation.threshold 2000 in
theorem two_ten : (2 : Int) ^ 1300 ≤ 10 ^ 400 := by
 have h : 2 ^ 1300 ≤ 10 ^ 400 := by
  rw [show 1300 = 13 * 100 from rfl, show 400 = 4 * 100 from rfl, Nat.pow_mul, Nat.pow_mul]
  exact Nat.pow_le_pow_left (by decide) 100
 have h2 : ((2 ^ 1300 : Nat) : Int) ≤ ((10 ^ 400 : Nat) : Int) := Int.ofNat_le.2 h
 rw [Int.natCast_pow, Int.natCast_pow] at h2
 exact h2
theorem pow2_mono {a b : Nat} (h : a ≤ b) : (2 : Int) ^ a ≤ 2 ^ b := by
 obtain ⟨k, rfl⟩ : ∃ k, b = a + k := ⟨b - a, by omega⟩
 rw [Int.pow_add]
 have h6 := pw_pos k
 have h7 : (2 : Int) ^ a * 1 ≤ 2 ^ a * 2 ^ k := Int.mul_le_mul_of_nonneg_left (by omega) (Int.le_of_lt (pw_pos _))
 omega
theorem up_lt {A B b : Int} (hb0 : 0 < b) (hb1 : b < 9218868437227405312) (hB : 0 < B) (hAB : A * (PP : Nat) = bM b * 2 ^ bE b * B) {n : Int} (h : B * 10 ^ n.toNat ≤ A) : n < 400 := by
 obtain ⟨e1, e2, e3, e4, e5⟩ := bEM hb0 hb1
 rcases Int.lt_or_le n 400 with h4 | h4
 ·exact h4
 ·exfalso
  have hP := PP_pos
  have k1 : B * 10 ^ n.toNat * (PP : Nat) ≤ bM b * 2 ^ bE b * B := by rw [← hAB]; exact Int.mul_le_mul_of_nonneg_right h (Int.le_of_lt hP)
  have k2 : bM b * 2 ^ bE b < 2 ^ 53 * 2 ^ 2045 := by
   have h5 : (2 : Int) ^ bE b ≤ 2 ^ 2045 := by
    obtain ⟨k, hk⟩ : ∃ k, 2045 = bE b + k := ⟨2045 - bE b, by omega⟩
    rw [hk, Int.pow_add]
    have h6 := pw_pos k
    have h7 : (2 : Int) ^ bE b * 1 ≤ 2 ^ bE b * 2 ^ k := Int.mul_le_mul_of_nonneg_left (by omega) (Int.le_of_lt (pw_pos _))
    omega
   have e53 : (2 : Int) ^ 53 = 9007199254740992 := by decide
   have h8 : bM b * 2 ^ bE b < 9007199254740992 * 2 ^ bE b := Int.mul_lt_mul_of_pos_right e3 (pw_pos _)
   have h9 : (9007199254740992 : Int) * 2 ^ bE b ≤ 9007199254740992 * 2 ^ 2045 := Int.mul_le_mul_of_nonneg_left h5 (by omega)
   rw [e53]
   exact Int.lt_of_lt_of_le h8 h9
  have k3 : (2 : Int) ^ 53 * 2 ^ 2045 ≤ 10 ^ n.toNat * (PP : Nat) := by
   have h5 : (10 : Int) ^ 400 ≤ 10 ^ n.toNat := by
    obtain ⟨k, hk⟩ : ∃ k, n.toNat = 400 + k := ⟨n.toNat - 400, by omega⟩
    rw [hk, Int.pow_add]
    have h6 := p10 k
    have h7 : (10 : Int) ^ 400 * 1 ≤ 10 ^ 400 * 10 ^ k := Int.mul_le_mul_of_nonneg_left (by omega) (Int.le_of_lt (p10 _))
    omega
   have h6 : (10 : Int) ^ 400 * (PP : Nat) ≤ 10 ^ n.toNat * (PP : Nat) := Int.mul_le_mul_of_nonneg_right h5 (Int.le_of_lt hP)
   have h7 : (2 : Int) ^ 53 * 2 ^ 2045 ≤ 10 ^ 400 * 2 ^ 1074 := by
    rw [← Int.pow_add]
    refine Int.le_trans (pow2_mono (show 53 + 2045 ≤ 1300 + 1074 by decide)) ?_
    rw [Int.pow_add]
    exact Int.mul_le_mul_of_nonneg_right two_ten (Int.le_of_lt (pw_pos _))
   rw [PP_int] at *
   exact Int.le_trans h7 h6
  have k4 : bM b * 2 ^ bE b * B < 10 ^ n.toNat * (PP : Nat) * B := Int.mul_lt_mul_of_pos_right (Int.lt_of_lt_of_le k2 k3) hB
  have k5 : (10 : Int) ^ n.toNat * (PP : Nat) * B = B * 10 ^ n.toNat * (PP : Nat) := by grind
  omega
theorem down_gt {A B b : Int} (hb0 : 0 < b) (hb1 : b < 9218868437227405312) (hA : 0 ≤ A) (hB : 0 < B) (hAB : A * (PP : Nat) = bM b * 2 ^ bE b * B) {n : Int} (h : A * 10 ^ (1 - n).toNat < B) : -400 < n := by
 obtain ⟨e1, e2, e3, e4, e5⟩ := bEM hb0 hb1
 rcases Int.lt_or_le (-400) n with h4 | h4
 ·exact h4
 ·exfalso
  have hP := PP_pos
  have k1 : 1 * B ≤ bM b * 2 ^ bE b * B := Int.mul_le_mul_of_nonneg_right (by
   have h6 := pw_pos (bE b)
   have h7 : (1 : Int) * 1 ≤ bM b * 2 ^ bE b := Int.mul_le_mul (by omega) (by omega) (by omega) (by omega)
   omega) (Int.le_of_lt hB)
  rw [← hAB] at k1
  have h5 : ((PP : Nat) : Int) ≤ 10 ^ (1 - n).toNat := by
   obtain ⟨k, hk⟩ : ∃ k, (1 - n).toNat = 400 + k := ⟨(1 - n).toNat - 400, by omega⟩
   rw [hk, Int.pow_add, PP_int]
   have h6 := p10 k
   have h7 : (10 : Int) ^ 400 * 1 ≤ 10 ^ 400 * 10 ^ k := Int.mul_le_mul_of_nonneg_left (by omega) (Int.le_of_lt (p10 _))
   have h8 : (2 : Int) ^ 1074 ≤ 10 ^ 400 := Int.le_trans (pow2_mono (show 1074 ≤ 1300 by decide)) two_ten
   rw [Int.mul_one] at h7
   exact Int.le_trans h8 h7
  have h6 : A * (PP : Nat) ≤ A * 10 ^ (1 - n).toNat := Int.mul_le_mul_of_nonneg_left h5 hA
  omega
theorem k_lt {A B n k : Int} (hB : 0 < B) (hk : 1 ≤ k) (hk2 : k ≤ 17) (hup : A * 10 ^ (-n).toNat < B * 10 ^ n.toNat) : A * 10 ^ (k - n).toNat / (B * 10 ^ (n - k).toNat) < 1000000000000000000 := by
 have hy : 0 < B * 10 ^ (n - k).toNat := Int.mul_pos hB (p10 _)
 have h17 : (10 : Int) ^ k.toNat ≤ 1000000000000000000 := by
  obtain ⟨c, hc⟩ : ∃ c, 18 = k.toNat + c := ⟨18 - k.toNat, by omega⟩
  have e18 : (10 : Int) ^ 18 = 1000000000000000000 := by decide
  rw [← e18, hc, Int.pow_add]
  have h6 := p10 c
  have h7 : (10 : Int) ^ k.toNat * 1 ≤ 10 ^ k.toNat * 10 ^ c := Int.mul_le_mul_of_nonneg_left (by omega) (Int.le_of_lt (p10 _))
  omega
 refine Int.lt_of_lt_of_le ?_ h17
 refine Int.ediv_lt_of_lt_mul hy ?_
 rcases Int.lt_or_le k n with h | h
 ·rw [show (-n).toNat = 0 by omega, Int.pow_zero, Int.mul_one] at hup
  rw [show (k - n).toNat = 0 by omega, Int.pow_zero, Int.mul_one]
  rw [p10_split (show n.toNat = k.toNat + (n - k).toNat by omega)] at hup
  have : (10 : Int) ^ k.toNat * (B * 10 ^ (n - k).toNat) = B * (10 ^ k.toNat * 10 ^ (n - k).toNat) := by grind
  omega
 ·rw [show (n - k).toNat = 0 by omega, Int.pow_zero, Int.mul_one]
  rcases Int.lt_or_le 0 n with h0 | h0
  ·rw [show (-n).toNat = 0 by omega, Int.pow_zero, Int.mul_one] at hup
   have h2 := Int.mul_lt_mul_of_pos_right hup (p10 (k - n).toNat)
   rw [p10_split (show k.toNat = n.toNat + (k - n).toNat by omega)]
   have : (10 : Int) ^ n.toNat * 10 ^ (k - n).toNat * B = B * 10 ^ n.toNat * 10 ^ (k - n).toNat := by grind
   omega
  ·rw [show n.toNat = 0 by omega, Int.pow_zero, Int.mul_one] at hup
   have h2 := Int.mul_lt_mul_of_pos_right hup (p10 k.toNat)
   rw [p10_split (show (k - n).toNat = (-n).toNat + k.toNat by omega)]
   have : A * (10 ^ (-n).toNat * 10 ^ k.toNat) = A * 10 ^ (-n).toNat * 10 ^ k.toNat := by grind
   have e3 : (10 : Int) ^ k.toNat * B = B * 10 ^ k.toNat := Int.mul_comm _ _
   omega
end Go.Pi
end
section
open Go Go.Pi
namespace Go.Pi
variable {p q a : Prop}
set_option maxRecDepth 100000
set_option maxHeartbeats 0
section
variable {X : CallF} {G : Nat → PV}
namespace QFd1
theorem kA1 (h : p := by
 first
 |((refine ⟨_, rfl, hF, _, rfl, ?_, ?_⟩; (focus (simp [Nd_cells, NdF_nils, NdF_sl, *]; first | done | fail)); first | exact hnm | exact fun h => (hnm (hmono h)).first (by simp))) <;> exact Am1
 |exact kH
 |(refine M_regm (e := e) 1001 rfl rfl hF (fun R t0 H0 hTT hHH hR => M_reg.2 ?_) (fun c g n' b1 hF => ?_) <;> (try refine nA ?_) <;> exact Am1)
 |fail) : p := h
theorem kB1 (h : p := by
 first
 |(refine MC_mt (r30 _) cA dM hF ?_; rintro _ b1 ⟨rfl, hnd⟩ hmono hF; exact kT1)
 |(refine MC_mt (ihb hb0) cA dM hF ?_; rintro _ b1 ⟨_, rfl, hnc0, hnm⟩ hmono hF; exact kT1)
 |(refine MC_mt (ih.e ‹EZ _ _›) cA dM hF ?_; exact kMN1)
 |(obtain ⟨k0, x0, m0, n0, kk0, a0, rfl, hN0⟩ := hnc0.open; have hS0 := hN0.1; have hDp0 := hN0.2.1; refine nA ?_) <;> exact Am1
 |fail) : p := h
end QFd1
theorem r120 {F : Int → ByteArray} {m : Nat} {x : List PV} (ih : IHf X G m) (ihb : ∀ {y}, BZ m y → Mt Tab X G 72 [.agg y] (NdN F y)) (hx : ItemC x) (hm : SizeOf.sizeOf x ≤ m) : Mt Tab X G 120 [.agg x] (NdN F (x.drop 3)) := by
 intro e fine
 have hF : fine = true → fine = true := id
 obtain ⟨flags, key, dflt, bkind, bref, bitems, brest, rfl, l_key, l_dflt, hb0, l_bitems⟩ := hx.open (hm)
 have := l_key.1; have := l_key.2.1; have := l_dflt.1; have := l_dflt.2.1; have := l_bitems.1; have := l_bitems.2.1
 refine Fn_of T120 (by simp) ?_
 refine nA ?_
 open QFd1 in exact Am1
namespace QFd2
theorem kA1 (h : p := by
 first
 |((refine ⟨_, rfl, hF, _, rfl, ?_, ?_⟩; (focus (simp [Nd_cells, NdF_nils, NdF_sl, *]; first | done | fail)); first | exact hnm | (intro h; have hr := hnd (hmono h); simp only [decide_eq_true_eq] at hr; obtain ⟨h1, h2⟩ := hs48 h hr; subst h2; exact ⟨[ref], .name _ _ _, by simp; omega, .name _ _ _ _ _⟩) | (intro h; have := hnd h; contradiction))) <;> exact Am1
 |((refine ⟨_, rfl, fun h => absurd h Bool.false_ne_true, _, rfl, ?_, fun h => absurd h Bool.false_ne_true⟩; (simp [Nd_cells, NdF_nils, NdF_sl, *]; first | done | fail))) <;> exact Am1
 |exact kH
 |fail) : p := h
theorem kB1 (h : p := by
 first
 |(refine MC_mt (r30 _) cA dM hF ?_; rintro _ b1 ⟨rfl, hnd⟩ hmono hF; exact kT1)
 |(refine MC_mt (r48 B _) cA dM hF ?_; rintro _ b1 ⟨s, rfl, hs48⟩ hmono hF; exact kT1)
 |(refine MC_mt (h100 _ _ _ rfl) cA dM hF ?_; rintro _ b1 ⟨_, rfl, hnc0, hnm⟩ hmono hF; exact kT1)
 |(refine MC_mt (h101 _ _ _ rfl) cA dM hF ?_; rintro _ b1 ⟨_, rfl, hnc0, hnm⟩ hmono hF; exact kT1)
 |(obtain ⟨k0, x0, m0, n0, kk0, a0, rfl, hN0⟩ := hnc0.open; have hS0 := hN0.1; have hDp0 := hN0.2.1; refine nA ?_) <;> exact Am1
 |fail) : p := h
end QFd2
theorem r72 {F : Int → ByteArray} (B : Base X G F) {x : List PV} (hx : BindC x) (h100 : ∀ ref items rest, x = [.int .i64 2, .int .i64 ref, items, .bool rest] → Mt Tab X G 100 [.agg x] (NdN F x)) (h101 : ∀ ref items rest, x = [.int .i64 3, .int .i64 ref, items, .bool rest] → Mt Tab X G 101 [.agg x] (NdN F x)) : Mt Tab X G 72 [.agg x] (NdN F x) := by
 intro e fine
 have hF : fine = true → fine = true := id
 have hm := Nat.le_refl (SizeOf.sizeOf x)
 obtain ⟨kind, ref, items, rest, rfl, l_items⟩ := hx.open (hm)
 have := l_items.1; have := l_items.2.1
 refine Fn_of T72 (by simp) ?_
 refine nA ?_
 open QFd2 in exact Am1
namespace QFd4
theorem kA2 (h : p := by
 first
 |exact kFm
 |exact kH
 |fail) : p := h
theorem kB2 (h : p := by
 first
 |(refine MC_mt (r30 _) cA dM hF ?_; rintro _ b1 ⟨rfl, hnd⟩ hmono hF; exact kT2)
 |(refine MC_mt (ihb ‹BZ _ _›) cA dM hF ?_; rintro _ b1 ⟨_, rfl, hnc0, hnm⟩ hmono hF; exact kT2)
 |(refine MC_mt (ih120 ‹IZ _ _›) cA dM hF ?_; rintro _ b1 ⟨_, rfl, hnc0, hnm⟩ hmono hF; exact kT2)
 |(obtain ⟨k0, x0, m0, n0, kk0, a0, rfl, hN0⟩ := hnc0.open; have hS0 := hN0.1; have hDp0 := hN0.2.1; refine nA ?_) <;> exact Am2
 |(refine M_push (A := [8010, 10005, 5007]) (ys := ys) (v := v) (cA) (cA) (cA) (cA) (hgw.frame (by intro b hb; simp only [List.mem_cons, List.not_mem_nil, or_false] at hb; rcases hb with rfl | rfl | rfl <;> exact cA)) (by simp) (by simp) (by intro b hb; simp at hb ⊢; omega) (by intro z hz; simp only [List.mem_cons, List.not_mem_nil, or_false] at hz; first | (subst hz; exact ⟨rfl, cA⟩) | (rcases hz with rfl | rfl <;> exact ⟨rfl, cA⟩)) (by simp) (by simp only [List.length_cons, List.length_nil]; omega) (by decide) (by intro f1 f2 f3; first | rfl | simp [closeOk, push, feetOk, apartL]) (fun t' H' n' v' ht' hO' hgr hf => ?_); have e0_n := hf 0 (by simp) (by simp) (by decide); have e1_n := hf 1 (by simp) (by simp) (by decide); have e2_n := hf 2 (by simp) (by simp) (by decide); (try refine nA ?_)) <;> exact Am2
 |fail) : p := h
theorem kZ2 (h : p := by
 first
 |skip
  all_goals first
   |(have next := nx; unfold Hid at next; generalize hzs : ys ++ [_] = zs at hgr; refine next (n - 1) (by omega) _ ⟨i + 1, _, v', zs, by omega, cA, cA, cA, cA, cA, cA, by refine nA ?_; rw [wrap_i64 (by omega) (by omega)]; first | rfl | (congr 1; omega), cA, cA, cA, cA, fun h => hFb (hF h), hgr, ?_, by rw [← hzs]; simp [hyl], ?_⟩)
   |skip
  all_goals first
   |(intro y hy; rw [← hzs] at hy; rcases List.mem_append.1 hy with hy | hy; (focus exact hys y hy); (simp only [List.mem_singleton] at hy; subst hy; simp [Nd_cells, NdF_nils, NdF_sl, *]; first | done | fail))
   |(intro h; rw [← hzs]; exact NmsOk.snoc (by simpa using hg) rfl (hnms (hF h)) (by first | exact hnm h | exact (hnm h).first (by simp) | exact NmOk.missing))
   |skip
  all_goals
   refine ⟨?_, _, rfl, hFb, _, rfl, Nd_mk ⟨g1, g2, by rw [g3]; omega, fun y hy => hys y (by rw [g3] at hy; exact hy), fun h => absurd h (by omega)⟩, fun h => NmOk.parts (.inl rfl) (.inl rfl) ?_⟩
   ·have h0 : ¬ 0 ∈ gi v := fun h => absurd (g4 0 h) (by simp)
    simpa using h0
   ·rw [g3]
    have := hnms h
    rwa [List.take_of_length_le (by omega)] at this
  done
 |fail) : p := h
end QFd4
namespace QFd3
theorem kA1 (h : p := by
 first
 |exact kFm
 |exact kH
 |fail) : p := h
theorem kZ1 (h : p := by
 first
 |skip
  have hB := l_items.1.len
  refine M_loop (fun n s => ∃ (i : Nat) (b : Bool) (v : PV) (ys : List (List PV)), i + n = (els items).length ∧ s.t 0 = .ptr 0 0 0 ∧ s.t 3 = .ptr 1 1 0 ∧ s.t 4 = .ptr 2 2 0 ∧ s.t 5 = .ptr 1002 4 0 ∧ s.t 10 = items ∧ s.t 11 = .int .i64 (els items).length ∧ s.t 12 = .int .i64 i ∧
   s.H 0 = some ⟨e, 0, [.bool b], 0⟩ ∧ s.H 1 = some ⟨27, 1, [.int .i64 2, .int .i64 ref, items, .bool rest], 0⟩ ∧ s.H 2 = some ⟨45, 2, zN, 0⟩ ∧ s.H 1002 = some ⟨45, 4, [.int .i64 70, .str (bs []), .str (bs []), .int .u64 0, v, .int .i64 0], 0⟩ ∧
   (b = true → fine = true) ∧ Grow [8010, 10005, 5007] s.H 45 6 v ys ∧ (∀ y, y ∈ ys → Nd y) ∧ ys.length = i ∧ (b = true → NmsOk F ((els items).take i) ys)) ?_ (n := (els items).length)
   ⟨0, fine, .nils, [], by simp, z0, z0, z0, z0, z0, z0, z0, z0, z0, z0, z0, id, Grow.nil, by simp, rfl, fun _ => .nil⟩
  rintro n ⟨t, H, k⟩ ⟨i, b, v, ys, hi, h0, h3, h4, h5, h10, h11, h12, e0, e1, e2, e5, hFb, hgw, hys, hyl, hnms⟩ next
  simp only at h0 h3 h4 h5 h10 h11 h12 e0 e1 e2 e5 hgw
  clear hF
  have hF : b = true → b = true := id
  have hE := fun (n : Nat) (c : Option Chunk) => (Grow.settleE (n := n) (hgw.frame (H' := H.put 2 c) (by intro b hb; simp only [List.mem_cons, List.not_mem_nil, or_false] at hb; rcases hb with rfl | rfl | rfl <;> exact cA)))
  obtain ⟨g1, g2, g3, g4⟩ := hgw.gv
  refine n1 (j h0 (j h3 (j h4 (j h5 (j h10 (j h11 (j h12 (j e0 (j e1 (j e2 e5)))))))))) ?_
  have nx : Hid _ := next
  clear next
  open QFd4 in exact Am2
  done
 |fail) : p := h
end QFd3
theorem r100 {F : Int → ByteArray} {m : Nat} {x : List PV} (ihb : ∀ {y}, BZ m y → Mt Tab X G 72 [.agg y] (NdN F y)) (ih120 : ∀ {y}, IZ m y → Mt Tab X G 120 [.agg y] (NdN F (y.drop 3))) (ref : Int) (items : PV) (rest : Bool) (hxe : x = [.int .i64 2, .int .i64 ref, items, .bool rest]) (hx : BindC x) (hm : SizeOf.sizeOf x ≤ m) : Mt Tab X G 100 [.agg x] (NdN F x) := by
 intro e fine
 have hF : fine = true → fine = true := id
 subst hxe
 obtain ⟨k', r', i', re', he, l_items⟩ := hx.open hm
 cases he
 have := l_items.1; have := l_items.2.1
 refine Fn_of T100 (by simp) ?_
 refine nA ?_
 open QFd3 in exact Am1
end
end Go.Pi
end
section
open Go Go.Pi
namespace Go.Pi
variable {p q a : Prop}
set_option maxRecDepth 100000
set_option maxHeartbeats 0
section
variable {X : CallF} {G : Nat → PV}
namespace QFe1
theorem kA1 (h : p := by
 first
 |exact kFm
 |exact kH
 |fail) : p := h
theorem kB1 (h : p := by
 first
 |(refine MC_mt (r48 B _) cA dM hF ?_; rintro _ b1 ⟨s, rfl, hs48⟩ hmono hF; exact kT1)
 |(refine MC_mt (ih.e hx) cA dM hF ?_; exact kMN1)
 |(refine MC_pure (B.h56 ‹Nd _›) pE dM ?_; rintro _ ⟨s, b, rfl⟩; exact kT1)
 |fail) : p := h
end QFe1
theorem r83 {F : Int → ByteArray} (B : Base X G F) {m : Nat} {x : List PV} (ih : IHf X G m) (comp : Bool) (hx : EZ m x) : Mt Tab X G 83 [.agg x, .bool comp] (fun _ => NdX) := by
 intro e fine
 have hF : fine = true → fine = true := id
 have hx0 := hx
 obtain ⟨hx1, hx2⟩ := hx0
 have hm := Nat.le_of_lt hx2
 obtain ⟨kind, op, ref, chain, flags, nn, str, text, kids, props, parts, fns, classes, rfl, hn, l_str, ht, l_kids, l_props, l_parts, l_fns, l_classes⟩ := hx1.open (hm)
 have := l_str.1; have := l_str.2.1; have := l_kids.1; have := l_kids.2.1; have := l_props.1; have := l_props.2.1; have := l_parts.1; have := l_parts.2.1; have := l_fns.1; have := l_fns.2.1; have := l_classes.1; have := l_classes.2.1
 refine Fn_of T83 (by simp) ?_
 refine nA ?_
 open QFe1 in exact Am1
namespace QFe2
theorem kA1 (h : p := by
 first
 |exact kFm
 |exact kH
 |fail) : p := h
theorem kB1 (h : p := by
 first
 |(refine MC_mt (ih.e hx) cA dM hF ?_; exact kMN1)
 |fail) : p := h
end QFe2
theorem r102 {m : Nat} {x : List PV} (ih : IHf X G m) (hx : EZ m x) : Mt Tab X G 102 [.agg x] (fun _ => NdX) := by
 intro e fine
 have hF : fine = true → fine = true := id
 have hx0 := hx
 obtain ⟨hx1, hx2⟩ := hx0
 have hm := Nat.le_of_lt hx2
 obtain ⟨kind, op, ref, chain, flags, nn, str, text, kids, props, parts, fns, classes, rfl, hn, l_str, ht, l_kids, l_props, l_parts, l_fns, l_classes⟩ := hx1.open (hm)
 have := l_str.1; have := l_str.2.1; have := l_kids.1; have := l_kids.2.1; have := l_props.1; have := l_props.2.1; have := l_parts.1; have := l_parts.2.1; have := l_fns.1; have := l_fns.2.1; have := l_classes.1; have := l_classes.2.1
 refine Fn_of T102 (by simp) ?_
 refine nA ?_
 open QFe2 in exact Am1
namespace QFe4
theorem kA2 (h : p := by
 first
 |exact kFm
 |exact kH
 |(refine M_regm (e := e) 6001 rfl rfl hF (fun R t0 H0 hTT hHH hR => M_reg.2 ?_) (fun c g n' b1 hF => ?_) <;> (try refine nA ?_) <;> exact Am2)
 |fail) : p := h
theorem kB2 (h : p := by
 first
 |(refine MC_mt (r30 _) cA dM hF ?_; rintro _ b1 ⟨rfl, hnd⟩ hmono hF; exact kT2)
 |(refine MC_mt (ihb ‹BZ _ _›) cA dM hF ?_; rintro _ b1 ⟨_, rfl, hnc0, hnm⟩ hmono hF; exact kT2)
 |(refine MC_mt (ih120 ‹IZ _ _›) cA dM hF ?_; rintro _ b1 ⟨_, rfl, hnc0, hnm⟩ hmono hF; exact kT2)
 |(refine MC_mt (r83 B ih _ ‹EZ _ _›) cA dM hF ?_; exact kMN2)
 |(obtain ⟨k0, x0, m0, n0, kk0, a0, rfl, hN0⟩ := hnc0.open; have hS0 := hN0.1; have hDp0 := hN0.2.1; refine nA ?_) <;> exact Am2
 |(refine M_push (A := [7010, 10019]) (ys := ys) (v := v) (cA) (cA) (cA) (cA) (hgw.frame (by intro b hb; simp only [List.mem_cons, List.not_mem_nil, or_false] at hb; rcases hb with rfl | rfl <;> exact cA)) (by simp) (by simp) (by intro b hb; simp at hb ⊢; omega) (by intro z hz; simp only [List.mem_cons, List.not_mem_nil, or_false] at hz; first | (subst hz; exact ⟨rfl, cA⟩) | (rcases hz with rfl | rfl <;> exact ⟨rfl, cA⟩)) (by simp) (by simp only [List.length_cons, List.length_nil]; omega) (by decide) (by intro f1 f2 f3; first | rfl | simp [closeOk, push, feetOk, apartL]) (fun t' H' n' v' ht' hO' hgr hf => ?_); have e0_n := hf 0 (by simp) (by simp) (by decide); have e1_n := hf 1 (by simp) (by simp) (by decide); have e2_n := hf 2 (by simp) (by simp) (by decide); (try refine nA ?_)) <;> exact Am2
 |fail) : p := h
theorem kZ2 (h : p := by
 first
 |skip
  all_goals first
   |(have next := nx; unfold Hid at next; generalize hzs : ys ++ [_] = zs at hgr; refine next (n - 1) (by omega) _ ⟨i + 1, _, v', zs, by omega, cA, cA, cA, cA, cA, cA, by refine nA ?_; rw [wrap_i64 (by omega) (by omega)]; first | rfl | (congr 1; omega), cA, cA, cA, cA, fun h => (show b = true → fine = true from hFh) (hF h), hgr, ?_, by rw [← hzs]; simp [hyl], ?_⟩)
   |skip
  all_goals first
   |(intro y hy; rw [← hzs] at hy; rcases List.mem_append.1 hy with hy | hy; (focus exact hys y hy); (simp only [List.mem_singleton] at hy; subst hy; simp [Nd_cells, NdF_nils, NdF_sl, *]; first | done | fail))
   |(intro h; rw [← hzs]; exact NmsOk.snoc (by have h9 := ‹(els items)[((i : Nat) : Int).toNat]? = some _›; simpa using h9) rfl (hnms (hF h)) (by first | exact hnm h | exact (hnm h).first (by simp) | exact (hnm h).second))
   |skip
  all_goals first
   |(refine ⟨?_, _, rfl, fun h => absurd h Bool.false_ne_true, _, rfl, Nd_mk ⟨g1, g2, by rw [g3]; omega, fun y hy => hys y (by rw [g3] at hy; exact hy), fun h => absurd h (by omega)⟩, fun h => absurd h Bool.false_ne_true⟩; have h0 : ¬ 0 ∈ gi v := fun h => absurd (g4 0 h) (by simp); simpa using h0)
   |skip
  all_goals
   refine ⟨?_, _, rfl, hFh, _, rfl, Nd_mk ⟨g1, g2, by rw [g3]; omega, fun y hy => hys y (by rw [g3] at hy; exact hy), fun h => absurd h (by omega)⟩, fun h => NmOk.parts (.inr rfl) (.inr (.inl rfl)) ?_⟩
   ·have h0 : ¬ 0 ∈ gi v := fun h => absurd (g4 0 h) (by simp)
    simpa using h0
   ·rw [g3]
    have := hnms h
    rwa [List.take_of_length_le (by omega)] at this
  done
 |fail) : p := h
end QFe4
namespace QFe3
theorem kA1 (h : p := by
 first
 |exact kFm
 |exact kH
 |fail) : p := h
theorem kZ1 (h : p := by
 first
 |skip
  have hB := l_items.1.len
  refine M_loop (fun n s => ∃ (i : Nat) (b : Bool) (v : PV) (ys : List (List PV)), i + n = (els items).length ∧ s.t 0 = .ptr 0 0 0 ∧ s.t 3 = .ptr 1 1 0 ∧ s.t 4 = .ptr 2 2 0 ∧ s.t 5 = .ptr 1002 4 0 ∧ s.t 10 = items ∧ s.t 11 = .int .i64 (els items).length ∧ s.t 12 = .int .i64 i ∧
   s.H 0 = some ⟨e, 0, [.bool b], 0⟩ ∧ s.H 1 = some ⟨27, 1, [.int .i64 3, .int .i64 ref, items, .bool rest], 0⟩ ∧ s.H 2 = some ⟨45, 2, zN, 0⟩ ∧ s.H 1002 = some ⟨45, 4, [.int .i64 71, .str (bs []), .str (bs []), .int .u64 0, v, .int .i64 0], 0⟩ ∧
   (b = true → fine = true) ∧ Grow [7010, 10019] s.H 45 6 v ys ∧ (∀ y, y ∈ ys → Nd y) ∧ ys.length = i ∧ (b = true → NmsOk F ((els items).take i) ys)) ?_ (n := (els items).length)
   ⟨0, fine, .nils, [], by simp, z0, z0, z0, z0, z0, z0, z0, z0, z0, z0, z0, id, Grow.nil, by simp, rfl, fun _ => .nil⟩
  rintro n ⟨t, H, k⟩ ⟨i, b, v, ys, hi, h0, h3, h4, h5, h10, h11, h12, e0, e1, e2, e5, hFb, hgw, hys, hyl, hnms⟩ next
  simp only at h0 h3 h4 h5 h10 h11 h12 e0 e1 e2 e5 hgw
  have hFh : Hid (b = true → fine = true) := hFb
  clear hF hFb
  have hF : b = true → b = true := id
  have hE := fun (n : Nat) (c : Option Chunk) => (Grow.settleE (n := n) (hgw.frame (H' := H.put 2 c) (by intro b hb; simp only [List.mem_cons, List.not_mem_nil, or_false] at hb; rcases hb with rfl | rfl <;> exact cA)))
  have hE2 := fun (n : Nat) (c c1 c2 : Option Chunk) => (Grow.settleE (n := n) (hgw.frame (H' := ((H.put 4004 c1).put 0 c2).put 2 c) (by intro b hb; simp only [List.mem_cons, List.not_mem_nil, or_false] at hb; rcases hb with rfl | rfl <;> exact cA)))
  have hcv := cellsOf_grow hgw
  obtain ⟨g1, g2, g3, g4⟩ := hgw.gv
  refine n1 (j h0 (j h3 (j h4 (j h5 (j h10 (j h11 (j h12 (j e0 (j e1 (j e2 e5)))))))))) ?_
  have nx : Hid _ := next
  clear next
  open QFe4 in exact Am2
  done
 |fail) : p := h
end QFe3
theorem r101 {F : Int → ByteArray} (B : Base X G F) {m : Nat} {x : List PV} (ih : IHf X G m) (ihb : ∀ {y}, BZ m y → Mt Tab X G 72 [.agg y] (NdN F y)) (ih120 : ∀ {y}, IZ m y → Mt Tab X G 120 [.agg y] (NdN F (y.drop 3))) (ref : Int) (items : PV) (rest : Bool) (hxe : x = [.int .i64 3, .int .i64 ref, items, .bool rest]) (hx : BindC x) (hm : SizeOf.sizeOf x ≤ m) : Mt Tab X G 101 [.agg x] (NdN F x) := by
 intro e fine
 have hF : fine = true → fine = true := id
 subst hxe
 obtain ⟨k', r', i', re', he, l_items⟩ := hx.open hm
 cases he
 have := l_items.1; have := l_items.2.1
 refine Fn_of T101 (by simp) ?_
 refine nA ?_
 open QFe3 in exact Am1
end
end Go.Pi
end
section
open Go Go.Pi
namespace Go.Pi
variable {p q a : Prop}
set_option maxRecDepth 100000
set_option maxHeartbeats 0
section
variable {X : CallF} {G : Nat → PV}
theorem r14 {m : Nat} {v : PV} (ih : IHf X G m) (lv : SlP (SZ m) v) : Mt Tab X G 14 [v] (fun _ => NdL (els v).length) := by
 intro e fine
 have hF : fine = true → fine = true := id
 refine Fn_of T14 (by simp) ?_
 have hv := lv.1
 have hB := lv.1.len
 refine s1 hv ?_
 refine M_loop (fun n s => ∃ (i : Nat) (b : Bool) (ys : List (List PV)), i + n = (els v).length ∧ s.t 0 = .ptr 0 0 0 ∧ s.t 8 = v ∧ s.t 9 = .int .i64 (els v).length ∧ s.t 10 = .int .i64 i ∧ s.H 0 = some ⟨e, 0, [.bool b], 0⟩ ∧ (b = true → fine = true) ∧
  (∀ y, y ∈ ys → Nd y) ∧ ys.length = i ∧ Grow [5006] s.H 45 6 (s.t 5) ys) ?_ (n := (els v).length) ⟨0, fine, [], by simp, z0, z0, z0, z0, z0, id, by simp, rfl, by refine s0 ?_; exact Grow.nil⟩
 rintro n ⟨t, H, k⟩ ⟨i, b, ys, hi, h0, h8, h9, h10, e0, hF, hys, hyl, hrow⟩ next
 simp only at h0 h8 h9 h10 e0 hrow
 refine s1 (j h0 (j h8 (j h9 h10))) ?_
 refine MB_dec (fun hp hb => ?_) (fun hp hb => ?_)
 ·refine s1 (j h0 (j h8 (j h9 h10))) ?_
  refine MIX_S (P := SZ m) SZ.len lv (by omega) hp (fun y hy hmem hg => ?_)
  have hM := ih.s hy
  obtain ⟨kind, op, ref, flags, str, exprs, kids, decls, cases, fns, classes, rfl, l_str, l_exprs, l_kids, l_decls, l_cases, l_fns, l_classes⟩ := hy.1.open (hy.le)
  refine s1 (j h0 (j h8 (j h9 (j h10 (j e0 (j l_str.1 (j l_str.2.1 (j l_exprs.1 (j l_exprs.2.1 (j l_kids.1 (j l_kids.2.1 (j l_decls.1 (j l_decls.2.1 (j l_cases.1 (j l_cases.2.1 (j l_fns.1 (j l_fns.2.1 (j l_classes.1 l_classes.2.1)))))))))))))))))) ?_
  refine MC_mt (e := e) (b0 := b) hM (z1 e0) (z1 (j l_str.1 (j l_str.2.1 (j l_exprs.1 (j l_exprs.2.1 (j l_kids.1 (j l_kids.2.1 (j l_decls.1 (j l_decls.2.1 (j l_cases.1 (j l_cases.2.1 (j l_fns.1 (j l_fns.2.1 (j l_classes.1 l_classes.2.1)))))))))))))) hF ?_
  rintro r b1 ⟨c, rfl, hc⟩ hmono hF
  obtain ⟨nk, nt, nm, nn, nkids, na, rfl, hN⟩ := hc.open
  have hDp := hN.2.1
  refine s1 (j h0 (j h8 (j h9 (j h10 hDp)))) ?_
  refine M_app1 (A := [5006]) (ys := ys) (z0) (z0) hc.len hc.deep ?_ (by simp) (by simp) (by omega) ?_
  ·refine s0 ?_
   exact hrow.frame (fun b hb => by simp only [List.mem_singleton] at hb; rw [hb]; exact z0)
  ·intro v' H2 tr' hgr hf htr
   have := htr rfl
   subst this
   refine s1 (j h0 (j h8 (j h9 h10))) ?_
   generalize hzs : ys ++ [_] = zs at hgr
   refine next (n - 1) (by omega) _ ⟨i + 1, b1, zs, by omega, z1 h0, z1 h8, z1 h9, by refine s1 h10 ?_; rw [wrap_i64 (by omega) (by omega)]; rfl, ?_, hF, ?_, by rw [← hzs]; simp [hyl], ?_⟩
   ·show H2 0 = _
    rw [hf 0 (by simp) (by simp)]
    exact z0
   ·intro y hy
    rw [← hzs] at hy
    rcases List.mem_append.1 hy with hy | hy
    ·exact hys y hy
    ·simp at hy; subst hy; exact hc
   ·refine s0 ?_
    exact hgr
 ·refine s0 ?_
  obtain ⟨y, ids, hset, hids, hy, hdy⟩ := hrow.settle
  have hset : Go.Pi.settle 30 H (t 5) = some (y, ids) := hset
  refine s1 (j hset e0) ?_
  refine ⟨by simpa using fun h => absurd (hids 0 h) (by decide), b, rfl, hF, ?_⟩
  have : ys.length = (els v).length := by omega
  rcases hy with ⟨rfl, rfl⟩ | rfl
  ·exact ⟨.inl rfl, rfl, this, by simp [els]⟩
  ·exact ⟨.inr ⟨_, rfl⟩, hdy, this, hys⟩
namespace QFg2
theorem kA2 (h : p := by
 first
 |exact kFm
 |exact kH
 |fail) : p := h
theorem kB2 (h : p := by
 first
 |(refine MC_mt (r30 _) cA dM hF ?_; rintro _ b1 ⟨rfl, hnd⟩ hmono hF; exact kT2)
 |(refine MC_mt (ihb ‹BZ _ _›) cA dM hF ?_; rintro _ b1 ⟨_, rfl, hnc0, hnm⟩ hmono hF; exact kT2)
 |(refine MC_mt (ih.e ‹EZ _ _›) cA dM hF ?_; exact kMN2)
 |(obtain ⟨k0, x0, m0, n0, kk0, a0, rfl, hN0⟩ := hnc0.open; have hS0 := hN0.1; have hDp0 := hN0.2.1; refine nA ?_) <;> exact Am2
 |(refine M_push (A := [12011]) (ys := ys) (v := v) (cA) (cA) (cA) (cA) (hgw.frame (by intro b hb; simp only [List.mem_cons, List.not_mem_nil, or_false] at hb; rcases hb with rfl <;> exact cA)) (by simp) (by simp) (by intro b hb; simp at hb ⊢; omega) (by intro z hz; simp only [List.mem_cons, List.not_mem_nil, or_false] at hz; first | (subst hz; exact ⟨rfl, cA⟩) | (rcases hz with rfl | rfl <;> exact ⟨rfl, cA⟩)) (by simp) (by simp only [List.length_cons, List.length_nil]; omega) (by decide) (by intro f1 f2 f3; first | rfl | simp [closeOk, push, feetOk, apartL]) (fun t' H' n' v' ht' hO' hgr hf => ?_); have e0_n := hf 0 (by simp) (by simp) (by decide); have e2_n := hf 2 (by simp) (by simp) (by decide); (try refine nA ?_)) <;> exact Am2
 |fail) : p := h
theorem kZ2 (h : p := by
 first
 |skip
  all_goals first
   |(have next := nx; unfold Hid at next; generalize hzs : ys ++ [_] = zs at hgr; refine next (n - 1) (by omega) _ ⟨i + 1, _, v', zs, by omega, cA, cA, cA, cA, cA, by refine nA ?_; rw [wrap_i64 (by omega) (by omega)]; first | rfl | (congr 1; omega), cA, cA, cA, hgr, ?_, by rw [← hzs]; simp [hyl], ?_⟩)
   |skip
  all_goals first
   |(intro y hy; rw [← hzs] at hy; rcases List.mem_append.1 hy with hy | hy; (focus exact hys y hy); (simp only [List.mem_singleton] at hy; subst hy; simp [Nd_cells, NdF_nils, NdF_sl, *]; first | done | fail))
   |(intro h; rw [← hzs]; exact DmsOk.snoc (by have h9 := ‹(els decls)[((i : Nat) : Int).toNat]? = some _›; simpa using h9) rfl (hnms (hF h)) ((hnm h).first (by simp)))
   |skip
  all_goals
   refine ⟨?_, _, rfl, fun _ => trivial, _, rfl, Nd_mk ⟨g1, g2, by rw [g3]; omega, fun y hy => hys y (by rw [g3] at hy; exact hy), fun h => absurd h (by have := hk2h; unfold Hid at this; omega)⟩ (fun h => absurd h (by have := hk2h; unfold Hid at this; omega)) (fun h => absurd h (by have := hk2h; unfold Hid at this; omega)), fun h hop => ?_⟩
   ·have h0 : ¬ 0 ∈ gi v := fun h => absurd (g4 0 h) (by simp)
    simpa using h0
   ·obtain ⟨l, h1, h2, h3⟩ := hnms h
    rw [List.take_of_length_le (by omega)] at h1
    have hk : kk = 12 := (show op = 1 → kk = 12 from hk1h) hop
    exact ⟨l, h1, h2, .parts _ _ _ _ _ _ _ (.inr (.inr hk)) (by rw [g3]; exact h3)⟩
  done
 |fail) : p := h
end QFg2
namespace QFg1
theorem kA1 (h : p := by
 first
 |((refine ⟨_, rfl, fun h => absurd h Bool.false_ne_true, _, rfl, ?_, fun h => absurd h Bool.false_ne_true⟩; (simp [Nd_cells, NdF_nils, NdF_sl, *]; first | done | fail))) <;> exact Am1
 |exact kH
 |fail) : p := h
theorem kB1 (h : p := by
 first
 |(refine MC_mt (r30 _) cA dM hF ?_; rintro _ b1 ⟨rfl, hnd⟩ hmono hF; exact kT1)
 |(refine MIX_kinds (c0) (by omega) (by omega) (fun p kk hk1 hk2 => ?_); refine nA ?_) <;> exact Am1
 |fail) : p := h
theorem kZ1 (h : p := by
 first
 |skip
  have hB := l_decls.1.len
  have hk1h : Hid (op = 1 → kk = 12) := hk1
  have hk2h : Hid (kk = 11 ∨ kk = 12 ∨ kk = 13) := hk2
  clear hk1 hk2
  refine M_loop (fun n s => ∃ (i : Nat) (b : Bool) (v : PV) (ys : List (List PV)), i + n = (els decls).length ∧ s.t 0 = .ptr 0 0 0 ∧ s.t 4 = .ptr 2 2 0 ∧ s.t 6 = .ptr 4007 30 0 ∧ s.t 38 = decls ∧ s.t 39 = .int .i64 (els decls).length ∧ s.t 40 = .int .i64 i ∧
   s.H 0 = some ⟨e, 0, [.bool b], 0⟩ ∧ s.H 2 = some ⟨45, 2, zN, 0⟩ ∧ s.H 4007 = some ⟨45, 30, [.int .i64 kk, .str (bs []), .str (bs []), .int .u64 0, v, .int .i64 0], 0⟩ ∧
   Grow [12011] s.H 45 6 v ys ∧ (∀ y, y ∈ ys → Nd y) ∧ ys.length = i ∧ (b = true → DmsOk F ((els decls).take i) ys)) ?_ (n := (els decls).length)
   ⟨0, true, .nils, [], by simp, z0, z0, z0, z0, z0, z0, z0, z0, z0, Grow.nil, by simp, rfl, fun _ => .nil⟩
  rintro n ⟨t, H, k⟩ ⟨i, b, v, ys, hi, h0, h4, h6, h38, h39, h40, e0, e2, e5, hgw, hys, hyl, hnms⟩ next
  simp only at h0 h4 h6 h38 h39 h40 e0 e2 e5 hgw
  clear hF
  have hF : b = true → b = true := id
  have hE := fun (n : Nat) (c : Option Chunk) => (Grow.settleE (n := n) (hgw.frame (H' := H.put 2 c) (by intro b hb; simp only [List.mem_cons, List.not_mem_nil, or_false] at hb; rcases hb with rfl <;> exact cA)))
  obtain ⟨g1, g2, g3, g4⟩ := hgw.gv
  refine n1 (j h0 (j h4 (j h6 (j h38 (j h39 (j h40 (j e0 (j e2 e5)))))))) ?_
  have nx : Hid _ := next
  clear next
  open QFg2 in exact Am2
  done
 |fail) : p := h
end QFg1
theorem r45 {F : Int → ByteArray} {m : Nat} {x : List PV} (ih : IHf X G m) (ihb : ∀ {y}, BZ m y → Mt Tab X G 72 [.agg y] (NdN F y)) (kind op ref flags : Int) (str exprs kids decls cases fns classes : PV) (hxe : x = [.int .i64 kind, .int .i64 op, .int .i64 ref, .int .i64 flags, str, exprs, kids, decls, cases, fns, classes]) (hx : StmtC x) (hm : SizeOf.sizeOf x ≤ m) : Mt Tab X G 45 [.agg x] (NdD F op decls) := by
 intro e fine
 have hF : fine = true → fine = true := id
 subst hxe
 obtain ⟨kind', op', ref', flags', str', exprs', kids', decls', cases', fns', classes', he, l_str, l_exprs, l_kids, l_decls, l_cases, l_fns, l_classes⟩ := hx.open hm
 cases he
 have := l_str.1; have := l_str.2.1; have := l_exprs.1; have := l_exprs.2.1; have := l_kids.1; have := l_kids.2.1; have := l_decls.1; have := l_decls.2.1; have := l_cases.1; have := l_cases.2.1; have := l_fns.1; have := l_fns.2.1; have := l_classes.1; have := l_classes.2.1
 refine Fn_of T45 (by simp) ?_
 refine nA ?_
 open QFg1 in exact Am1
end
end Go.Pi
end
