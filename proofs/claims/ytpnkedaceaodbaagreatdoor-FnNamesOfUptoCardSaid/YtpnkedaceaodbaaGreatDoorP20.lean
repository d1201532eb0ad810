import Derived.Test.YtpnkedaceaodbaaGreatDoorP09
import Derived.Test.YtpnkedaceaodbaaGreatDoorP16
import Derived.Test.YtpnkedaceaodbaaGreatDoorP19
/- Part of the proof. -/
set_option linter.all false
set_option maxHeartbeats 0
set_option maxRecDepth 100000
section
open Go Go.Pi
namespace Go.Pi
variable {p q a : Prop}
section
variable {X : CallF} {G : Nat → PV}
def StrsP (v : PV) : Prop := SlP (fun y => ∃ t : ByteArray, y = [.str t] ∧ t.size ≤ 1000) v
def strsB (xs : List (List PV)) : Bool := xs.all fun y => match y with
 |[.str t] => decide (t.size ≤ 1000)
 |_ => false
theorem StrsP.of {xs : List (List PV)} (h : strsB xs = true) (hl : xs.length ≤ 1000) : StrsP (.sl xs) := by
 have key : ∀ y, y ∈ xs → ∃ t : ByteArray, y = [.str t] ∧ t.size ≤ 1000 := by
  intro y hy
  have := List.all_eq_true.1 h y hy
  split at this
  ·exact ⟨_, rfl, by simpa using this⟩
  ·cases this
 exact ⟨.inr ⟨xs, rfl, by omega⟩, by simp only [deepB]; exact deepLL_of fun y hy => by obtain ⟨n, rfl, _⟩ := key y hy; rfl, key⟩
theorem c158 : Pure Tab X G 158 [] (fun r => ∃ xs, r = .sl xs ∧ StrsP (.sl xs)) := by
 refine Fn_of T158 (by simp) ?_
 refine s0 ?_
 exact ⟨_, rfl, StrsP.of (by rfl) (by decide)⟩
namespace QCf2
theorem fB2 (x : a) (g : q) (h : a → q → p := by (intro x g; exact n1 (j x (j h0 (j h2 (j h3 (j h4 (j e0 (j e1 (j hlv hTT)))))))) g)) : p := h x g
theorem kN2 (h : p := by
 first
 |(refine next _ ?_ _ ⟨_, by (exact c1 (j h0 (j h2 (j h3 (j h4 (j e0 (j e1 hlv))))))), by (exact c1 (j h0 (j h2 (j h3 (j h4 (j e0 (j e1 hlv))))))), by (exact c1 (j h0 (j h2 (j h3 (j h4 (j e0 (j e1 hlv))))))), by (exact c1 (j h0 (j h2 (j h3 (j h4 (j e0 (j e1 hlv))))))), by (exact c1 (j h0 (j h2 (j h3 (j h4 (j e0 (j e1 hlv))))))), by (exact c1 (j h0 (j h2 (j h3 (j h4 (j e0 (j e1 hlv))))))), wM, rfl⟩; exact wM)
 |fail) : p := h
theorem kA2 (h : p := by
 first
 |((refine ⟨_, _, _, rfl, by omega, by omega, _, _, _, _, _, _, _, _, _, rfl, by first | omega | (rw [bs_size]; simp; done) | (rw [bs_size]; simp; omega)⟩)) <;> exact As2
 |fail) : p := h
theorem kB2 (h : p := by
 first
 |(refine MC_scR (c121 hs' _ (by omega)) dC2 (by omega) (by omega) dD2 (fun r hr => ?_); obtain ⟨b, rfl, hb, hbv⟩ := hr; cases b; all_goals (first | (have hb := hb rfl) | clear hb); all_goals (refine fB2 hTT ?_; exact As2))
 |(refine MC_sc (c124 _) dC2 (by omega) (by omega) (by first | trivial | omega | (dsimp only; omega)) dD2 (fun r at1 ln1 bad1 hat hatb hr => ?_); obtain ⟨rfl, hb1, hb2⟩ := hr; (refine fB2 hTT ?_; exact As2))
 |(refine MC_pure (c128 _) pP dD2 ?_; rintro _ rfl; (refine fB2 hTT ?_; exact As2))
 |((refine MIX_re (by assumption) rfl hlv (by omega) ?_; refine n1 (j h0 (j h2 (j h3 (j h4 (j e0 (j e1 hlv)))))) ?_)) <;> exact As2
 |((refine MIX_S (P := fun y => ∃ t : ByteArray, y = [.str t] ∧ t.size ≤ 1000) (fun h => by obtain ⟨n, rfl, _⟩ := h; rfl) lv (by omega) (by omega) (fun y hy hmem hg => ?_); obtain ⟨yn, rfl, hyn⟩ := hy; refine n1 (j h0 (j h2 (j h3 (j h4 (j e0 (j e1 hlv)))))) ?_)) <;> exact As2
 |fail) : p := h
end QCf2
namespace QCf1
theorem fB1 (x : a) (g : q) (h : a → q → p := by (intro x g; exact n1 (j x hTT) g)) : p := h x g
theorem kB1 (h : p := by
 first
 |(refine MC_pure (c158) pP dD1 ?_; rintro _ ⟨mxs, rfl, lv⟩; (refine fB1 hTT ?_; exact As1))
 |fail) : p := h
theorem kZ1 (h : p := by
 first
 |skip
  have hlv := lv.1
  have hB := lv.1.len
  refine M_loop (fun m' s' => ∃ (i : Int), s'.t 0 = .ptr 0 0 0 ∧ s'.t 2 = .ptr 1 1 0 ∧ s'.t 3 = .sl mxs ∧ s'.t 4 = .int .i64 i ∧ s'.H 0 = some ⟨e, 0, [.str s, .int .i64 at0, .bool sc, .bool ln, .int .i64 bad0], 0⟩ ∧ s'.H 1 = some ⟨173, 1, [.int .i64 0, .str (bs []), .str (bs []), .int .u64 0, .int .i64 0, .int .i64 0, .bool false, .bool false, .bool false], 0⟩ ∧ (0 ≤ i) ∧ m' = ((els (.sl mxs)).length - i).toNat) ?_ (n := _) ⟨_, by (exact c1 hlv), by (exact c1 hlv), by (exact c1 hlv), by (exact c1 hlv), by (exact c1 hlv), by (exact c1 hlv), wM, rfl⟩
  rintro m' ⟨t, H, k⟩ ⟨i, h0, h2, h3, h4, e0, e1, hq0, hm⟩ next
  simp only at h0 h2 h3 h4 e0 e1
  refine n1 (j h0 (j h2 (j h3 (j h4 (j e0 (j e1 hlv)))))) ?_
  open QCf2 in exact As2
  done
 |fail) : p := h
end QCf1
theorem c134 {s : ByteArray} (hs : s.size ≤ 268435456) : Sc Tab X G 134 s [] (fun _ => True) (fun at0 bad0 at1 bad1 r => ∃ (k : Int) (text more : ByteArray) (num from_ to_ : Int) (a b c : Bool), r = .agg [.int .i64 k, .str text, .str more, .int .u64 num, .int .i64 from_, .int .i64 to_, .bool a, .bool b, .bool c] ∧ (text.size : Int) ≤ 1000) := by
 intro e sc ln at0 bad0 h0 h1 _
 have hs' : s.size ≤ 4398046511104 := by omega
 refine Fn_of T134 (by simp) ?_
 refine n0 ?_
 open QCf1 in exact As1
end
end Go.Pi
end
section
open Go Go.Pi
namespace Go.Pi
variable {p q a : Prop}
section
variable {X : CallF} {G : Nat → PV}
theorem dig_nn {z : ByteArray} {base i b v : Int} (h : DigOk X G base z) (hv : v = hxF X G b) (hb : b = byt z i) (h0 : 0 ≤ i) (h1 : i < (z.size : Int)) : 0 ≤ v := by
 obtain ⟨p, rfl⟩ := Int.eq_ofNat_of_zero_le h0
 have := (h p (by omega)).1
 rw [hv, hb]; exact this
namespace QNi2
theorem fB2 (x : a) (g : q) (h : a → q → p := by (intro x g; exact n1 (j x (j h0 (j h1 (j h5 (j h6 (j hgd hTT)))))) g)) : p := h x g
theorem kN2 (h : p := by
 first
 |(refine next _ ?_ _ ⟨_, _, by (exact c1 (j h0 (j h1 (j h5 h6)))), by (exact c1 (j h0 (j h1 (j h5 h6)))), by (exact c1 (j h0 (j h1 (j h5 h6)))), by (exact c1 (j h0 (j h1 (j h5 h6)))), by (first | exact wM | exact ⟨0, [], .inl ⟨rfl, rfl⟩, Lim.nil, Top.nil, rfl, by simp⟩ | exact ⟨_, hgq.mono (by omega)⟩), by (first | exact wM | exact ⟨0, [], .inl ⟨rfl, rfl⟩, Lim.nil, Top.nil, rfl, by simp⟩ | exact ⟨_, hgq.mono (by omega)⟩), by (first | exact wM | exact ⟨0, [], .inl ⟨rfl, rfl⟩, Lim.nil, Top.nil, rfl, by simp⟩ | exact ⟨_, hgq.mono (by omega)⟩), rfl⟩; (first | exact wM | exact ⟨0, [], .inl ⟨rfl, rfl⟩, Lim.nil, Top.nil, rfl, by simp⟩ | exact ⟨_, hgq.mono (by omega)⟩))
 |fail) : p := h
theorem kA2 (h : p := by
 first
 |(exact ⟨N, hN.mono (by omega)⟩) <;> exact As2
 |fail) : p := h
theorem kB2 (h : p := by
 first
 |(refine MC_pure (c168 _ (by omega) (by omega)) pP dD2 ?_; rintro _ ⟨v, rfl, hv, hv0, hv1⟩; have hv2 : 0 ≤ v := dig_nn hz hv (by assumption) (by omega) (by omega); (refine fB2 hTT ?_; exact As2))
 |(refine MC_pure (n159N base _ hN (by omega) (by omega) (by omega) (by omega) (by omega)) pQ dQ2 ?_; rintro gq hgq; have hgd := hgq.deep; refine fB2 hgd ?_; exact As2)
 |fail) : p := h
end QNi2
namespace QNi1
theorem fB1 (x : a) (g : q) (h : a → q → p := by (intro x g; exact n1 (j x hTT) g)) : p := h x g
theorem kZ1 (h : p := by
 first
 |skip
  refine M_loop (fun m' s' => ∃ (i : Int) (g : PV), s'.t 0 = .str z ∧ s'.t 1 = .int .i64 base ∧ s'.t 5 = g ∧ s'.t 6 = .int .i64 i ∧ (∃ N, NatV N i.toNat g) ∧ (0 ≤ i) ∧ (i ≤ z.size) ∧ m' = (z.size - i).toNat) ?_ (n := _) ⟨0, .nils, by (exact c0), by (exact c0), by (exact c0), by (exact c0), by (first | exact wM | exact ⟨0, [], .inl ⟨rfl, rfl⟩, Lim.nil, Top.nil, rfl, by simp⟩ | exact ⟨_, hgq.mono (by omega)⟩), by (first | exact wM | exact ⟨0, [], .inl ⟨rfl, rfl⟩, Lim.nil, Top.nil, rfl, by simp⟩ | exact ⟨_, hgq.mono (by omega)⟩), by (first | exact wM | exact ⟨0, [], .inl ⟨rfl, rfl⟩, Lim.nil, Top.nil, rfl, by simp⟩ | exact ⟨_, hgq.mono (by omega)⟩), rfl⟩
  rintro m' ⟨t, H, k⟩ ⟨i, g, h0, h1, h5, h6, hq0, hq1, hq2, hm⟩ next
  simp only at h0 h1 h5 h6
  refine n1 (j h0 (j h1 (j h5 h6))) ?_
  obtain ⟨N, hN⟩ := hq0
  have hgd := hN.deep
  open QNi2 in exact As2
  done
 |fail) : p := h
end QNi1
theorem n152 {base2 : Int} (z : ByteArray) (base : Int) (hz : DigOk X G base2 z) (hb0 : 0 ≤ base) (hb1 : base < 4294967296) (hl : z.size ≤ 16777216) : Pure Tab X G 152 [.str z, .int .i64 base] (fun r => ∃ N, NatV N z.size r) := by
 refine Fn_of T152 (by simp) ?_
 refine n0 ?_
 open QNi1 in exact As1
namespace QNi6
theorem fB4 (x : a) (g : q) (h : a → q → p := by (intro x g; exact n1 (j x (j h0 (j h3 (j h4 (j h5 (j h6 (j e6003 (j h0 (j h3 (j hv2 (j hlen2 (j @Int.toNat_natCast (j cel_zeros (j shl32 hTT)))))))))))))) g)) : p := h x g
theorem kN4 (h : p := by
 first
 |(refine next _ ?_ _ ⟨_, _, _, _, by (exact c1 (j h0 (j h3 (j h4 (j h5 (j h6 (j e6003 (j h0 (j h3 (j hv2 (j hlen2 (j @Int.toNat_natCast cel_zeros)))))))))))), by (exact c1 (j h0 (j h3 (j h4 (j h5 (j h6 (j e6003 (j h0 (j h3 (j hv2 (j hlen2 (j @Int.toNat_natCast cel_zeros)))))))))))), by (exact c1 (j h0 (j h3 (j h4 (j h5 (j h6 (j e6003 (j h0 (j h3 (j hv2 (j hlen2 (j @Int.toNat_natCast cel_zeros)))))))))))), by (exact c1 (j h0 (j h3 (j h4 (j h5 (j h6 (j e6003 (j h0 (j h3 (j hv2 (j hlen2 (j @Int.toNat_natCast cel_zeros)))))))))))), by (exact c1 (j h0 (j h3 (j h4 (j h5 (j h6 (j e6003 (j h0 (j h3 (j hv2 (j hlen2 (j @Int.toNat_natCast cel_zeros)))))))))))), by (exact c1 (j h0 (j h3 (j h4 (j h5 (j h6 (j e6003 (j h0 (j h3 (j hv2 (j hlen2 (j @Int.toNat_natCast cel_zeros)))))))))))), by (first | exact wM | (simp; done) | exact Lim.zeros _ | (rw [List.drop_of_length_le (by omega), List.drop_of_length_le (by rw [List.length_replicate]; omega)]; simp [vl]; done) | exact hq5.set (by omega) (by omega) | (rw [List.length_set]; exact hq4) | exact ten_step (by omega) hx hq4 hq6), by (first | exact wM | (simp; done) | exact Lim.zeros _ | (rw [List.drop_of_length_le (by omega), List.drop_of_length_le (by rw [List.length_replicate]; omega)]; simp [vl]; done) | exact hq5.set (by omega) (by omega) | (rw [List.length_set]; exact hq4) | exact ten_step (by omega) hx hq4 hq6), by (first | exact wM | (simp; done) | exact Lim.zeros _ | (rw [List.drop_of_length_le (by omega), List.drop_of_length_le (by rw [List.length_replicate]; omega)]; simp [vl]; done) | exact hq5.set (by omega) (by omega) | (rw [List.length_set]; exact hq4) | exact ten_step (by omega) hx hq4 hq6), by (first | exact wM | (simp; done) | exact Lim.zeros _ | (rw [List.drop_of_length_le (by omega), List.drop_of_length_le (by rw [List.length_replicate]; omega)]; simp [vl]; done) | exact hq5.set (by omega) (by omega) | (rw [List.length_set]; exact hq4) | exact ten_step (by omega) hx hq4 hq6), by (first | exact wM | (simp; done) | exact Lim.zeros _ | (rw [List.drop_of_length_le (by omega), List.drop_of_length_le (by rw [List.length_replicate]; omega)]; simp [vl]; done) | exact hq5.set (by omega) (by omega) | (rw [List.length_set]; exact hq4) | exact ten_step (by omega) hx hq4 hq6), by (first | exact wM | (simp; done) | exact Lim.zeros _ | (rw [List.drop_of_length_le (by omega), List.drop_of_length_le (by rw [List.length_replicate]; omega)]; simp [vl]; done) | exact hq5.set (by omega) (by omega) | (rw [List.length_set]; exact hq4) | exact ten_step (by omega) hx hq4 hq6), by (first | exact wM | (simp; done) | exact Lim.zeros _ | (rw [List.drop_of_length_le (by omega), List.drop_of_length_le (by rw [List.length_replicate]; omega)]; simp [vl]; done) | exact hq5.set (by omega) (by omega) | (rw [List.length_set]; exact hq4) | exact ten_step (by omega) hx hq4 hq6), rfl⟩; (first | exact wM | (simp; done) | exact Lim.zeros _ | (rw [List.drop_of_length_le (by omega), List.drop_of_length_le (by rw [List.length_replicate]; omega)]; simp [vl]; done) | exact hq5.set (by omega) (by omega) | (rw [List.length_set]; exact hq4) | exact ten_step (by omega) hx hq4 hq6))
 |fail) : p := h
end QNi6
namespace QNi8
theorem fB5 (x : a) (g : q) (h : a → q → p := by (intro x g; exact n1 (j x (j h0 (j h3 (j h4 (j h5 (j h6 (j e6003 (j h0 (j h3 (j hv2 (j hlen2 (j @Int.toNat_natCast (j cel_zeros hTT))))))))))))) g)) : p := h x g
theorem kZ5 (h : p := by
 first
 |skip
  have hsz2 : (z1 ++ z).size = 1 + z.size := by rw [ByteArray.size_append, hz2]
  refine nextO _ ?_ _ ⟨z1 ++ z, r9, vl nx, c1 (j h0 (j h3 (j h4 (j h5 (j h6 (j e6003 (j h0 (j h3 (j hv2 (j hlen2 (j @Int.toNat_natCast cel_zeros))))))))))), c1 (j h0 (j h3 (j h4 (j h5 (j h6 (j e6003 (j h0 (j h3 (j hv2 (j hlen2 (j @Int.toNat_natCast cel_zeros))))))))))), hr9.mono (by omega), ?_, by omega, by omega, rfl⟩
  ·omega
  ·rw [hsz2]; exact ten_next (r := r) (n := n) (by omega) (by omega) hO1
  done
 |fail) : p := h
end QNi8
namespace QNi7
theorem fB4 (x : a) (g : q) (h : a → q → p := by (intro x g; exact n1 (j x (j h0 (j h3 (j h4 (j h5 (j h6 (j e6003 (j h0 (j h3 (j hv2 (j hlen2 (j @Int.toNat_natCast (j cel_zeros hTT))))))))))))) g)) : p := h x g
theorem kZ4 (h : p := by
 first
 |skip
  refine MC_grow (hgw.frame (H' := _) (by intro b hb; simp only [List.mem_singleton] at hb; subst hb; first | rfl | exact c1 (j h0 (j h3 (j h4 (j h5 (j h6 (j e6003 (j h0 (j h3 (j hv2 (j hlen2 (j @Int.toNat_natCast cel_zeros))))))))))))) (n105 hgw.nv hq5 (by omega)) (fun r9 hr9 => ?_)
  refine n1 (j h0 (j h3 (j h4 (j h5 (j h6 (j e6003 (j h0 (j h3 (j hv2 (j hlen2 (j @Int.toNat_natCast cel_zeros))))))))))) ?_
  open QNi8 in exact As5
  done
 |fail) : p := h
end QNi7
namespace QNi5
theorem fB3 (x : a) (g : q) (h : a → q → p := by (intro x g; exact n1 (j x (j h0 (j h3 (j h4 (j h5 (j h6 (j e6003 (j h0 (j h3 (j hv2 (j hlen2 (j @Int.toNat_natCast (j cel_zeros (j shl32 hTT)))))))))))))) g)) : p := h x g
theorem kB3 (h : p := by
 first
 |((refine MIX_NV hva2 (by omega) (by omega) (fun x hx => ?_); have hxb := hla2.get hx; refine n1 (j h0 (j h3 (j h4 (j h5 (j h6 (j e6003 (j h0 (j h3 (j hv2 (j hlen2 (j @Int.toNat_natCast (j cel_zeros shl32)))))))))))) ?_)) <;> exact As3
 |((refine MIX_row (by omega) (by omega) ?_; refine n1 (j h0 (j h3 (j h4 (j h5 (j h6 (j e6003 (j h0 (j h3 (j hv2 (j hlen2 (j @Int.toNat_natCast (j cel_zeros shl32)))))))))))) ?_)) <;> exact As3
 |fail) : p := h
theorem y3_0 (h : p := by
 first
 |skip
  rw [cel_set1 (by omega)]
  open QNi6 in exact As4
  done
 |fail) : p := h
theorem y3_1 (h : p := by
 first
 |skip
  have he := ten_end (by omega) hq6
  have hmv := vl_nonneg hq5
  refine MC_none rfl (by intro b g r h; cases h) (c0) ?_
  obtain ⟨r1, cells1, hf1, z1, rfl, hz1⟩ := c99 (X := X) (G := G) (IntsP.of (xs := [[.int .i64 (48 + r)]]) (by simp) (by simp))
  refine ⟨_, _, hf1, ?_⟩
  have hz2 : z1.size = 1 := hz1
  have hsz : z1.size + z.size ≤ 9223372036854775807 := by omega
  refine n1 (j h0 (j h3 (j h4 (j h5 (j h6 (j e6003 (j h0 (j h3 (j hv2 (j hlen2 (j @Int.toNat_natCast (j cel_zeros hsz)))))))))))) ?_
  have hgw : Grow [6003] H 43 1 (.row 6003 st a2.length) (lims nx) := by
   have := Grow.cel (A := [6003]) (by simp) e6003
   rw [hq4] at this
   exact this
  open QNi7 in exact As4
  done
 |fail) : p := h
theorem kZ3 (h : p := by
 first
 |skip
  all_goals first
  |exact y3_0
  |exact y3_1
  |fail
  done
 |fail) : p := h
end QNi5
namespace QNi4
theorem fB2 (x : a) (g : q) (h : a → q → p := by (intro x g; exact n1 (j x (j h0 (j h3 (j hv2 (j hd2 (j hlen2 (j @Int.toNat_natCast hTT))))))) g)) : p := h x g
theorem kA2 (h : p := by
 first
 |((refine ⟨_, rfl, ?_, ?_⟩; (rcases Nat.eq_zero_or_pos z.size with hz0 | hz0; (have e2 := hq2 hz0; have e3 : a2 = [] := List.eq_nil_of_length_eq_zero (by omega); subst e3; simp [vl] at ha2; omega); (focus omega)); omega)) <;> exact As2
 |fail) : p := h
theorem kZ2 (h : p := by
 first
 |skip
  have hnp : 0 < n := by
   have := vl_top hla2 hta2 (by intro e; subst e; simp at hp)
   have := pow_pos' (a2.length - 1)
   omega
  have hzK := ten_lt hnp hq1 hK
  have nextO := next
  have hO1 := hq1
  have hO2 := hq2
  have hOm := hm
  refine M_loop (fun m' s' => ∃ (k r : Int) (nx : List Int) (st : Nat), s'.t 0 = g ∧ s'.t 3 = .str z ∧ s'.t 4 = .int .u64 r ∧ s'.t 5 = .row 6003 st a2.length ∧ s'.t 6 = .int .i64 k ∧ s'.H 6003 = some ⟨43, st, cel nx, 1⟩ ∧ (-1 ≤ k) ∧ (k < a2.length) ∧ (0 ≤ r) ∧ (r < 10) ∧ (nx.length = a2.length) ∧ (Lim nx) ∧ (vl (a2.drop (k + 1).toNat) = 10 * vl (nx.drop (k + 1).toNat) + r) ∧ m' = (k + 1).toNat) ?_ (n := _) ⟨(a2.length : Int) - 1, 0, List.replicate a2.length 0, _, by (exact c1 (j h0 (j h3 (j hv2 (j hlen2 (j @Int.toNat_natCast cel_zeros)))))), by (exact c1 (j h0 (j h3 (j hv2 (j hlen2 (j @Int.toNat_natCast cel_zeros)))))), by (exact c1 (j h0 (j h3 (j hv2 (j hlen2 (j @Int.toNat_natCast cel_zeros)))))), by (exact c1 (j h0 (j h3 (j hv2 (j hlen2 (j @Int.toNat_natCast cel_zeros)))))), by (exact c1 (j h0 (j h3 (j hv2 (j hlen2 (j @Int.toNat_natCast cel_zeros)))))), by (exact c1 (j h0 (j h3 (j hv2 (j hlen2 (j @Int.toNat_natCast cel_zeros)))))), by (first | exact wM | (simp; done) | exact Lim.zeros _ | (rw [List.drop_of_length_le (by omega), List.drop_of_length_le (by rw [List.length_replicate]; omega)]; simp [vl]; done) | exact hq5.set (by omega) (by omega) | (rw [List.length_set]; exact hq4) | exact ten_step (by omega) hx hq4 hq6), by (first | exact wM | (simp; done) | exact Lim.zeros _ | (rw [List.drop_of_length_le (by omega), List.drop_of_length_le (by rw [List.length_replicate]; omega)]; simp [vl]; done) | exact hq5.set (by omega) (by omega) | (rw [List.length_set]; exact hq4) | exact ten_step (by omega) hx hq4 hq6), by (first | exact wM | (simp; done) | exact Lim.zeros _ | (rw [List.drop_of_length_le (by omega), List.drop_of_length_le (by rw [List.length_replicate]; omega)]; simp [vl]; done) | exact hq5.set (by omega) (by omega) | (rw [List.length_set]; exact hq4) | exact ten_step (by omega) hx hq4 hq6), by (first | exact wM | (simp; done) | exact Lim.zeros _ | (rw [List.drop_of_length_le (by omega), List.drop_of_length_le (by rw [List.length_replicate]; omega)]; simp [vl]; done) | exact hq5.set (by omega) (by omega) | (rw [List.length_set]; exact hq4) | exact ten_step (by omega) hx hq4 hq6), by (first | exact wM | (simp; done) | exact Lim.zeros _ | (rw [List.drop_of_length_le (by omega), List.drop_of_length_le (by rw [List.length_replicate]; omega)]; simp [vl]; done) | exact hq5.set (by omega) (by omega) | (rw [List.length_set]; exact hq4) | exact ten_step (by omega) hx hq4 hq6), by (first | exact wM | (simp; done) | exact Lim.zeros _ | (rw [List.drop_of_length_le (by omega), List.drop_of_length_le (by rw [List.length_replicate]; omega)]; simp [vl]; done) | exact hq5.set (by omega) (by omega) | (rw [List.length_set]; exact hq4) | exact ten_step (by omega) hx hq4 hq6), by (first | exact wM | (simp; done) | exact Lim.zeros _ | (rw [List.drop_of_length_le (by omega), List.drop_of_length_le (by rw [List.length_replicate]; omega)]; simp [vl]; done) | exact hq5.set (by omega) (by omega) | (rw [List.length_set]; exact hq4) | exact ten_step (by omega) hx hq4 hq6), rfl⟩
  rintro m' ⟨t, H, k⟩ ⟨k, r, nx, st, h0, h3, h4, h5, h6, e6003, hq0, hq1, hq2, hq3, hq4, hq5, hq6, hm⟩ next
  simp only at h0 h3 h4 h5 h6 e6003
  refine n1 (j h0 (j h3 (j h4 (j h5 (j h6 (j e6003 (j h0 (j h3 (j hv2 (j hlen2 (j @Int.toNat_natCast cel_zeros))))))))))) ?_
  have hcl := cel_len nx
  open QNi5 in exact As3
  done
 |fail) : p := h
end QNi4
namespace QNi3
theorem fB1 (x : a) (g : q) (h : a → q → p := by (intro x g; exact n1 (j x (j hd (j hv (j hlen hTT)))) g)) : p := h x g
theorem kA1 (h : p := by
 first
 |(exact ⟨_, rfl, by rw [bs_size]; simp, by rw [bs_size]; simp; omega⟩) <;> exact As1
 |fail) : p := h
theorem kZ1 (h : p := by
 first
 |skip
  have hNp : 0 < N := by
   rcases Int.lt_or_le 0 N with h1 | h1
   ·exact h1
   ·have := vl_zero hla hta (by omega)
    subst this
    simp at *
  refine M_loop (fun m' s' => ∃ (z : ByteArray) (g : PV) (n : Int), s'.t 0 = g ∧ s'.t 3 = .str z ∧ (NatV n L g) ∧ (n * 10 ^ z.size ≤ N) ∧ (z.size = 0 → n = N) ∧ (z.size ≤ K) ∧ m' = n.toNat) ?_ (n := _) ⟨bs [], v, N, by (exact c0), by (exact c0), by (first | exact wM | (rw [bs_size]; simp; done) | (intro _; rfl)), by (first | exact wM | (rw [bs_size]; simp; done) | (intro _; rfl)), by (first | exact wM | (rw [bs_size]; simp; done) | (intro _; rfl)), by (first | exact wM | (rw [bs_size]; simp; done) | (intro _; rfl)), rfl⟩
  rintro m' ⟨t, H, k⟩ ⟨z, g, n, h0, h3, hq0, hq1, hq2, hq3, hm⟩ next
  simp only at h0 h3
  refine n1 (j h0 h3) ?_
  have hn0 := hq0.nonneg
  obtain ⟨a2, hva2, hla2, hta2, ha2, hna2⟩ := hq0
  have hv2 := hva2.sls
  have hd2 := hva2.deep
  have hlen2 := hva2.len
  open QNi4 in exact As2
  done
 |fail) : p := h
end QNi3
theorem n81 {N : Int} {L K : Nat} {v : PV} (h : NatV N L v) (hl : L ≤ 16777216) (hK : N < 10 ^ K) (hK2 : K ≤ 1099511627776) : Pure Tab X G 81 [v] (fun r => ∃ z, r = .str z ∧ 1 ≤ z.size ∧ z.size ≤ max 1 K) := by
 have hN := h.nonneg
 have hd := h.deep
 have h' := h
 obtain ⟨a, hva, hla, hta, ha, hna⟩ := h'
 have hv := hva.sls
 have hlen := hva.len
 refine Fn_of T81 (by simp) ?_
 refine n1 (j hd (j hv hlen)) ?_
 open QNi3 in exact As1
end
end Go.Pi
end
section
open Go Go.Pi
namespace Go.Pi
variable {p q a : Prop}
section
variable {X : CallF} {G : Nat → PV}
namespace QNj1
theorem fB1 (x : a) (g : q) (h : a → q → p := by (intro x g; exact n1 (j x (j hd hTT)) g)) : p := h x g
theorem kA1 (h : p := by
 first
 |(exact ⟨_, rfl, hv0, hv1, hvr⟩) <;> exact As1
 |fail) : p := h
theorem kB1 (h : p := by
 first
 |(refine MC_pure (n82 1 (by omega) (by omega)) pQ dQ1 ?_; rintro x hx; have hgd := hx.deep; refine fB1 hgd ?_; exact As1)
 |(refine MC_pure (n162 h hx (by omega) (by omega) (by omega)) pQ dQ1 ?_; rintro _ ⟨v, rfl, hv0, hv1, hvr⟩; have hgd := hd; refine fB1 hgd ?_; exact As1)
 |fail) : p := h
end QNj1
theorem n167 {N : Int} {L : Nat} {v : PV} (h : NatV N L v) (hl : L ≤ 33554432) : Pure Tab X G 167 [v] (RoundR N 1) := by
 have hd := h.deep
 refine Fn_of T167 (by simp) ?_
 refine n1 hd ?_
 open QNj1 in exact As1
theorem byt_subs {s : ByteArray} {p q : Int} {i : Nat} (h0 : 0 ≤ p) (h1 : p ≤ q) (h2 : q ≤ (s.size : Int)) (hi : (i : Int) < q - p) : byt (subs s p q) i = byt s (p + i) := by
 unfold byt subs
 have e : (s.extract p.toNat q.toNat).data.toList = (s.data.toList.drop p.toNat).take (q.toNat - p.toNat) := by
  rw [ByteArray.data_extract, Array.toList_extract, List.extract_eq_take_drop]
 rw [e]
 simp only [List.getD_eq_getElem?_getD]
 rw [List.getElem?_take, if_pos (by omega), List.getElem?_drop]
 congr 4
 omega
theorem DigOk.sub {base : Int} {z : ByteArray} {p q : Int} (h : DigOk X G base z) (h0 : 0 ≤ p) (h1 : p ≤ q) (h2 : q ≤ (z.size : Int)) : DigOk X G base (subs z p q) := by
 intro i hi
 have hs := subs_size h0 h1 h2
 rw [byt_subs h0 h1 h2 (by omega)]
 have := h (p.toNat + i) (by omega)
 rw [show ((p.toNat + i : Nat) : Int) = p + i by omega] at this
 exact this
theorem DigOk.app {base : Int} {y z : ByteArray} (h : DigOk X G base y) (g : DigOk X G base z) : DigOk X G base (y ++ z) := by
 intro i hi
 rw [ByteArray.size_append] at hi
 rw [byt_app]
 split
 ·rename_i h1; exact h i h1
 ·rename_i h1; exact g (i - y.size) (by omega)
namespace QNj4
theorem fB3 (x : a) (g : q) (h : a → q → p := by (intro x g; exact n1 (j x (j h0 (j h1 (j h0 (j h1 hTT))))) g)) : p := h x g
theorem kN3 (h : p := by
 first
 |(refine next _ ?_ _ ⟨_, _, by (exact c1 (j h0 (j h1 (j h0 h1)))), by (exact c1 (j h0 (j h1 (j h0 h1)))), by (first | exact wM | (subst hz; exact hq0.sub (by omega) (by omega) (by omega))), by (first | exact wM | (subst hz; exact hq0.sub (by omega) (by omega) (by omega))), rfl⟩; (first | exact wM | (subst hz; exact hq0.sub (by omega) (by omega) (by omega))))
 |fail) : p := h
theorem kA3 (h : p := by
 first
 |(exact ⟨_, _, rfl, by omega, by omega⟩) <;> exact As3
 |fail) : p := h
theorem kB3 (h : p := by
 first
 |(refine MC_pure (n152 _ 10 hq0 (by omega) (by omega) (by omega)) pQ dQ3 ?_; rintro gq ⟨N, hN⟩; have hgd := hN.deep; refine fB3 hgd ?_; exact As3)
 |(refine MC_pure (n82 1 (by omega) (by omega)) pQ dQ3 ?_; rintro x hx; have hgd := hx.deep; refine fB3 hgd ?_; exact As3)
 |(refine MC_pure (n137 10 _ hN (by omega) (by omega) (by omega) (by omega) (by omega)) pQ dQ3 ?_; rintro x3 hx3; have hgd := hx3.deep; refine fB3 hgd ?_; exact As3)
 |(refine MC_pure (n137 10 _ hx (by omega) (by omega) (by omega) (by omega) (by omega)) pQ dQ3 ?_; rintro x3 hx3; have hgd := hx3.deep; refine fB3 hgd ?_; exact As3)
 |(refine MC_pure (n162 hx3 hx (by omega) (by omega) (by omega)) pQ dQ3 ?_; rintro _ ⟨v, rfl, hv0, hv1, hvr⟩; have hgd := hgd; refine fB3 hgd ?_; exact As3)
 |(refine MC_pure (n162 hN hx3 (by rw [Int.one_mul]; exact Int.pow_pos (by decide)) (by omega) (by omega)) pQ dQ3 ?_; rintro _ ⟨v, rfl, hv0, hv1, hvr⟩; have hgd := hgd; refine fB3 hgd ?_; exact As3)
 |fail) : p := h
end QNj4
namespace QNj3
theorem fB2 (x : a) (g : q) (h : a → q → p := by (intro x g; exact n1 (j x (j h0 (j h1 hTT))) g)) : p := h x g
theorem kN2 (h : p := by
 first
 |(refine next _ ?_ _ ⟨_, by (exact c1 (j h0 h1)), by (exact c1 (j h0 h1)), by (first | exact wM | (subst hz; exact hq0.sub (by omega) (by omega) (by omega))), by (first | exact wM | (subst hz; exact hq0.sub (by omega) (by omega) (by omega))), rfl⟩; (first | exact wM | (subst hz; exact hq0.sub (by omega) (by omega) (by omega))))
 |fail) : p := h
theorem kZ2 (h : p := by
 first
 |skip
  all_goals
   refine M_loop (fun m' s' => ∃ (y2 : ByteArray) (e2 : Int), s'.t 0 = .str y2 ∧ s'.t 1 = .int .i64 e2 ∧ (DigOk X G base y2) ∧ (y2.size ≤ 300) ∧ m' = y2.size) ?_ (n := _) ⟨_, _, by (exact c1 (j h0 h1)), by (exact c1 (j h0 h1)), by (first | exact wM | (subst hz; exact hq0.sub (by omega) (by omega) (by omega))), by (first | exact wM | (subst hz; exact hq0.sub (by omega) (by omega) (by omega))), rfl⟩
   rintro m' ⟨t, H, k⟩ ⟨y2, e2, h0, h1, hq0, hq1, hm⟩ next
   simp only at h0 h1
   refine n1 (j h0 (j h1 (j h0 h1))) ?_
   open QNj4 in exact As3
  done
 |fail) : p := h
end QNj3
namespace QNj2
theorem fB1 (x : a) (g : q) (h : a → q → p := by (intro x g; exact n1 (j x hTT) g)) : p := h x g
theorem kA1 (h : p := by
 first
 |(exact ⟨_, _, rfl, by omega, by omega⟩) <;> exact As1
 |fail) : p := h
theorem kZ1 (h : p := by
 first
 |skip
  refine M_loop (fun m' s' => ∃ (y : ByteArray), s'.t 0 = .str y ∧ s'.t 1 = .int .i64 e ∧ (DigOk X G base y) ∧ (y.size ≤ 300) ∧ m' = y.size) ?_ (n := _) ⟨_, by (exact c0), by (exact c0), by (first | exact wM | (subst hz; exact hq0.sub (by omega) (by omega) (by omega))), by (first | exact wM | (subst hz; exact hq0.sub (by omega) (by omega) (by omega))), rfl⟩
  rintro m' ⟨t, H, k⟩ ⟨y, h0, h1, hq0, hq1, hm⟩ next
  simp only at h0 h1
  refine n1 (j h0 h1) ?_
  open QNj3 in exact As2
  done
 |fail) : p := h
end QNj2
theorem n153 {base : Int} (z : ByteArray) (e : Int) (hz : DigOk X G base z) (hzs : z.size ≤ 1099511627776) : Pure Tab X G 153 [.str z, .int .i64 e] (fun r => ∃ v b, r = .tup [.int .u64 v, .bool b] ∧ 0 ≤ v ∧ v < 18446744073709551616) := by
 refine Fn_of T153 (by simp) ?_
 refine n0 ?_
 open QNj2 in exact As1
end
end Go.Pi
end
section
open Go Go.Pi
namespace Go.Pi
variable {p q a : Prop}
section
variable {X : CallF} {G : Nat → PV}
theorem n81L {N : Int} {L : Nat} {v : PV} (h : NatV N L v) (hl : L ≤ 16777216) : Pure Tab X G 81 [v] (fun r => ∃ z, r = .str z ∧ z.size ≤ 10 * L + 1) := by
 have h' := h
 obtain ⟨a, hva, hla, hta, ha, hna⟩ := h'
 have hK := limbs_ten hla hna
 rw [ha] at hK
 obtain ⟨r, c, hf, z, rfl, h1, h2⟩ := n81 (X := X) (G := G) h hl hK (by omega)
 exact ⟨_, c, hf, z, rfl, by omega⟩
namespace QCg1
theorem fB1 (x : a) (g : q) (h : a → q → p := by (intro x g; exact n1 (j x hTT) g)) : p := h x g
theorem kA1 (h : p := by
 first
 |((refine ⟨_, _, _, rfl, by omega, by omega, _, _, _, _, _, _, _, _, _, rfl, by first | omega | (rw [bs_size]; simp; done) | (rw [bs_size]; simp; omega)⟩)) <;> exact As1
 |fail) : p := h
theorem kB1 (h : p := by
 first
 |(refine MC_scR (c121a hs' _) dC1 (by omega) (by omega) dD1 (fun r hr => ?_); obtain ⟨b, rfl, hb, hbv⟩ := hr; cases b; all_goals (first | (have hb := hb rfl) | clear hb); all_goals (refine fB1 hTT ?_; exact As1))
 |(refine MC_sc (c151 hs' _ _) dC1 (by omega) (by omega) (by first | trivial | omega | (dsimp only; omega)) dD1 (fun r at1 ln1 bad1 hat hatb hr => ?_); obtain ⟨zz, rfl, hzz, hdg⟩ := hr; (refine fB1 hTT ?_; exact As1))
 |(refine MC_sc (c124 _) dC1 (by omega) (by omega) (by first | trivial | omega | (dsimp only; omega)) dD1 (fun r at1 ln1 bad1 hat hatb hr => ?_); obtain ⟨rfl, hb1, hb2⟩ := hr; (refine fB1 hTT ?_; exact As1))
 |(refine MC_pure (n152 _ _ hdg (by omega) (by omega) (by omega)) pQ dQ1 ?_; rintro gq ⟨N, hN⟩; have hgd := hN.deep; refine fB1 hgd ?_; exact As1)
 |(refine MC_pure (n81L hN (by omega)) pQ dQ1 ?_; rintro _ ⟨z9, rfl, hz9⟩; have hgd := hgd; refine fB1 hgd ?_; exact As1)
 |(refine MC_pure (n167 hN (by omega)) pQ dQ1 ?_; rintro _ ⟨v, rfl, hv0, hv1, hvr⟩; have hgd := hgd; refine fB1 hgd ?_; exact As1)
 |fail) : p := h
end QCg1
theorem c149 {s : ByteArray} (hs : s.size ≤ 2097152) (base : Int) (hb0 : 0 ≤ base) (hb1 : base ≤ 16) : Sc Tab X G 149 s [.int .i64 base] (fun a => a + 2 ≤ (s.size : Int)) (fun at0 bad0 at1 bad1 r => TokR (16 * s.size + 100) r) := by
 intro e sc ln at0 bad0 h0 h1 hpre
 have hpre : at0 + 2 ≤ (s.size : Int) := hpre
 have hs' : s.size ≤ 4398046511104 := by omega
 refine Fn_of T149 (by simp) ?_
 refine n0 ?_
 open QCg1 in exact As1
namespace QCg3
theorem fB2 (x : a) (g : q) (h : a → q → p := by (intro x g; exact n1 (j x (j h0 (j h2 (j h5 (j h6 (j e0 (j e1 hTT))))))) g)) : p := h x g
theorem kN2 (h : p := by
 first
 |(refine next _ ?_ _ ⟨_, _, _, _, by (exact c1 (j h0 (j h2 (j h5 (j h6 (j e0 e1)))))), by (exact c1 (j h0 (j h2 (j h5 (j h6 (j e0 e1)))))), by (exact c1 (j h0 (j h2 (j h5 (j h6 (j e0 e1)))))), by (exact c1 (j h0 (j h2 (j h5 (j h6 (j e0 e1)))))), by (exact c1 (j h0 (j h2 (j h5 (j h6 (j e0 e1)))))), by (exact c1 (j h0 (j h2 (j h5 (j h6 (j e0 e1)))))), wM, wM, wM, rfl⟩; exact wM)
 |fail) : p := h
theorem kA2 (h : p := by
 first
 |((refine ⟨_, _, _, rfl, by omega, by omega, _, _, _, _, _, _, _, _, _, _, _, rfl, by first | omega | (rw [bs_size]; simp; done) | (rw [bs_size]; simp; omega), hdz, hzs2⟩)) <;> exact As2
 |fail) : p := h
theorem kB2 (h : p := by
 first
 |(refine MC_pure (n152 _ _ hdz (by omega) (by omega) (by omega)) pQ dQ2 ?_; rintro gq ⟨N, hN⟩; have hgd := hN.deep; refine fB2 hgd ?_; exact As2)
 |(refine MC_pure (n167 hN (by omega)) pQ dQ2 ?_; rintro _ ⟨v, rfl, hv0, hv1, hvr⟩; have hgd := hgd; refine fB2 hgd ?_; exact As2)
 |fail) : p := h
end QCg3
namespace QCg2
theorem fB1 (x : a) (g : q) (h : a → q → p := by (intro x g; exact n1 (j x hTT) g)) : p := h x g
theorem kB1 (h : p := by
 first
 |(refine MC_sc (c151 hs' _ _) dC1 (by omega) (by omega) (by first | trivial | omega | (dsimp only; omega)) dD1 (fun r at1 ln1 bad1 hat hatb hr => ?_); obtain ⟨zz, rfl, hzz, hdg⟩ := hr; (refine fB1 hTT ?_; exact As1))
 |(refine MC_sc (c124 _) dC1 (by omega) (by omega) (by first | trivial | omega | (dsimp only; omega)) dD1 (fun r at1 ln1 bad1 hat hatb hr => ?_); obtain ⟨rfl, hb1, hb2⟩ := hr; (refine fB1 hTT ?_; exact As1))
 |fail) : p := h
theorem kZ1 (h : p := by
 first
 |skip
  have hdz := hdg
  have hzs2 : zz.size ≤ s.size := by omega
  refine M_loop (fun m' s' => ∃ (i p b2 : Int) (l2 : Bool), s'.t 0 = .ptr 0 0 0 ∧ s'.t 2 = .ptr 1 1 0 ∧ s'.t 5 = .str zz ∧ s'.t 6 = .int .i64 i ∧ s'.H 0 = some ⟨e, 0, [.str s, .int .i64 p, .bool sc, .bool l2, .int .i64 b2], 0⟩ ∧ s'.H 1 = some ⟨173, 1, [.int .i64 0, .str (bs []), .str (bs []), .int .u64 0, .int .i64 0, .int .i64 0, .bool false, .bool false, .bool false], 0⟩ ∧ (0 ≤ i) ∧ (at0 ≤ p) ∧ (p ≤ s.size) ∧ m' = (zz.size - i).toNat) ?_ (n := _) ⟨_, _, _, _, by (exact c0), by (exact c0), by (exact c0), by (exact c0), by (exact c0), by (exact c0), wM, wM, wM, rfl⟩
  rintro m' ⟨t, H, k⟩ ⟨i, p, b2, l2, h0, h2, h5, h6, e0, e1, hq0, hq1, hq2, hm⟩ next
  simp only at h0 h2 h5 h6 e0 e1
  refine n1 (j h0 (j h2 (j h5 (j h6 (j e0 e1))))) ?_
  open QCg3 in exact As2
  done
 |fail) : p := h
end QCg2
theorem c150 {s : ByteArray} (hs : s.size ≤ 2097152) : Sc Tab X G 150 s [] (fun _ => True) (fun at0 bad0 at1 bad1 r => ∃ (k : Int) (text more : ByteArray) (num from_ to_ : Int) (a b c : Bool) (z : ByteArray) (ok : Bool), r = .tup [.agg [.int .i64 k, .str text, .str more, .int .u64 num, .int .i64 from_, .int .i64 to_, .bool a, .bool b, .bool c], .str z, .bool ok] ∧ text.size ≤ 100 ∧ DigOk X G 10 z ∧ z.size ≤ s.size) := by
 intro e sc ln at0 bad0 h0 h1 _
 have hs' : s.size ≤ 4398046511104 := by omega
 refine Fn_of T150 (by simp) ?_
 refine n0 ?_
 open QCg2 in exact As1
namespace QCg4
theorem fB1 (x : a) (g : q) (h : a → q → p := by (intro x g; exact n1 (j x hTT) g)) : p := h x g
theorem kA1 (h : p := by
 first
 |((refine ⟨_, _, _, rfl, by omega, by omega, _, _, _, _, _, _, _, _, _, rfl, by first | omega | (rw [bs_size]; simp; done) | (rw [bs_size]; simp; omega)⟩)) <;> exact As1
 |fail) : p := h
theorem kB1 (h : p := by
 first
 |(refine MC_scR (c121a hs' _) dC1 (by omega) (by omega) dD1 (fun r hr => ?_); obtain ⟨b, rfl, hb, hbv⟩ := hr; cases b; all_goals (first | (have hb := hb rfl) | clear hb); all_goals (refine fB1 hTT ?_; exact As1))
 |(refine MC_scR (c121b hs' _ _) dC1 (by omega) (by omega) dD1 (fun r hr => ?_); obtain ⟨b, rfl, hb, hbv⟩ := hr; cases b; all_goals (first | (have hb := hb rfl) | clear hb); all_goals (refine fB1 hTT ?_; exact As1))
 |(refine MC_sc (c149 hs _ (by omega) (by omega)) dC1 (by omega) (by omega) (by first | trivial | omega | (dsimp only; omega)) dD1 (fun r at1 ln1 bad1 hat hatb hr => ?_); obtain ⟨k, tx, mo, nu, fr, to_, ba, bb, bc, rfl, htx⟩ := hr; (refine fB1 hTT ?_; exact As1))
 |(refine MC_sc (c150 hs) dC1 (by omega) (by omega) (by first | trivial | omega | (dsimp only; omega)) dD1 (fun r at1 ln1 bad1 hat hatb hr => ?_); obtain ⟨k, tx, mo, nu, fr, to_, ba, bb, bc, z, ok, rfl, htx, hdz, hzs⟩ := hr; (refine fB1 hTT ?_; exact As1))
 |(refine MC_sc (c151 hs' _ _) dC1 (by omega) (by omega) (by first | trivial | omega | (dsimp only; omega)) dD1 (fun r at1 ln1 bad1 hat hatb hr => ?_); obtain ⟨zz, rfl, hzz, hdg⟩ := hr; (refine fB1 hTT ?_; exact As1))
 |(refine MC_sc (c154 hs2) dC1 (by omega) (by omega) (by first | trivial | omega | (dsimp only; omega)) dD1 (fun r at1 ln1 bad1 hat hatb hr => ?_); obtain ⟨ne, rfl⟩ := hr; (refine fB1 hTT ?_; exact As1))
 |(refine MC_sc (c124 _) dC1 (by omega) (by omega) (by first | trivial | omega | (dsimp only; omega)) dD1 (fun r at1 ln1 bad1 hat hatb hr => ?_); obtain ⟨rfl, hb1, hb2⟩ := hr; (refine fB1 hTT ?_; exact As1))
 |(refine MC_pure (c128 _) pP dD1 ?_; rintro _ rfl; (refine fB1 hTT ?_; exact As1))
 |(refine MC_pure (n152 _ _ hdg (by omega) (by omega) (by omega)) pQ dQ1 ?_; rintro gq ⟨N, hN⟩; have hgd := hN.deep; refine fB1 hgd ?_; exact As1)
 |(refine MC_pure (n81L hN (by omega)) pQ dQ1 ?_; rintro _ ⟨z9, rfl, hz9⟩; have hgd := hgd; refine fB1 hgd ?_; exact As1)
 |(refine MC_pure (n153 _ _ (DigOk.app (by assumption) (by assumption)) (by rw [ByteArray.size_append]; first | omega | (rw [bs_size]; simp; done) | (rw [bs_size]; simp; omega))) pP dD1 ?_; rintro _ ⟨v, bo, rfl, hv0, hv1⟩; (refine fB1 hTT ?_; exact As1))
 |fail) : p := h
end QCg4
theorem c129 {s : ByteArray} (hs : s.size ≤ 2097152) : Sc Tab X G 129 s [] (fun _ => True) (fun at0 bad0 at1 bad1 r => TokR (16 * s.size + 100) r) := by
 intro e sc ln at0 bad0 h0 h1 _
 have hs' : s.size ≤ 4398046511104 := by omega
 have hs2 : s.size ≤ 268435456 := by omega
 have hdn : DigOk X G 10 (bs []) := DigOk.nil
 refine Fn_of T129 (by simp) ?_
 refine n0 ?_
 open QCg4 in exact As1
end
end Go.Pi
end
