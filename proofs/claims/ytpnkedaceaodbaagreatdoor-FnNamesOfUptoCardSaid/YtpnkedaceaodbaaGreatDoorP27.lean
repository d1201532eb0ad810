import Derived.Test.YtpnkedaceaodbaaGreatDoorP09
import Derived.Test.YtpnkedaceaodbaaGreatDoorP13
import Derived.Test.YtpnkedaceaodbaaGreatDoorP22
import Derived.Test.YtpnkedaceaodbaaGreatDoorP25
/- Part of the proof. -/
set_option linter.all false
set_option maxHeartbeats 0
set_option maxRecDepth 100000
section
open Go Go.Pi
namespace Go.Pi
variable {p q a : Prop}
open Go.RowKit Go.Proofs
section
variable {P : Program} {w₀ : World} {N : Nat} {E0 : Env} {wi : World}
theorem W.freeze {c : Code} {slot : Nat} {y : PV} {ids : List Nat} {s : St} {Q : Ex → St → Prop} (hset : Go.Pi.settle depth s.H (s.t slot) = some (y, ids)) (h : W P w₀ N E0 wi c ⟨put s.t (some slot) y, s.H.drop ids, s.n⟩ Q) : W P w₀ N E0 wi c s Q := by
 intro a w K hr hK
 refine h a w K ?_ hK
 obtain ⟨E, hr⟩ := hr
 have hI1 := inv_freeze hr.inv ids
 have hX1 := Ext.freeze hr.inv ids
 refine ⟨E.freeze w ids, hI1, by rw [freeze_H, hr.heap], fun x => ?_, hr.size, hr.defers, hr.used, hr.ext.trans hX1⟩
 by_cases e : x = slot
 ·subst e
  have h1 := (settle_ok (T := ids) hr.inv depth _ y _ ids (by rw [hr.heap]; exact hset) (fun _ h => h) (hr.slots x)).1
  show Rep _ (put s.t (some x) y x) _
  rw [put_same]; exact h1
 ·show Rep _ (put s.t (some slot) y x) _
  rw [put_other e]; exact (hr.slots x).mono hX1.le
end
section
variable {w₀ : World} {G : Nat → PV}
theorem w32_id {l : List Int} (h : ∀ n, n ∈ l → 0 ≤ n ∧ n < 1000) : w32 l = l := by
 induction l with
 |nil => rfl
 |cons a l ih =>
  have ha := h a (by simp)
  have e : IntKind.u32.wrap a = a := by
   have : IntKind.u32.wrap a = a % 4294967296 := by simp [IntKind.wrap, IntKind.signed, IntKind.bits]
   omega
  show IntKind.u32.wrap a :: w32 l = a :: l
  rw [e, ih fun n hn => h n (by simp [hn])]
theorem x4p {v : PV} {l : List Int} (h : Good v l) : Pure Tab X4 G 4 [v] (fun r => r = nmV l) :=
 ⟨nmV l, [], ⟨1, by simp only [callX]; rw [show Tab 4 = none from rfl]; exact X4_good h⟩, rfl⟩
def oneD : List PV := [.int .i64 1, .int .i64 3, .nils, .bool false, .nils]
theorem good1 : Good (.sl [oneD]) [3] := by
 refine ⟨⟨SizeOf.sizeOf oneD + 1, .inr ⟨_, rfl, by simp⟩, rfl, ?_⟩, ?_, ?_, by decide⟩
 ·intro y hy
  simp only [els, List.mem_singleton] at hy
  subst hy
  refine ⟨?_, Nat.lt_succ_self _⟩
  exact .mk _ _ _ _ _ (.mk _ _ _ _ (.inl rfl) (by simp [els]) rfl) (.inl rfl) (by simp [els]) rfl
 ·intro y hy
  simp only [els, List.mem_singleton] at hy
  subst hy
  exact .mk _ _ _ _ _ (.mk _ _ _ _ (by decide) (by decide) (by decide) (by intro h; rcases h with h | h <;> cases h)) (by decide) (by simp [els])
 ·exact .cons _ _ _ _ _ [] [3] [] (.name _ _ _) .nil
theorem letSC {v : PV} {m : Nat} (lv : SlP (DZ m) v) : StmtC (letS v) := by
 refine .mk _ _ _ _ _ _ _ _ _ _ _ ?_ (.inl rfl) (by simp [els]) (.inl rfl) (by simp [els]) lv.1 (fun x hx => (lv.2.2 x hx).1) (.inl rfl) (by simp [els]) (.inl rfl) (by simp [els]) (.inl rfl) (by simp [els]) (by simp [deepL, deepB, lv.2.1])
 exact ⟨.inl rfl, by simp [els]⟩
theorem w3 (hm : Tryz.prog.follows .mixedOrders = true) (hG : Gok w₀ G) {ga gb' : Int} (hG1 : G 1 = .fp [.int .u32 ga, .int .u32 gb']) {v : PV} {m : Nat} (lv : SlP (DZ m) v) (hlen : ∀ l, Dns (els v) l → l.length ≤ 1048576) (E : Env) (w : World) (n : Nat) :
  W Tryz.prog w₀ Tryz.f3.ntmps E w (Tryz.f3.body.getD .skip) ⟨fun i => [v].getD i .undef, H0 none, n⟩ (fun e s' => e = .ret ∧ s'.t 2 = .bool true) := by
 have hS : ∀ n, SimCall Tryz.prog w₀ (callX Tab X4 G n) := callX_sim hm hG (sim4 hm hG hG1) Tab_ok
 have hv := lv.1
 have hvd := lv.2.1
 have hB := lv.1.len
 show W Tryz.prog w₀ 85 E w _ _ _
 refine W.seq ?_
 refine W.run hm hS hG (xs := fx3.body.take 1) (by kernel_rfl) ?_
 simp only [fx3, go_sem, Nat.reduceEqDiff, Nat.reduceAdd, Nat.reduceLeDiff, Nat.reduceLT, Nat.reduceMul, Nat.reduceSub, reduceIte, reduceCtorEq, Int.reduceEq, Int.reduceLT, Int.reduceLE, Nat.reduceBEq, Int.reduceToNat, M_block, M_reg, M_dreg_nil, M_dreg]
 first | rw [M_nilw, thenQ_n] | rw [thenQ_n]
 refine W.seq ?_
 refine W.run hm hS hG (xs := (fx3.body.drop 1).take 2) (by kernel_rfl) ?_
 simp only [fx3, hv, go_sem, Nat.reduceEqDiff, Nat.reduceAdd, Nat.reduceLeDiff, Nat.reduceLT, Nat.reduceMul, Nat.reduceSub, reduceIte, reduceCtorEq, Int.reduceEq, Int.reduceLT, Int.reduceLE, Nat.reduceBEq, Int.reduceToNat, M_block, M_reg, M_dreg_nil, M_dreg]
 refine MB_dec (fun hp hb => absurd hp (by omega)) (fun hp hb => ?_)
 refine s0 ?_
 first | rw [M_nilw, thenQ_n] | rw [thenQ_n]
 refine W.seq ?_
 refine W.run hm hS hG (xs := (fx3.body.drop 3).take 1) (by kernel_rfl) ?_
 simp only [fx3, hv, go_sem, Nat.reduceEqDiff, Nat.reduceAdd, Nat.reduceLeDiff, Nat.reduceLT, Nat.reduceMul, Nat.reduceSub, reduceIte, reduceCtorEq, Int.reduceEq, Int.reduceLT, Int.reduceLE, Nat.reduceBEq, Int.reduceToNat, M_block, M_reg, M_dreg_nil, M_dreg]
 refine MC_none rfl (by intro b g r h; cases h) (ys := [.sl [oneD]]) (ids := [3003]) (z0) ⟨nmV [3], [], ⟨1, by simp only [callX]; rw [show Tab 4 = none from rfl]; exact X4_good good1⟩, ?_⟩
 refine s0 ?_
 first | rw [M_nilw, thenQ_n] | rw [thenQ_n]
 refine W.seq ?_
 refine W.run hm hS hG (xs := (fx3.body.drop 4).take 1) (by kernel_rfl) ?_
 have hn3 : nmV [3] = .sl [[.int .i64 3]] := rfl
 have h11 : ((1 : Nat) : Int) = 1 := rfl
 have hix0 : ixRun 1 (.sl [[.int .i64 3]]) (.int .i64 0) = some (.fp [.int .i64 3], none) := rfl
 simp only [fx3, hv, hn3, h11, MIX, hix0, go_sem, Nat.reduceEqDiff, Nat.reduceAdd, Nat.reduceLeDiff, Nat.reduceLT, Nat.reduceMul, Nat.reduceSub, reduceIte, reduceCtorEq, Int.reduceEq, Int.reduceLT, Int.reduceLE, Nat.reduceBEq, Int.reduceToNat, M_block, M_reg, M_dreg_nil, M_dreg]
 first | rw [M_nilw, thenQ_n] | rw [thenQ_n]
 refine W.seq ?_
 refine W.run hm hS hG (xs := (fx3.body.drop 5).take 1) (by kernel_rfl) ?_
 have hcv := cellsOf_sls (hv.imp id fun ⟨xs, h, _⟩ => ⟨xs, h⟩)
 simp only [fx3, hv, hcv, go_sem, Nat.reduceEqDiff, Nat.reduceAdd, Nat.reduceLeDiff, Nat.reduceLT, Nat.reduceMul, Nat.reduceSub, reduceIte, reduceCtorEq, Int.reduceEq, Int.reduceLT, Int.reduceLE, Nat.reduceBEq, Int.reduceToNat, M_block, M_reg, M_dreg_nil, M_dreg]
 first | rw [M_nilw, thenQ_n] | rw [thenQ_n]
 have hsv := fun (n : Nat) (H : Heap) => settle_deep (n := n) (H := H) hvd
 refine W.freeze (slot := 5) (y := .sl [letS v]) (ids := [5003]) (z1 hsv) ?_
 refine W.run hm hS hG (xs := fx3.body.drop 6) (by kernel_rfl) ?_
 have hdl : deepB (.sl [letS v]) = true := by simp [deepB, deepLL, deepL, hvd]
 have lvS : SlP (SZ (SizeOf.sizeOf (letS v) + 1)) (.sl [letS v]) := ⟨.inr ⟨_, rfl, by simp⟩, hdl, by
  intro y hy
  simp only [els, List.mem_singleton] at hy
  subst hy
  exact ⟨letSC lv, Nat.lt_succ_self _⟩⟩
 simp only [fx3, hv, hcv, go_sem, Nat.reduceEqDiff, Nat.reduceAdd, Nat.reduceLeDiff, Nat.reduceLT, Nat.reduceMul, Nat.reduceSub, reduceIte, reduceCtorEq, Int.reduceEq, Int.reduceLT, Int.reduceLE, Nat.reduceBEq, Int.reduceToNat, M_block, M_reg, M_dreg_nil, M_dreg]
 refine MC_pure (s5 lvS) (by intro b g r h; cases h) (c1 hvd) ?_
 rintro _ ⟨b, rfl, hok⟩
 cases b with
 |false =>
  exact z0
 |true =>
 have hokS := hok rfl (letS v) (by simp [els])
 have hokD : ∀ y, y ∈ els v → OkD y := (OkS.dc hokS rfl).1
 refine s0 ?_
 have h45 := (ihgOk (X := X4) (G := G) (SizeOf.sizeOf (letS v))).h45n 4 1 (-1) 0 .nils .nils .nils v .nils .nils .nils (letSC lv) (Nat.le_refl _)
 refine MC_pure (g6 hvd (g14 hvd (g21 hvd h45))) (by intro b g r h; cases h) (c1 hvd) ?_
 rintro _ ⟨c, b, rfl, hcd, hnm⟩
 refine s0 ?_
 cases b with
 |false =>
  exact z0
 |true =>
 obtain ⟨l, hdn, hrange, hnb⟩ := hnm rfl
 have hgood : Good v l := ⟨⟨m, lv⟩, hokD, hdn, hlen l hdn⟩
 obtain ⟨nk, nt, nm, nn, nkids, na, hce, hN⟩ := hcd.open
 subst hce
 have hSk := hN.1
 have hDk := hN.2.1
 have hixc : ixRun 6 (.sl [[.int .i64 nk, .str nt, .str nm, .int .u64 nn, nkids, .int .i64 na]]) (.int .i64 0) = some (.fp [.int .i64 nk, .str nt, .str nm, .int .u64 nn, nkids, .int .i64 na], none) := rfl
 have hckk := cellsOf_sls hSk
 simp only [MIX, hixc, hckk, go_sem, Nat.reduceEqDiff, Nat.reduceAdd, Nat.reduceLeDiff, Nat.reduceLT, Nat.reduceMul, Nat.reduceSub, reduceIte, reduceCtorEq, Int.reduceEq, Int.reduceLT, Int.reduceLE, Nat.reduceBEq, Int.reduceToNat, M_block, M_reg, M_dreg_nil, M_dreg]
 refine MC_pure (g7 _ hcd (Nat.lt_succ_self _) 2000) (by intro b g r h; cases h) (c1 hDk) ?_
 rintro _ ⟨z, rfl⟩
 refine s0 ?_
 refine MB_dec (fun hz hzb => ?_) (fun hz hzb => ?_)
 ·exact z0
 simp only [MIX, hixc, hckk, go_sem, Nat.reduceEqDiff, Nat.reduceAdd, Nat.reduceLeDiff, Nat.reduceLT, Nat.reduceMul, Nat.reduceSub, reduceIte, reduceCtorEq, Int.reduceEq, Int.reduceLT, Int.reduceLE, Nat.reduceBEq, Int.reduceToNat, M_block, M_reg, M_dreg_nil, M_dreg]
 refine MC_pure (g8 _ hcd hnb (by rw [List.length_map]; exact hgood.2.2.2) (Nat.lt_succ_self _)) (by intro b g r h; cases h) (c1 hDk) ?_
 rintro wv ⟨hw1, hw2, hw3⟩
 have hcw := cellsOf_sls hw1
 refine s0 ?_
 refine MC_pure (x4p hgood) (by intro b g r h; cases h; exact lv.not_ptr) (c1 hvd) ?_
 rintro _ rfl
 have hll := hgood.2.2.2
 have hnv : nmV l = .sl ((w32 l).map fun n => [.int .i64 n]) := rfl
 have hnvl : (els (nmV l)).length = l.length := by simp [nmV, els, w32]
 have hnvI : IsSl (nmV l) := .inr ⟨_, rfl, by rw [List.length_map, w32_len]; exact hgood.2.2.2⟩
 have hwl : (els wv).length = l.length := by rw [hw3]; simp
 have hwI : IsSl wv := hw1.imp id fun ⟨xs, h⟩ => ⟨xs, h, by subst h; simp only [els] at hwl; have := hgood.2.2.2; omega⟩
 have hw32 : w32 l = l := by
  exact w32_id hrange
 have hnve : els (nmV l) = l.map fun n => [.int .i64 n] := by rw [hnv, hw32]; rfl
 generalize hnq : nmV l = nv at hnvl hnvI hnve
 refine s1 (j hnvI (j hwI (j hnvl hwl))) ?_
 refine M_loop (fun n' s' => ∃ i : Nat, i + n' = l.length ∧ s'.t 4 = .bool true ∧ s'.t 8 = wv ∧ s'.t 9 = nv ∧ s'.t 63 = .int .i64 l.length ∧ s'.t 64 = .int .i64 i) ?_ (n := l.length) ⟨0, by simp, z0, z0, z0, z0, z0⟩
 rintro n' ⟨t, H, k⟩ ⟨i, hi, h4, h8, h9, h63, h64⟩ next
 simp only at h4 h8 h9 h63 h64
 refine s1 (j h4 (j h8 (j h9 (j h63 h64)))) ?_
 refine MB_dec (fun hlt hltb => ?_) (fun hlt hltb => ?_)
 ·have hi2 : i < l.length := by omega
  obtain ⟨hr0, hr1⟩ := hrange _ (List.getElem_mem hi2)
  generalize hq : l[i] = q at hr0 hr1
  have hixn : ixRun 1 nv (.int .i64 (i : Int)) = some (.fp [.int .i64 q], none) := by
   have h := ix_els (s := 1) hnvI (by rw [hnvl]; exact hi2) (by simp only [hnve, List.getElem_map]; rfl)
   rw [h]
   simp only [hnve, List.getElem_map, hq]
  have hixw : ixRun 1 wv (.int .i64 (i : Int)) = some (.fp [.str (bs [118] ++ intF X4 G q)], none) := by
   have h := ix_els (s := 1) hwI (by rw [hwl]; exact hi2) (by simp only [hw3, List.getElem_map]; rfl)
   rw [h]
   simp only [hw3, List.getElem_map, hq]
  simp only [h4, h8, h9, h63, h64, MIX, hixn, go_sem, Nat.reduceEqDiff, Nat.reduceAdd, Nat.reduceLeDiff, Nat.reduceLT, Nat.reduceMul, Nat.reduceSub, reduceIte, reduceCtorEq, Int.reduceEq, Int.reduceLT, Int.reduceLE, Nat.reduceBEq, Int.reduceToNat, M_block, M_reg, M_dreg_nil, M_dreg]
  refine MC_pure (g9 baseOk q hr0 hr1) (by intro b g r h; cases h) (c0) ?_
  rintro _ ⟨_, rfl, k1, more, num, at_, kk, rfl, hkd⟩
  have hbe : ((bs [118] ++ intF X4 G q).toList == (bs [118] ++ intF X4 G q).toList) = true := beq_self_eq_true _
  simp only [h4, h8, h9, h63, h64, MIX, hixw, hbe, go_sem, Nat.reduceEqDiff, Nat.reduceAdd, Nat.reduceLeDiff, Nat.reduceLT, Nat.reduceMul, Nat.reduceSub, reduceIte, reduceCtorEq, Int.reduceEq, Int.reduceLT, Int.reduceLE, Nat.reduceBEq, Int.reduceToNat, M_block, M_reg, M_dreg_nil, M_dreg]
  refine next (n' - 1) (by omega) _ ⟨i + 1, by omega, z1 h4, z1 h8, z1 h9, z1 h63, by refine s1 h64 ?_; rw [wrap_i64 (by omega) (by omega)]; rfl⟩
 ·exact z1 (j h4 (j h8 (j h9 (j h63 h64))))
end
end Go.Pi
end
