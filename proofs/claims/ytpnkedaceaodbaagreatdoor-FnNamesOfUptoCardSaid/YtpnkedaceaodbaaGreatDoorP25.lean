import Derived.Test.YtpnkedaceaodbaaGreatDoorP06
import Derived.Test.YtpnkedaceaodbaaGreatDoorP09
import Derived.Test.YtpnkedaceaodbaaGreatDoorP14
import Derived.Test.YtpnkedaceaodbaaGreatDoorP24
/- Part of the proof. -/
set_option linter.all false
set_option maxHeartbeats 0
set_option maxRecDepth 100000
section
open Go Go.Pi
namespace Go.Pi
variable {p q a : Prop}
open Go.RowKit Go.Proofs
theorem M_nilw {T : Nat → Option FX} {X : CallF} {G : Nat → PV} {s : St} {Q : Ex → St → Prop} : M T X G [] s Q = Q .normal s := rfl
theorem thenQ_n {f : St → Prop} {Q : Ex → St → Prop} {s : St} : thenQ f Q .normal s = f s := rfl
theorem inQ_n {id : Nat} {Q : Ex → St → Prop} {s : St} : inQ id Q .normal s = Q .normal s := rfl
def Cl (gb : Nat) : PV := .clo (.func 12) [] [.ptr 900000 gb 0]
def w32 : List Int → List Int := List.map IntKind.u32.wrap
theorem w32_append {a b : List Int} : w32 (a ++ b) = w32 a ++ w32 b := List.map_append
theorem w32_len {a : List Int} : (w32 a).length = a.length := List.length_map ..
theorem wrap_u32_range (n : Int) : 0 ≤ IntKind.u32.wrap n ∧ IntKind.u32.wrap n < 4294967296 := by
 have : IntKind.u32.wrap n = n % 4294967296 := by
  simp [IntKind.wrap, IntKind.signed, IntKind.bits]
 omega
inductive Sa (w₀ : World) (gb : Nat) : List (List PV) → List Int → Prop
 |nil : Sa w₀ gb [] []
 |cons (c0 c1 d0 d1 : PV) (cs : List (List PV)) (l ls : List Int) (h : Shc Tryz.prog w₀ 19 [.agg [c0, c1], Cl gb] gb (w32 l)) (hs : Sa w₀ gb cs ls) : Sa w₀ gb ([c0, c1, d0, d1, .int .i32 0] :: cs) (l ++ ls)
inductive So (w₀ : World) (gb : Nat) : List (List PV) → List Int → Prop
 |nil : So w₀ gb [] []
 |cons (k0 k1 c0 c1 d0 d1 : PV) (b1 b2 b3 : Bool) (cs : List (List PV)) (l ls : List Int) (h : Shc Tryz.prog w₀ 19 [.agg [c0, c1], Cl gb] gb (w32 l)) (hs : So w₀ gb cs ls) : So w₀ gb ([k0, k1, c0, c1, d0, d1, .int .i32 0, .int .i32 0, .bool b1, .bool b2, .bool b3] :: cs) (l ++ ls)
inductive Sd (w₀ : World) (gb : Nat) : List (List PV) → List Int → Prop
 |nil : Sd w₀ gb [] []
 |cons (c0 c1 d0 d1 : PV) (cs : List (List PV)) (l ls : List Int) (h : Shc Tryz.prog w₀ 19 [.agg [c0, c1], Cl gb] gb (w32 l)) (hs : Sd w₀ gb cs ls) : Sd w₀ gb ([c0, c1, d0, d1] :: cs) (l ++ ls)
section
variable {w₀ : World} {X : CallF} {G : Nat → PV}
theorem sh12 (hm : Tryz.prog.follows .mixedOrders = true) (hS : ∀ n, SimCall Tryz.prog w₀ (callX Tab X G n)) (hG : Gok w₀ G) (z a k : Int) (gb : Nat) (h0 : 0 ≤ k) (h1 : k < 4294967296) :
  Shc Tryz.prog w₀ 12 [.agg [.int .i32 z], .fp [.int .u32 a, .int .u32 k], .ptr 900000 gb 0] gb [k] := by
 refine Shc.of_W (fn := Tryz.f12) (by kernel_rfl) rfl rfl (by exact (by decide : 3 ≤ 14)) ?_
 rintro E w H n l0 ⟨hz, v, s, h9, hg⟩ hlen
 have hlen : l0.length + 1 ≤ 1048576 := by simpa using hlen
 refine W.run hm hS hG (xs := fx12.body) (by kernel_rfl) ?_
 have hcv := cellsOf_grow hg
 have hk : IntKind.i64.wrap k = k := wrap_i64 (by omega) (by omega)
 simp only [fx12, h9, hcv, go_sem, Nat.reduceEqDiff, Nat.reduceAdd, Nat.reduceLeDiff, Nat.reduceLT, Nat.reduceMul, Nat.reduceSub, reduceIte, reduceCtorEq, Int.reduceEq, Int.reduceLT, Int.reduceLE, Nat.reduceBEq, Int.reduceToNat, M_block]
 refine s1 (j h9 (j hcv hk)) ?_
 refine M_app_slT (A := [1009]) (ys := l0.map fun n => [.int .i64 n]) (zs := [[.int .i64 k]]) (ids := [1008]) (cA) (by refine nA ?_; exact hg.frame (by intro b hb; simp only [List.mem_singleton] at hb; subst hb; exact c0)) (by simp) (by simp) (by intro y hy; simp only [List.mem_singleton] at hy; subst hy; exact ⟨rfl, rfl⟩) (by simp) (by simp only [List.length_cons, List.length_nil, List.length_map]; omega) (fun v' H' z' hgr hf => ?_)
 have f9 := hf 900000 (by simp) (by simp)
 simp only [h9, go_sem, Nat.reduceEqDiff, Nat.reduceAdd, Nat.reduceLeDiff, Nat.reduceLT, Nat.reduceMul, Nat.reduceSub, reduceIte, reduceCtorEq, Int.reduceEq, Int.reduceLT, Int.reduceLE, Nat.reduceBEq, Int.reduceToNat, M_block] at f9
 have hcv2 := cellsOf_grow hgr
 simp only [push]
 refine n1 (j f9 hcv2) ?_
 rw [M_nilw]
 refine ⟨fun id h => (by cases h), by dsimp only; omega, v', s, c0, ?_⟩
 rw [List.map_append]
 exact hgr.frame (by intro b hb; simp only [List.mem_singleton] at hb; subst hb; exact c0)
theorem sh19m (hm : Tryz.prog.follows .mixedOrders = true) (hS : ∀ n, SimCall Tryz.prog w₀ (callX Tab X G n)) (hG : Gok w₀ G) (z : Int) (gb : Nat) :
  Shc Tryz.prog w₀ 19 [.agg [.ifc 96 (.fp [.int .u8 0]), .int .i32 z], Cl gb] gb (w32 []) := by
 refine Shc.of_W (fn := Tryz.f19) (by kernel_rfl) rfl rfl (by exact (by decide : 2 ≤ 61)) ?_
 rintro E w H n l0 ⟨hz, hN⟩ hlen
 refine W.seq ?_
 refine W.run hm hS hG (xs := [.reg [⟨some 2, none, 1, .box 79 2 (.t 0)⟩]]) (by kernel_rfl) ?_
 simp only [Cl, go_sem, Nat.reduceEqDiff, Nat.reduceAdd, Nat.reduceLeDiff, Nat.reduceLT, Nat.reduceMul, Nat.reduceSub, reduceIte, reduceCtorEq, Int.reduceEq, Int.reduceLT, Int.reduceLE, Nat.reduceBEq, Int.reduceToNat, M_block, M_reg, M_dreg_nil, M_dreg]
 rw [M_nilw, thenQ_n]
 refine W.seq ?_
 refine W.run hm hS hG (xs := [.reg [⟨some 13, none, 1001, .fa 0 (.t 2)⟩, ⟨some 14, none, 1002, .ld false 1 (.t 13)⟩]]) (by kernel_rfl) ?_
 simp only [Cl, go_sem, Nat.reduceEqDiff, Nat.reduceAdd, Nat.reduceLeDiff, Nat.reduceLT, Nat.reduceMul, Nat.reduceSub, reduceIte, reduceCtorEq, Int.reduceEq, Int.reduceLT, Int.reduceLE, Nat.reduceBEq, Int.reduceToNat, M_block, M_reg, M_dreg_nil, M_dreg]
 rw [M_nilw, thenQ_n]
 refine W.block ?_
 refine W.seq ?_
 refine W.run hm hS hG (xs := [.reg [⟨some 16, none, 4001, .ta 96 .nilp (.t 14)⟩, ⟨some 17, none, 4002, .ext (.t 16) 1⟩, ⟨some 18, none, 4003, .ext (.t 16) 0⟩]]) (by kernel_rfl) ?_
 simp only [Cl, go_sem, Nat.reduceEqDiff, Nat.reduceAdd, Nat.reduceLeDiff, Nat.reduceLT, Nat.reduceMul, Nat.reduceSub, reduceIte, reduceCtorEq, Int.reduceEq, Int.reduceLT, Int.reduceLE, Nat.reduceBEq, Int.reduceToNat, M_block, M_reg, M_dreg_nil, M_dreg]
 rw [M_nilw, thenQ_n]
 refine W.cond hG (oc := .t 17) rfl (t := true) (z0) ?_
 rw [if_pos rfl]
 refine W.run hm hS hG (xs := [.reg [⟨some 4, none, 5001, .mv (.t 18)⟩]]) (by kernel_rfl) ?_
 simp only [Cl, go_sem, Nat.reduceEqDiff, Nat.reduceAdd, Nat.reduceLeDiff, Nat.reduceLT, Nat.reduceMul, Nat.reduceSub, reduceIte, reduceCtorEq, Int.reduceEq, Int.reduceLT, Int.reduceLE, Nat.reduceBEq, Int.reduceToNat, M_block, M_reg, M_dreg_nil, M_dreg]
 rw [M_nilw]
 rw [inQ_n]
 refine ⟨fun id h => (by cases h), by dsimp only; omega, ?_⟩
 rw [show l0 ++ w32 [] = l0 by simp [w32]]
 exact hN.frame (c0) (c0)
theorem fnOk12 : FnOk Tryz.prog 12 := ⟨Tryz.f12, by kernel_rfl, rfl, by kernel_rfl⟩
theorem fnOk19 : FnOk Tryz.prog 19 := ⟨Tryz.f19, by kernel_rfl, rfl, by kernel_rfl⟩
theorem fnOk11 : FnOk Tryz.prog 11 := ⟨Tryz.f11, by kernel_rfl, rfl, by kernel_rfl⟩
theorem sh19n (hm : Tryz.prog.follows .mixedOrders = true) (hS : ∀ n, SimCall Tryz.prog w₀ (callX Tab X G n)) (hG : Gok w₀ G) (m : Int) (gb : Nat) :
  Shc Tryz.prog w₀ 19 [.agg [.ifc 62 (.fp [.int .u32 0, .int .u32 (IntKind.u32.wrap m)]), .int .i32 0], Cl gb] gb (w32 [m]) := by
 refine Shc.of_W (fn := Tryz.f19) (by kernel_rfl) rfl rfl (by exact (by decide : 2 ≤ 61)) ?_
 rintro E w H n l0 ⟨hz, hN⟩ hlen
 refine W.seq ?_
 refine W.run hm hS hG (xs := [.reg [⟨some 2, none, 1, .box 79 2 (.t 0)⟩]]) (by kernel_rfl) ?_
 simp only [Cl, go_sem, Nat.reduceEqDiff, Nat.reduceAdd, Nat.reduceLeDiff, Nat.reduceLT, Nat.reduceMul, Nat.reduceSub, reduceIte, reduceCtorEq, Int.reduceEq, Int.reduceLT, Int.reduceLE, Nat.reduceBEq, Int.reduceToNat, M_block, M_reg, M_dreg_nil, M_dreg]
 rw [M_nilw, thenQ_n]
 refine W.seq ?_
 refine W.run hm hS hG (xs := [.reg [⟨some 13, none, 1001, .fa 0 (.t 2)⟩, ⟨some 14, none, 1002, .ld false 1 (.t 13)⟩]]) (by kernel_rfl) ?_
 simp only [Cl, go_sem, Nat.reduceEqDiff, Nat.reduceAdd, Nat.reduceLeDiff, Nat.reduceLT, Nat.reduceMul, Nat.reduceSub, reduceIte, reduceCtorEq, Int.reduceEq, Int.reduceLT, Int.reduceLE, Nat.reduceBEq, Int.reduceToNat, M_block, M_reg, M_dreg_nil, M_dreg]
 rw [M_nilw, thenQ_n]
 refine W.block ?_
 refine W.seq ?_
 refine W.run hm hS hG (xs := [.reg [⟨some 16, none, 4001, .ta 96 .nilp (.t 14)⟩, ⟨some 17, none, 4002, .ext (.t 16) 1⟩, ⟨some 18, none, 4003, .ext (.t 16) 0⟩]]) (by kernel_rfl) ?_
 simp only [Cl, go_sem, Nat.reduceEqDiff, Nat.reduceAdd, Nat.reduceLeDiff, Nat.reduceLT, Nat.reduceMul, Nat.reduceSub, reduceIte, reduceCtorEq, Int.reduceEq, Int.reduceLT, Int.reduceLE, Nat.reduceBEq, Int.reduceToNat, M_block, M_reg, M_dreg_nil, M_dreg]
 rw [M_nilw, thenQ_n]
 refine W.cond hG (oc := .t 17) rfl (t := false) (z0) ?_
 rw [if_neg Bool.false_ne_true]
 refine W.seq ?_
 refine W.run hm hS hG (xs := [.reg [⟨some 19, none, 6001, .ta 62 .nilp (.t 14)⟩, ⟨some 20, none, 6002, .ext (.t 19) 1⟩, ⟨some 21, none, 6003, .ext (.t 19) 0⟩]]) (by kernel_rfl) ?_
 simp only [Cl, go_sem, Nat.reduceEqDiff, Nat.reduceAdd, Nat.reduceLeDiff, Nat.reduceLT, Nat.reduceMul, Nat.reduceSub, reduceIte, reduceCtorEq, Int.reduceEq, Int.reduceLT, Int.reduceLE, Nat.reduceBEq, Int.reduceToNat, M_block, M_reg, M_dreg_nil, M_dreg]
 rw [M_nilw, thenQ_n]
 refine W.cond hG (oc := .t 20) rfl (t := true) (z0) ?_
 rw [if_pos rfl]
 refine W.seq ?_
 refine W.run hm hS hG (xs := [.reg [⟨some 5, none, 7001, .mv (.t 21)⟩]]) (by kernel_rfl) ?_
 simp only [Cl, go_sem, Nat.reduceEqDiff, Nat.reduceAdd, Nat.reduceLeDiff, Nat.reduceLT, Nat.reduceMul, Nat.reduceSub, reduceIte, reduceCtorEq, Int.reduceEq, Int.reduceLT, Int.reduceLE, Nat.reduceBEq, Int.reduceToNat, M_block, M_reg, M_dreg_nil, M_dreg]
 rw [M_nilw, thenQ_n]
 refine W.callvM hS hG (m := 4) (fo := 22) (f := 12) (xs := [⟨some 22, none, 8001, .mv (.t 1)⟩, ⟨some 23, none, 8002, .fa 1 (.t 2)⟩, ⟨some 24, none, 8003, .ld true 1 (.t 23)⟩, ⟨some 25, none, 8004, .mv (.t 5)⟩]) (l := [.t 24, .t 25]) rfl (by kernel_rfl) rfl (fun d h => by cases h; decide) fnOk12 rfl ?_
 simp only [Cl, go_sem, Nat.reduceEqDiff, Nat.reduceAdd, Nat.reduceLeDiff, Nat.reduceLT, Nat.reduceMul, Nat.reduceSub, reduceIte, reduceCtorEq, Int.reduceEq, Int.reduceLT, Int.reduceLE, Nat.reduceBEq, Int.reduceToNat, M_block, M_reg, M_dreg_nil, M_dreg]
 rw [M_nilw]
 refine ⟨[.ptr 900000 gb 0], gb, l0, w32 [m], z0, ?_, hN.frame (z0) (z0), hlen, ?_⟩
 ·refine s0 ?_
  exact sh12 hm hS hG 0 0 _ gb (wrap_u32_range m).1 (wrap_u32_range m).2
 ·intro H' n' hN' hn'
  rw [inQ_n]
  exact ⟨fun id h => (by cases h), by dsimp only at hn' ⊢; omega, hN'.2⟩
theorem sh19a (hm : Tryz.prog.follows .mixedOrders = true) (hS : ∀ n, SimCall Tryz.prog w₀ (callX Tab X G n)) (hG : Gok w₀ G) (v : PV) (b : Bool) (l : List Int) (gb : Nat) (hS0 : Sls v) (hB : (els v).length ≤ 1048576) (hs : Sa w₀ gb (els v) l) :
  Shc Tryz.prog w₀ 19 [.agg [.ifc 100 (.fp [v, .int .i32 0, .bool b, .bool false]), .int .i32 0], Cl gb] gb (w32 l) := by
 have hSl : IsSl v := hS0.imp id fun ⟨xs, h⟩ => ⟨xs, h, by subst h; exact hB⟩
 refine Shc.of_W (fn := Tryz.f19) (by kernel_rfl) rfl rfl (by exact (by decide : 2 ≤ 61)) ?_
 rintro E w H n l0 ⟨hz, hN⟩ hlen
 refine W.seq ?_
 refine W.run hm hS hG (xs := [.reg [⟨some 2, none, 1, .box 79 2 (.t 0)⟩]]) (by kernel_rfl) ?_
 simp only [Cl, go_sem, Nat.reduceEqDiff, Nat.reduceAdd, Nat.reduceLeDiff, Nat.reduceLT, Nat.reduceMul, Nat.reduceSub, reduceIte, reduceCtorEq, Int.reduceEq, Int.reduceLT, Int.reduceLE, Nat.reduceBEq, Int.reduceToNat, M_block, M_reg, M_dreg_nil, M_dreg]
 rw [M_nilw, thenQ_n]
 refine W.seq ?_
 refine W.run hm hS hG (xs := [.reg [⟨some 13, none, 1001, .fa 0 (.t 2)⟩, ⟨some 14, none, 1002, .ld false 1 (.t 13)⟩]]) (by kernel_rfl) ?_
 simp only [Cl, go_sem, Nat.reduceEqDiff, Nat.reduceAdd, Nat.reduceLeDiff, Nat.reduceLT, Nat.reduceMul, Nat.reduceSub, reduceIte, reduceCtorEq, Int.reduceEq, Int.reduceLT, Int.reduceLE, Nat.reduceBEq, Int.reduceToNat, M_block, M_reg, M_dreg_nil, M_dreg]
 rw [M_nilw, thenQ_n]
 refine W.block ?_
 refine W.seq ?_
 refine W.run hm hS hG (xs := [.reg [⟨some 16, none, 4001, .ta 96 .nilp (.t 14)⟩, ⟨some 17, none, 4002, .ext (.t 16) 1⟩, ⟨some 18, none, 4003, .ext (.t 16) 0⟩]]) (by kernel_rfl) ?_
 simp only [Cl, go_sem, Nat.reduceEqDiff, Nat.reduceAdd, Nat.reduceLeDiff, Nat.reduceLT, Nat.reduceMul, Nat.reduceSub, reduceIte, reduceCtorEq, Int.reduceEq, Int.reduceLT, Int.reduceLE, Nat.reduceBEq, Int.reduceToNat, M_block, M_reg, M_dreg_nil, M_dreg]
 rw [M_nilw, thenQ_n]
 refine W.cond hG (oc := .t 17) rfl (t := false) (z0) ?_
 rw [if_neg Bool.false_ne_true]
 refine W.seq ?_
 refine W.run hm hS hG (xs := [.reg [⟨some 19, none, 6001, .ta 62 .nilp (.t 14)⟩, ⟨some 20, none, 6002, .ext (.t 19) 1⟩, ⟨some 21, none, 6003, .ext (.t 19) 0⟩]]) (by kernel_rfl) ?_
 simp only [Cl, go_sem, Nat.reduceEqDiff, Nat.reduceAdd, Nat.reduceLeDiff, Nat.reduceLT, Nat.reduceMul, Nat.reduceSub, reduceIte, reduceCtorEq, Int.reduceEq, Int.reduceLT, Int.reduceLE, Nat.reduceBEq, Int.reduceToNat, M_block, M_reg, M_dreg_nil, M_dreg]
 rw [M_nilw, thenQ_n]
 refine W.cond hG (oc := .t 20) rfl (t := false) (z0) ?_
 rw [if_neg Bool.false_ne_true]
 refine W.seq ?_
 refine W.run hm hS hG (xs := [.reg [⟨some 27, none, 9001, .ta 100 .nilp (.t 14)⟩, ⟨some 28, none, 9002, .ext (.t 27) 1⟩, ⟨some 29, none, 9003, .ext (.t 27) 0⟩]]) (by kernel_rfl) ?_
 simp only [Cl, go_sem, Nat.reduceEqDiff, Nat.reduceAdd, Nat.reduceLeDiff, Nat.reduceLT, Nat.reduceMul, Nat.reduceSub, reduceIte, reduceCtorEq, Int.reduceEq, Int.reduceLT, Int.reduceLE, Nat.reduceBEq, Int.reduceToNat, M_block, M_reg, M_dreg_nil, M_dreg]
 rw [M_nilw, thenQ_n]
 refine W.cond hG (oc := .t 28) rfl (t := true) (z0) ?_
 rw [if_pos rfl]
 refine W.seq ?_
 refine W.run hm hS hG (xs := [.reg [⟨some 6, none, 10001, .mv (.t 29)⟩]]) (by kernel_rfl) ?_
 simp only [Cl, go_sem, Nat.reduceEqDiff, Nat.reduceAdd, Nat.reduceLeDiff, Nat.reduceLT, Nat.reduceMul, Nat.reduceSub, reduceIte, reduceCtorEq, Int.reduceEq, Int.reduceLT, Int.reduceLE, Nat.reduceBEq, Int.reduceToNat, M_block, M_reg, M_dreg_nil, M_dreg]
 rw [M_nilw, thenQ_n]
 refine W.seq ?_
 refine W.run hm hS hG (xs := [.reg [⟨some 30, none, 11001, .mv (.t 6)⟩, ⟨some 31, none, 11002, .nilc (.t 30)⟩, ⟨some 32, none, 11003, .fa 0 (.t 31)⟩, ⟨some 33, none, 11004, .ld false 1 (.t 32)⟩, ⟨some 34, none, 11005, .len (.t 33)⟩, ⟨some 35, none, 11006, .mv (.c (.int .i64 0))⟩]]) (by kernel_rfl) ?_
 refine s1 hSl ?_
 rw [M_nilw, thenQ_n]
 refine W.block ?_
 refine W.loop (fun m s => ∃ (i : Nat) (l1 l2 : List Int), i + m = (els v).length ∧ s.t 33 = v ∧ s.t 34 = .int .i64 (els v).length ∧ s.t 35 = .int .i64 i ∧ s.t 1 = Cl gb ∧ NmS s.H gb (l0 ++ w32 l1) ∧ Sa w₀ gb ((els v).drop i) l2 ∧ l = l1 ++ l2 ∧ n ≤ s.n) (n := (els v).length)
  ⟨0, [], l, by simp, z0, z0, z0, by simp only [Cl, go_sem, Nat.reduceEqDiff, Nat.reduceAdd, Nat.reduceLeDiff, Nat.reduceLT, Nat.reduceMul, Nat.reduceSub, reduceIte, reduceCtorEq, Int.reduceEq, Int.reduceLT, Int.reduceLE, Nat.reduceBEq, Int.reduceToNat, M_block, M_reg, M_dreg_nil, M_dreg], by rw [show w32 [] = [] from rfl, List.append_nil]; exact hN.frame (z0) (z0), by simpa using hs, rfl, by dsimp only; omega⟩ ?_
 rintro m ⟨t, H, k⟩ ⟨i, l1, l2, hi, h33, h34, h35, h1, hN, hs, hl, hn⟩
 simp only at h33 h34 h35 h1 hN hn
 refine W.seq ?_
 refine W.run hm hS hG (xs := [.reg [⟨some 36, none, 12001, .bin .lss (.t 35) (.t 34)⟩]]) (by kernel_rfl) ?_
 refine s1 (j h33 (j h34 h35)) ?_
 rw [M_nilw, thenQ_n]
 refine W.seq ?_
 by_cases hlt : (i : Int) < (els v).length
 ·have hb : decide ((i : Int) < (els v).length) = true := decide_eq_true hlt
  refine W.cond hG (oc := .t 36) rfl (t := true) (z1 hb) ?_
  rw [if_pos rfl]
  refine W.skip ?_
  rw [thenQ_n]
  have hi2 : i < (els v).length := by omega
  rw [List.drop_eq_getElem_cons hi2] at hs
  generalize hx : (els v)[i] = x at hs
  generalize hd : (els v).drop (i + 1) = rest at hs
  cases hs with
  |cons c0 c1 d0 d1 cs li ls hsh hs =>
  have hix := ix_sls (s := 5) hS0 hi2 (by rw [hx]; rfl)
  rw [hx] at hix
  refine W.seq (W.block ?_)
  refine W.seq ?_
  refine W.run hm hS hG (xs := [.reg [⟨some 37, none, 13001, .ix 5 (.t 33) (.t 35)⟩, ⟨some 38, none, 13002, .ld true 5 (.t 37)⟩, ⟨some 8, none, 13003, .new 107 [.nili, .int .i32 0, .nili, .int .i32 0, .int .i32 0]⟩, ⟨none, none, 13004, .st 5 (.t 8) (.t 38)⟩]]) (by kernel_rfl) ?_
  simp only [h33, h35, MIX, hix, go_sem, Nat.reduceEqDiff, Nat.reduceAdd, Nat.reduceLeDiff, Nat.reduceLT, Nat.reduceMul, Nat.reduceSub, reduceIte, reduceCtorEq, Int.reduceEq, Int.reduceLT, Int.reduceLE, Nat.reduceBEq, Int.reduceToNat, M_block, M_reg, M_dreg_nil, M_dreg]
  rw [M_nilw, thenQ_n]
  refine W.callM hS hG (m := 3) (f := 19) (xs := [⟨some 39, none, 14001, .fa 0 (.t 8)⟩, ⟨some 40, none, 14002, .ld true 2 (.t 39)⟩, ⟨some 41, none, 14003, .mv (.t 1)⟩]) (l := [.t 40, .t 41]) rfl (by kernel_rfl) rfl (fun d h => by cases h; decide) fnOk19 rfl ?_
  refine s1 h1 ?_
  rw [M_nilw]
  have hlen2 : ((l0 ++ w32 l1) ++ w32 li).length ≤ 1048576 := by
   rw [hl] at hlen
   simp only [List.length_append, w32_len] at hlen ⊢
   omega
  refine ⟨gb, l0 ++ w32 l1, w32 li, ?_, hN.frame (z0) (z0), hlen2, ?_⟩
  ·refine s1 h1 ?_
   exact hsh
  ·intro H' n' hN' hn'
   rw [inQ_n, thenQ_n]
   refine W.run hm hS hG (xs := [.reg [⟨some 43, none, 15001, .bin .add (.t 35) (.c (.int .i64 1))⟩, ⟨some 35, none, 15002, .mv (.t 43)⟩]]) (by kernel_rfl) ?_
   refine s1 h35 ?_
   rw [M_nilw, thenQ_n]
   refine ⟨m - 1, by omega, i + 1, l1 ++ li, ls, by omega, z1 h33, z1 h34, by refine s0 ?_; rw [wrap_i64 (by omega) (by omega)]; rfl, z1 h1, by rw [w32_append, ← List.append_assoc]; exact hN'.2, by rw [hd]; exact hs, by rw [hl, List.append_assoc], by dsimp only at hn' hn ⊢; omega⟩
 ·have hb : decide ((i : Int) < (els v).length) = false := decide_eq_false hlt
  refine W.cond hG (oc := .t 36) rfl (t := false) (z1 hb) ?_
  rw [if_neg Bool.false_ne_true]
  refine W.exit ?_
  have hnil : (els v).drop i = [] := List.drop_eq_nil_of_le (by omega)
  rw [hnil] at hs
  cases hs
  rw [List.append_nil] at hl
  subst hl
  show (∀ id, _) ∧ _
  exact ⟨fun id h => (by cases h), by dsimp only; omega, hN.frame (z0) (z0)⟩
theorem sh19o (hm : Tryz.prog.follows .mixedOrders = true) (hS : ∀ n, SimCall Tryz.prog w₀ (callX Tab X G n)) (hG : Gok w₀ G) (v : PV) (l : List Int) (gb : Nat) (hS0 : Sls v) (hB : (els v).length ≤ 1048576) (hs : So w₀ gb (els v) l) :
  Shc Tryz.prog w₀ 19 [.agg [.ifc 108 (.fp [v, .int .i32 0, .bool false]), .int .i32 0], Cl gb] gb (w32 l) := by
 have hSl : IsSl v := hS0.imp id fun ⟨xs, h⟩ => ⟨xs, h, by subst h; exact hB⟩
 refine Shc.of_W (fn := Tryz.f19) (by kernel_rfl) rfl rfl (by exact (by decide : 2 ≤ 61)) ?_
 rintro E w H n l0 ⟨hz, hN⟩ hlen
 refine W.seq ?_
 refine W.run hm hS hG (xs := [.reg [⟨some 2, none, 1, .box 79 2 (.t 0)⟩]]) (by kernel_rfl) ?_
 simp only [Cl, go_sem, Nat.reduceEqDiff, Nat.reduceAdd, Nat.reduceLeDiff, Nat.reduceLT, Nat.reduceMul, Nat.reduceSub, reduceIte, reduceCtorEq, Int.reduceEq, Int.reduceLT, Int.reduceLE, Nat.reduceBEq, Int.reduceToNat, M_block, M_reg, M_dreg_nil, M_dreg]
 rw [M_nilw, thenQ_n]
 refine W.seq ?_
 refine W.run hm hS hG (xs := [.reg [⟨some 13, none, 1001, .fa 0 (.t 2)⟩, ⟨some 14, none, 1002, .ld false 1 (.t 13)⟩]]) (by kernel_rfl) ?_
 simp only [Cl, go_sem, Nat.reduceEqDiff, Nat.reduceAdd, Nat.reduceLeDiff, Nat.reduceLT, Nat.reduceMul, Nat.reduceSub, reduceIte, reduceCtorEq, Int.reduceEq, Int.reduceLT, Int.reduceLE, Nat.reduceBEq, Int.reduceToNat, M_block, M_reg, M_dreg_nil, M_dreg]
 rw [M_nilw, thenQ_n]
 refine W.block ?_
 refine W.seq ?_
 refine W.run hm hS hG (xs := [.reg [⟨some 16, none, 4001, .ta 96 .nilp (.t 14)⟩, ⟨some 17, none, 4002, .ext (.t 16) 1⟩, ⟨some 18, none, 4003, .ext (.t 16) 0⟩]]) (by kernel_rfl) ?_
 simp only [Cl, go_sem, Nat.reduceEqDiff, Nat.reduceAdd, Nat.reduceLeDiff, Nat.reduceLT, Nat.reduceMul, Nat.reduceSub, reduceIte, reduceCtorEq, Int.reduceEq, Int.reduceLT, Int.reduceLE, Nat.reduceBEq, Int.reduceToNat, M_block, M_reg, M_dreg_nil, M_dreg]
 rw [M_nilw, thenQ_n]
 refine W.cond hG (oc := .t 17) rfl (t := false) (z0) ?_
 rw [if_neg Bool.false_ne_true]
 refine W.seq ?_
 refine W.run hm hS hG (xs := [.reg [⟨some 19, none, 6001, .ta 62 .nilp (.t 14)⟩, ⟨some 20, none, 6002, .ext (.t 19) 1⟩, ⟨some 21, none, 6003, .ext (.t 19) 0⟩]]) (by kernel_rfl) ?_
 simp only [Cl, go_sem, Nat.reduceEqDiff, Nat.reduceAdd, Nat.reduceLeDiff, Nat.reduceLT, Nat.reduceMul, Nat.reduceSub, reduceIte, reduceCtorEq, Int.reduceEq, Int.reduceLT, Int.reduceLE, Nat.reduceBEq, Int.reduceToNat, M_block, M_reg, M_dreg_nil, M_dreg]
 rw [M_nilw, thenQ_n]
 refine W.cond hG (oc := .t 20) rfl (t := false) (z0) ?_
 rw [if_neg Bool.false_ne_true]
 refine W.seq ?_
 refine W.run hm hS hG (xs := [.reg [⟨some 27, none, 9001, .ta 100 .nilp (.t 14)⟩, ⟨some 28, none, 9002, .ext (.t 27) 1⟩, ⟨some 29, none, 9003, .ext (.t 27) 0⟩]]) (by kernel_rfl) ?_
 simp only [Cl, go_sem, Nat.reduceEqDiff, Nat.reduceAdd, Nat.reduceLeDiff, Nat.reduceLT, Nat.reduceMul, Nat.reduceSub, reduceIte, reduceCtorEq, Int.reduceEq, Int.reduceLT, Int.reduceLE, Nat.reduceBEq, Int.reduceToNat, M_block, M_reg, M_dreg_nil, M_dreg]
 rw [M_nilw, thenQ_n]
 refine W.cond hG (oc := .t 28) rfl (t := false) (z0) ?_
 rw [if_neg Bool.false_ne_true]
 refine W.seq ?_
 refine W.run hm hS hG (xs := [.reg [⟨some 44, none, 16001, .ta 108 .nilp (.t 14)⟩, ⟨some 45, none, 16002, .ext (.t 44) 1⟩, ⟨some 46, none, 16003, .ext (.t 44) 0⟩]]) (by kernel_rfl) ?_
 simp only [Cl, go_sem, Nat.reduceEqDiff, Nat.reduceAdd, Nat.reduceLeDiff, Nat.reduceLT, Nat.reduceMul, Nat.reduceSub, reduceIte, reduceCtorEq, Int.reduceEq, Int.reduceLT, Int.reduceLE, Nat.reduceBEq, Int.reduceToNat, M_block, M_reg, M_dreg_nil, M_dreg]
 rw [M_nilw, thenQ_n]
 refine W.cond hG (oc := .t 45) rfl (t := true) (z0) ?_
 rw [if_pos rfl]
 refine W.seq ?_
 refine W.run hm hS hG (xs := [.reg [⟨some 9, none, 17001, .mv (.t 46)⟩]]) (by kernel_rfl) ?_
 simp only [Cl, go_sem, Nat.reduceEqDiff, Nat.reduceAdd, Nat.reduceLeDiff, Nat.reduceLT, Nat.reduceMul, Nat.reduceSub, reduceIte, reduceCtorEq, Int.reduceEq, Int.reduceLT, Int.reduceLE, Nat.reduceBEq, Int.reduceToNat, M_block, M_reg, M_dreg_nil, M_dreg]
 rw [M_nilw, thenQ_n]
 refine W.seq ?_
 refine W.run hm hS hG (xs := [.reg [⟨some 47, none, 18001, .mv (.t 9)⟩, ⟨some 48, none, 18002, .nilc (.t 47)⟩, ⟨some 49, none, 18003, .fa 0 (.t 48)⟩, ⟨some 50, none, 18004, .ld false 1 (.t 49)⟩, ⟨some 51, none, 18005, .len (.t 50)⟩, ⟨some 52, none, 18006, .mv (.c (.int .i64 0))⟩]]) (by kernel_rfl) ?_
 refine s1 hSl ?_
 rw [M_nilw, thenQ_n]
 refine W.block ?_
 refine W.loop (fun m s => ∃ (i : Nat) (l1 l2 : List Int), i + m = (els v).length ∧ s.t 50 = v ∧ s.t 51 = .int .i64 (els v).length ∧ s.t 52 = .int .i64 i ∧ s.t 1 = Cl gb ∧ NmS s.H gb (l0 ++ w32 l1) ∧ So w₀ gb ((els v).drop i) l2 ∧ l = l1 ++ l2 ∧ n ≤ s.n) (n := (els v).length)
  ⟨0, [], l, by simp, z0, z0, z0, by simp only [Cl, go_sem, Nat.reduceEqDiff, Nat.reduceAdd, Nat.reduceLeDiff, Nat.reduceLT, Nat.reduceMul, Nat.reduceSub, reduceIte, reduceCtorEq, Int.reduceEq, Int.reduceLT, Int.reduceLE, Nat.reduceBEq, Int.reduceToNat, M_block, M_reg, M_dreg_nil, M_dreg], by rw [show w32 [] = [] from rfl, List.append_nil]; exact hN.frame (z0) (z0), by simpa using hs, rfl, by dsimp only; omega⟩ ?_
 rintro m ⟨t, H, k⟩ ⟨i, l1, l2, hi, h33, h34, h35, h1, hN, hs, hl, hn⟩
 simp only at h33 h34 h35 h1 hN hn
 refine W.seq ?_
 refine W.run hm hS hG (xs := [.reg [⟨some 53, none, 19001, .bin .lss (.t 52) (.t 51)⟩]]) (by kernel_rfl) ?_
 refine s1 (j h33 (j h34 h35)) ?_
 rw [M_nilw, thenQ_n]
 refine W.seq ?_
 by_cases hlt : (i : Int) < (els v).length
 ·have hb : decide ((i : Int) < (els v).length) = true := decide_eq_true hlt
  refine W.cond hG (oc := .t 53) rfl (t := true) (z1 hb) ?_
  rw [if_pos rfl]
  refine W.skip ?_
  rw [thenQ_n]
  have hi2 : i < (els v).length := by omega
  rw [List.drop_eq_getElem_cons hi2] at hs
  generalize hx : (els v)[i] = x at hs
  generalize hd : (els v).drop (i + 1) = rest at hs
  cases hs with
  |cons k0 k1 c0 c1 d0 d1 b1 b2 b3 cs li ls hsh hs =>
  have hix := ix_sls (s := 11) hS0 hi2 (by rw [hx]; rfl)
  rw [hx] at hix
  refine W.seq (W.block ?_)
  refine W.seq ?_
  refine W.run hm hS hG (xs := [.reg [⟨some 54, none, 20001, .ix 11 (.t 50) (.t 52)⟩, ⟨some 55, none, 20002, .ld true 11 (.t 54)⟩, ⟨some 11, none, 20003, .new 113 [.nili, .int .i32 0, .nili, .int .i32 0, .nili, .int .i32 0, .int .i32 0, .int .i32 0, .bool false, .bool false, .bool false]⟩, ⟨none, none, 20004, .st 11 (.t 11) (.t 55)⟩]]) (by kernel_rfl) ?_
  simp only [h33, h35, MIX, hix, go_sem, Nat.reduceEqDiff, Nat.reduceAdd, Nat.reduceLeDiff, Nat.reduceLT, Nat.reduceMul, Nat.reduceSub, reduceIte, reduceCtorEq, Int.reduceEq, Int.reduceLT, Int.reduceLE, Nat.reduceBEq, Int.reduceToNat, M_block, M_reg, M_dreg_nil, M_dreg]
  rw [M_nilw, thenQ_n]
  refine W.callM hS hG (m := 3) (f := 19) (xs := [⟨some 56, none, 21001, .fa 2 (.t 11)⟩, ⟨some 57, none, 21002, .ld true 2 (.t 56)⟩, ⟨some 58, none, 21003, .mv (.t 1)⟩]) (l := [.t 57, .t 58]) rfl (by kernel_rfl) rfl (fun d h => by cases h; decide) fnOk19 rfl ?_
  refine s1 h1 ?_
  rw [M_nilw]
  have hlen2 : ((l0 ++ w32 l1) ++ w32 li).length ≤ 1048576 := by
   rw [hl] at hlen
   simp only [List.length_append, w32_len] at hlen ⊢
   omega
  refine ⟨gb, l0 ++ w32 l1, w32 li, ?_, hN.frame (z0) (z0), hlen2, ?_⟩
  ·refine s1 h1 ?_
   exact hsh
  ·intro H' n' hN' hn'
   rw [inQ_n, thenQ_n]
   refine W.run hm hS hG (xs := [.reg [⟨some 60, none, 22001, .bin .add (.t 52) (.c (.int .i64 1))⟩, ⟨some 52, none, 22002, .mv (.t 60)⟩]]) (by kernel_rfl) ?_
   refine s1 h35 ?_
   rw [M_nilw, thenQ_n]
   refine ⟨m - 1, by omega, i + 1, l1 ++ li, ls, by omega, z1 h33, z1 h34, by refine s0 ?_; rw [wrap_i64 (by omega) (by omega)]; rfl, z1 h1, by rw [w32_append, ← List.append_assoc]; exact hN'.2, by rw [hd]; exact hs, by rw [hl, List.append_assoc], by dsimp only at hn' hn ⊢; omega⟩
 ·have hb : decide ((i : Int) < (els v).length) = false := decide_eq_false hlt
  refine W.cond hG (oc := .t 53) rfl (t := false) (z1 hb) ?_
  rw [if_neg Bool.false_ne_true]
  refine W.exit ?_
  have hnil : (els v).drop i = [] := List.drop_eq_nil_of_le (by omega)
  rw [hnil] at hs
  cases hs
  rw [List.append_nil] at hl
  subst hl
  show (∀ id, _) ∧ _
  exact ⟨fun id h => (by cases h), by dsimp only; omega, hN.frame (z0) (z0)⟩
theorem sh19 (hm : Tryz.prog.follows .mixedOrders = true) (hS : ∀ n, SimCall Tryz.prog w₀ (callX Tab X G n)) (hG : Gok w₀ G) (gb : Nat) {c : List PV} {l : List Int} (h : Bv c l) : Shc Tryz.prog w₀ 19 [.agg c, Cl gb] gb (w32 l) :=
 Bv.rec (motive_1 := fun c l _ => Shc Tryz.prog w₀ 19 [.agg c, Cl gb] gb (w32 l)) (motive_2 := fun cs l _ => Sa w₀ gb cs l) (motive_3 := fun cs l _ => So w₀ gb cs l)
  (sh19m hm hS hG 0 gb) (fun n => sh19n hm hS hG n gb) (fun v b l hS0 _ hl _ ih => sh19a hm hS hG v b l gb hS0 hl ih) (fun v l hS0 _ hl _ ih => sh19o hm hS hG v l gb hS0 hl ih)
  .nil (fun c0 c1 d0 d1 cs l ls _ _ ih ihs => .cons c0 c1 d0 d1 cs l ls ih ihs) .nil (fun k0 k1 c0 c1 d0 d1 b1 b2 b3 cs l ls _ _ ih ihs => .cons k0 k1 c0 c1 d0 d1 b1 b2 b3 cs l ls ih ihs) h
theorem sdAll (hm : Tryz.prog.follows .mixedOrders = true) (hS : ∀ n, SimCall Tryz.prog w₀ (callX Tab X G n)) (hG : Gok w₀ G) (gb : Nat) {cs : List (List PV)} {l : List Int} (h : Bd cs l) : Sd w₀ gb cs l := by
 induction h with
 |nil => exact .nil
 |cons c0 c1 d0 d1 cs l ls h hs ih => exact .cons _ _ _ _ _ _ _ (sh19 hm hS hG gb h) ih
theorem sh11 (hm : Tryz.prog.follows .mixedOrders = true) (hS : ∀ n, SimCall Tryz.prog w₀ (callX Tab X G n)) (hG : Gok w₀ G) (v : PV) (l : List Int) (gb : Nat) (hS0 : Sls v) (hB : (els v).length ≤ 1048576) (hs : Sd w₀ gb (els v) l) :
  Shc Tryz.prog w₀ 11 [v, Cl gb] gb (w32 l) := by
 have hSl : IsSl v := hS0.imp id fun ⟨xs, h⟩ => ⟨xs, h, by subst h; exact hB⟩
 refine Shc.of_W (fn := Tryz.f11) (by kernel_rfl) rfl rfl (by exact (by decide : 2 ≤ 17)) ?_
 rintro E w H n l0 ⟨hz, hN⟩ hlen
 refine W.seq ?_
 refine W.run hm hS hG (xs := [.reg [⟨some 6, none, 1, .mv (.t 0)⟩, ⟨some 7, none, 2, .len (.t 6)⟩, ⟨some 8, none, 3, .mv (.c (.int .i64 0))⟩]]) (by kernel_rfl) ?_
 refine s1 hSl ?_
 rw [M_nilw, thenQ_n]
 refine W.block ?_
 refine W.loop (fun m s => ∃ (i : Nat) (l1 l2 : List Int), i + m = (els v).length ∧ s.t 6 = v ∧ s.t 7 = .int .i64 (els v).length ∧ s.t 8 = .int .i64 i ∧ s.t 1 = Cl gb ∧ NmS s.H gb (l0 ++ w32 l1) ∧ Sd w₀ gb ((els v).drop i) l2 ∧ l = l1 ++ l2 ∧ n ≤ s.n) (n := (els v).length)
  ⟨0, [], l, by simp, z0, z0, z0, by simp only [Cl, go_sem, Nat.reduceEqDiff, Nat.reduceAdd, Nat.reduceLeDiff, Nat.reduceLT, Nat.reduceMul, Nat.reduceSub, reduceIte, reduceCtorEq, Int.reduceEq, Int.reduceLT, Int.reduceLE, Nat.reduceBEq, Int.reduceToNat, M_block, M_reg, M_dreg_nil, M_dreg], by rw [show w32 [] = [] from rfl, List.append_nil]; exact hN.frame (z0) (z0), by simpa using hs, rfl, by dsimp only; omega⟩ ?_
 rintro m ⟨t, H, k⟩ ⟨i, l1, l2, hi, h33, h34, h35, h1, hN, hs, hl, hn⟩
 simp only at h33 h34 h35 h1 hN hn
 refine W.seq ?_
 refine W.run hm hS hG (xs := [.reg [⟨some 9, none, 1001, .bin .lss (.t 8) (.t 7)⟩]]) (by kernel_rfl) ?_
 refine s1 (j h33 (j h34 h35)) ?_
 rw [M_nilw, thenQ_n]
 refine W.seq ?_
 by_cases hlt : (i : Int) < (els v).length
 ·have hb : decide ((i : Int) < (els v).length) = true := decide_eq_true hlt
  refine W.cond hG (oc := .t 9) rfl (t := true) (z1 hb) ?_
  rw [if_pos rfl]
  refine W.skip ?_
  rw [thenQ_n]
  have hi2 : i < (els v).length := by omega
  rw [List.drop_eq_getElem_cons hi2] at hs
  generalize hx : (els v)[i] = x at hs
  generalize hd : (els v).drop (i + 1) = rest at hs
  cases hs with
  |cons c0 c1 d0 d1 cs li ls hsh hs =>
  have hix := ix_sls (s := 4) hS0 hi2 (by rw [hx]; rfl)
  rw [hx] at hix
  refine W.seq (W.block ?_)
  refine W.seq ?_
  refine W.run hm hS hG (xs := [.reg [⟨some 10, none, 2001, .ix 4 (.t 6) (.t 8)⟩, ⟨some 11, none, 2002, .ld true 4 (.t 10)⟩, ⟨some 5, none, 2003, .new 89 [.nili, .int .i32 0, .nili, .int .i32 0]⟩, ⟨none, none, 2004, .st 4 (.t 5) (.t 11)⟩]]) (by kernel_rfl) ?_
  simp only [h33, h35, MIX, hix, go_sem, Nat.reduceEqDiff, Nat.reduceAdd, Nat.reduceLeDiff, Nat.reduceLT, Nat.reduceMul, Nat.reduceSub, reduceIte, reduceCtorEq, Int.reduceEq, Int.reduceLT, Int.reduceLE, Nat.reduceBEq, Int.reduceToNat, M_block, M_reg, M_dreg_nil, M_dreg]
  rw [M_nilw, thenQ_n]
  refine W.callM hS hG (m := 3) (f := 19) (xs := [⟨some 12, none, 3001, .fa 0 (.t 5)⟩, ⟨some 13, none, 3002, .ld true 2 (.t 12)⟩, ⟨some 14, none, 3003, .mv (.t 1)⟩]) (l := [.t 13, .t 14]) rfl (by kernel_rfl) rfl (fun d h => by cases h; decide) fnOk19 rfl ?_
  refine s1 h1 ?_
  rw [M_nilw]
  have hlen2 : ((l0 ++ w32 l1) ++ w32 li).length ≤ 1048576 := by
   rw [hl] at hlen
   simp only [List.length_append, w32_len] at hlen ⊢
   omega
  refine ⟨gb, l0 ++ w32 l1, w32 li, ?_, hN.frame (z0) (z0), hlen2, ?_⟩
  ·refine s1 h1 ?_
   exact hsh
  ·intro H' n' hN' hn'
   rw [inQ_n, thenQ_n]
   refine W.run hm hS hG (xs := [.reg [⟨some 16, none, 4001, .bin .add (.t 8) (.c (.int .i64 1))⟩, ⟨some 8, none, 4002, .mv (.t 16)⟩]]) (by kernel_rfl) ?_
   refine s1 h35 ?_
   rw [M_nilw, thenQ_n]
   refine ⟨m - 1, by omega, i + 1, l1 ++ li, ls, by omega, z1 h33, z1 h34, by refine s0 ?_; rw [wrap_i64 (by omega) (by omega)]; rfl, z1 h1, by rw [w32_append, ← List.append_assoc]; exact hN'.2, by rw [hd]; exact hs, by rw [hl, List.append_assoc], by dsimp only at hn' hn ⊢; omega⟩
 ·have hb : decide ((i : Int) < (els v).length) = false := decide_eq_false hlt
  refine W.cond hG (oc := .t 9) rfl (t := false) (z1 hb) ?_
  rw [if_neg Bool.false_ne_true]
  refine W.exit ?_
  have hnil : (els v).drop i = [] := List.drop_eq_nil_of_le (by omega)
  rw [hnil] at hs
  cases hs
  rw [List.append_nil] at hl
  subst hl
  show (∀ id, _) ∧ _
  exact ⟨fun id h => (by cases h), by dsimp only; omega, hN.frame (z0) (z0)⟩
end
end Go.Pi
end
section
open Go Go.Pi
namespace Go.Pi
variable {p q a : Prop}
open Go.RowKit Go.Proofs
theorem Bn_one {x : List PV} {l : List Int} (h : Bn x l) : ∀ l', Bn x l' → l = l' :=
 Bn.rec (motive_1 := fun x l _ => ∀ l', Bn x l' → l = l') (motive_2 := fun xs l _ => ∀ l', Bns xs l' → l = l')
  (fun ref items rest l' h => by cases h with | missing => rfl | parts _ _ _ _ _ hk => omega)
  (fun ref items rest l' h => by cases h with | name => rfl | parts _ _ _ _ _ hk => omega)
  (fun kind ref items rest l hk hs ih l' h => by cases h with | missing => omega | name => omega | parts _ _ _ _ _ _ hs' => exact ih _ hs')
  (fun l' h => by cases h; rfl)
  (fun flags key dflt b0 b1 b2 b3 xs l ls h hs ih ihs l' h' => by cases h' with | cons _ _ _ _ _ _ _ _ l2 ls2 h2 hs2 => rw [ih _ h2, ihs _ hs2])
  h
theorem Dns_one {xs : List (List PV)} {l : List Int} (h : Dns xs l) : ∀ l', Dns xs l' → l = l' := by
 induction h with
 |nil => intro l' h; cases h; rfl
 |cons b0 b1 b2 b3 v xs l ls h hs ih => intro l' h'; cases h' with | cons _ _ _ _ _ _ l2 ls2 h2 hs2 => rw [Bn_one h _ h2, ih _ hs2]
def Good (v : PV) (l : List Int) : Prop := (∃ m, SlP (DZ m) v) ∧ (∀ y, y ∈ els v → OkD y) ∧ Dns (els v) l ∧ l.length ≤ 1048576
def nmV (l : List Int) : PV := .sl ((w32 l).map fun n => [.int .i64 n])
noncomputable def X4 : CallF := fun f args ch =>
 open Classical in
 if h : f = 4 ∧ ch = none ∧ ∃ v l, args = [v] ∧ Good v l then some (nmV h.2.2.choose_spec.choose, []) else none
theorem X4_good {v : PV} {l : List Int} (h : Good v l) : X4 4 [v] none = some (nmV l, []) := by
 have hh : 4 = 4 ∧ (none : Option Chunk) = none ∧ ∃ v' l', [v] = [v'] ∧ Good v' l' := ⟨rfl, rfl, v, l, rfl, h⟩
 unfold X4
 rw [dif_pos hh]
 have key : ∀ v' l', [v] = [v'] ∧ Good v' l' → l' = l := by
  rintro v' l' ⟨e, h2⟩
  cases e
  exact Dns_one h2.2.2.1 _ h.2.2.1
 rw [key _ _ hh.2.2.choose_spec.choose_spec]
section
variable {P : Program} {w₀ : World} {N : Nat} {E0 : Env} {wi : World}
theorem W.rename {c : Code} {b B : Nat} {ch : Chunk} {s s' : St} {Q : Ex → St → Prop} (hb : s.H b = some ch) (hB : s'.H B = some ⟨ch.e, s.n, ch.cells, ch.s⟩) (hH : ∀ x, x ≠ B → s'.H x = if x = b then none else s.H x) (hBb : B ≠ b)
  (ht : ∀ x, s'.t x = s.t x ∨ ∃ off, s.t x = .ptr b ch.gen off ∧ s'.t x = .ptr B s.n off) (hn : s'.n = s.n + 1) (h : W P w₀ N E0 wi c s' Q) : W P w₀ N E0 wi c s Q :=
 fun a w K hr hK => h a w K (by have := hr.rename hb hB hH hBb ht; rw [hn]; exact this) hK
theorem W.ren2 {c : Code} {b B slot off : Nat} {ch : Chunk} {s : St} {Q : Ex → St → Prop} (hb : s.H b = some ch) (hBb : B ≠ b) (hslot : s.t slot = .ptr b ch.gen off)
  (h : W P w₀ N E0 wi c ⟨put s.t (some slot) (.ptr B s.n off), fun x => if x = B then some ⟨ch.e, s.n, ch.cells, ch.s⟩ else if x = b then none else s.H x, s.n + 1⟩ Q) : W P w₀ N E0 wi c s Q :=
 W.rename hb (if_pos rfl) (fun x hx => if_neg hx) hBb (fun x => by
  by_cases e : x = slot
  ·subst e; exact .inr ⟨off, hslot, if_pos rfl⟩
  ·exact .inl (if_neg e)) rfl h
end
section
variable {w₀ : World} {X : CallF} {G : Nat → PV}
theorem w4 (hm : Tryz.prog.follows .mixedOrders = true) (hS : ∀ n, SimCall Tryz.prog w₀ (callX Tab X G n)) (hG : Gok w₀ G) {ga gb' : Int} (hG1 : G 1 = .fp [.int .u32 ga, .int .u32 gb']) {v : PV} {l : List Int} (hgood : Good v l) (E : Env) (w : World) (n : Nat) :
  W Tryz.prog w₀ Tryz.f4.ntmps E w (Tryz.f4.body.getD .skip) ⟨fun i => [v].getD i .undef, H0 none, n⟩ (fun e s' => e = .ret ∧ ∃ gb, s'.t 2 = .ptr 900000 gb 0 ∧ NmS s'.H gb (w32 l)) := by
 obtain ⟨⟨m, lv⟩, hok, hdn, hl⟩ := hgood
 have hv := lv.1
 have hvd := lv.2.1
 show W Tryz.prog w₀ 16 E w _ _ _
 refine W.seq ?_
 refine W.run hm hS hG (xs := [.reg [⟨some 2, none, 1, .new 23 [.nils]⟩]]) (by kernel_rfl) ?_
 refine s1 hv ?_
 rw [M_nilw, thenQ_n]
 refine W.seq ?_
 refine W.run hm hS hG (xs := [.reg [⟨some 6, none, 1001, .mv (.t 0)⟩, ⟨some 7, none, 1002, .call 10 [.t 6]⟩, ⟨some 5, none, 1003, .mv (.t 7)⟩, ⟨some 8, none, 1004, .ext (.t 5) 0⟩, ⟨some 9, none, 1005, .ext (.t 5) 1⟩, ⟨some 3, none, 1006, .mv (.t 8)⟩, ⟨some 4, none, 1007, .mv (.t 9)⟩]]) (by kernel_rfl) ?_
 refine s1 hv ?_
 refine MC_pure (idecls hG1 lv) (by intro b g r h; cases h; exact lv.not_ptr) (c1 hvd) ?_
 rintro _ ⟨x, b, rfl, hSx, hDx, hPx, hbx, hlx⟩
 have hb := hPx hok
 subst hb
 obtain ⟨l', hdn', hbd⟩ := hbx rfl
 have := Dns_one hdn _ hdn'
 subst this
 refine s1 hDx ?_
 rw [M_nilw, thenQ_n]
 refine W.seq ?_
 refine W.seq ?_
 refine W.run hm hS hG (xs := [.reg [⟨some 10, none, 2001, .mv (.t 4)⟩, ⟨some 11, none, 2002, .un .not (.t 10)⟩]]) (by kernel_rfl) ?_
 refine s1 hv ?_
 rw [M_nilw, thenQ_n]
 refine W.cond hG (oc := .t 11) rfl (t := false) (z0) ?_
 rw [if_neg Bool.false_ne_true]
 refine W.skip ?_
 rw [thenQ_n]
 refine W.ren2 (b := 1) (B := 900000) (slot := 2) (off := 0) (ch := ⟨23, n + 0, [.nils], 0⟩) (z0) (by decide) (z0) ?_
 refine W.seq ?_
 refine W.callM hS hG (m := 2) (f := 11) (xs := [⟨some 12, none, 4001, .mv (.t 3)⟩, ⟨some 13, none, 4002, .mkfn (.func 12) [] [.t 2]⟩]) (l := [.t 12, .t 13]) rfl (by kernel_rfl) rfl (fun d h => by cases h; decide) fnOk11 rfl ?_
 refine s0 ?_
 simp only [M_mkfn]
 refine s0 ?_
 rw [M_nilw]
 have hlw : ([] ++ w32 l).length ≤ 1048576 := by rw [List.nil_append, w32_len]; exact hl
 refine ⟨n + 1 + 7 + 2, [], w32 l, ?_, ⟨.nils, 0, z0, Grow.nil⟩, hlw, ?_⟩
 ·refine s0 ?_
  exact sh11 hm hS hG x l _ hSx hlx (sdAll hm hS hG _ hbd)
 ·intro H' n' hN' hn'
  rw [thenQ_n]
  obtain ⟨hz, v', s, h9, hg⟩ := hN'
  have hcv := cellsOf_grow hg
  refine W.seq ?_
  refine W.run hm hS hG (xs := [.reg [⟨some 15, none, 5001, .ld false 1 (.t 2)⟩, ⟨none, none, 5002, .st 1 (.t 2) (.t 15)⟩]]) (by kernel_rfl) ?_
  refine s1 (j h9 hcv) ?_
  rw [M_nilw, thenQ_n]
  refine W.ret ⟨rfl, n + 1 + 7 + 2, z0, v', s, z0, ?_⟩
  exact hg.frame (by intro b hb; simp only [List.mem_singleton] at hb; subst hb; exact c0)
end
section
variable {w₀ : World} {G : Nat → PV}
theorem sim4 (hm : Tryz.prog.follows .mixedOrders = true) (hG : Gok w₀ G) {ga gb' : Int} (hG1 : G 1 = .fp [.int .u32 ga, .int .u32 gb']) : SimCall Tryz.prog w₀ X4 := by
 have hS : ∀ n, SimCall Tryz.prog w₀ (callX Tab (fun _ _ _ => none) G n) := callX_sim hm hG (fun f args ch r cells h => by cases h) Tab_ok
 intro f args ch r cells hX
 unfold X4 at hX
 split at hX
 ·rename_i h
  have hr : r = nmV h.2.2.choose_spec.choose ∧ cells = [] := by
   simp only [Option.some.injEq, Prod.mk.injEq] at hX
   exact ⟨hX.1.symm, hX.2.symm⟩
  obtain ⟨hargs, hgood⟩ := h.2.2.choose_spec.choose_spec
  obtain ⟨hr, rfl⟩ := hr
  generalize h.2.2.choose_spec.choose = l at hr hgood
  generalize h.2.2.choose = v at hargs hgood
  obtain ⟨rfl, rfl, _⟩ := h
  subst hargs
  subst hr
  refine ⟨⟨Tryz.f4, by kernel_rfl, rfl, by kernel_rfl⟩, fun _ E w vs hI hH hK hR => ?_⟩
  have hlv : vs.length = 1 := hR.1.symm
  have hrel : Rel Tryz.prog w₀ Tryz.f4.ntmps E w (UB 1 0) ⟨fun i => [v].getD i .undef, H0 none, 1⟩ { tmps := vs.toArray ++ Array.replicate (Tryz.f4.ntmps - vs.toArray.size) undef, defers := [] } w := by
   refine ⟨E, hI, hH, fun x => ?_, by simp [hlv], rfl, fun b g h => by show g < 1 + 0; have := hK b g h; omega, Ext.refl E w⟩
   show Rep E ([v].getD x .undef) _
   by_cases hx : x < [v].length
   ·have h1 := hR.get x hx
    have e1 : [v].getD x .undef = [v][x] := by rw [List.getD_eq_getElem?_getD, List.getElem?_eq_getElem hx]; rfl
    have hxv : x < vs.length := hR.1 ▸ hx
    have e2 : (vs.toArray ++ Array.replicate (Tryz.f4.ntmps - vs.toArray.size) undef).getD x undef = vs[x] := by
     simp [Array.getD_eq_getD_getElem?, Array.getElem?_append, hxv]
    rw [e1, e2]; exact h1
   ·have e1 : [v].getD x .undef = .undef := by simp [List.getD_eq_getElem?_getD]; rw [List.getElem?_eq_none (by omega)]; rfl
    rw [e1]; exact .undef _
  refine calls_of_wp (fn := Tryz.f4) (c := Tryz.f4.body.getD .skip) (by kernel_rfl) rfl (w4 hm hS hG hG1 hgood E w 1 _ w _ hrel ?_)
  rintro e s' a' w' ⟨rfl, gb, ht2, v', s, h9, hg⟩ ⟨E1, h⟩
  have hcells : cellsAt E1.H 1 (s'.t 2) = some [v'] := by
   rw [h.heap, ht2]
   simp only [cellsAt, h9]
   simp
  have hres : runRes s'.t E1.H [.cell 2 false 1] = some [v'] := by
   simp only [runRes, hcells, wrapC]
   simp
  obtain ⟨z, hz1, hz2⟩ := run_results h.inv h.slots (fn := Tryz.f4) (xs := [.cell 2 false 1]) (vs := [v']) (by kernel_rfl) hres
  obtain ⟨y, ids, hset, hids, hy, hdy⟩ := hg.settle
  have hset2 : settleL (settle depth E1.H) [v'] = some ([y], ids) := by
   rw [h.heap]
   simp only [settleL_each, settleL_nil, hset]
   simp [zip2_some]
  obtain ⟨h1, h2⟩ := settleL_all h.inv hset2 (.cons hz2 (Reps.nil E1))
  obtain ⟨_, _, he, h3, _⟩ := h1.head
  cases he
  have hX1 := Ext.freeze h.inv ids
  have hrep : Rep (E1.freeze w' ids) (nmV l) z ∧ deepB (nmV l) = true := by
   have hyv : (w32 l).map (fun n => [PV.int .i64 n]) = [] ∧ y = .nils ∨ y = nmV l := hy
   rcases hyv with ⟨hnil, rfl⟩ | rfl
   ·unfold nmV
    rw [hnil]
    cases h3
    exact ⟨.sl0 none 0, rfl⟩
   ·exact ⟨h3, hdy⟩
  exact ⟨h.defers, z, hz1, z, E1.freeze w' ids, rfl, hrep.1, hrep.2, inv_freeze h.inv ids, h.ext.trans hX1, fun c h => (by cases h)⟩
 ·cases hX
end
end Go.Pi
end
