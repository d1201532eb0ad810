import Derived.Test.YtpnkedaceaodbaaGreatDoorP06
import Derived.Test.YtpnkedaceaodbaaGreatDoorP07
import Derived.Test.YtpnkedaceaodbaaGreatDoorP08
import Derived.Test.YtpnkedaceaodbaaGreatDoorP09
import Derived.Test.YtpnkedaceaodbaaGreatDoorP17
/- Part of the proof. -/
set_option linter.all false
set_option maxHeartbeats 0
set_option maxRecDepth 100000
section
open Go Go.Pi
namespace Go.Pi
variable {p q a : Prop}
section
variable {X : CallF} {G : Nat → PV}
namespace QFo2
theorem kA2 (h : p := by
 first
 |exact kFm
 |exact kH
 |fail) : p := h
theorem kB2 (h : p := by
 first
 |(refine MC_mt (r30 _) cA dM hF ?_; rintro _ b1 ⟨rfl, hnd⟩ hmono hF; exact kT2)
 |(refine MC_mt (ih.e (by assumption)) cA dM hF ?_; exact kMN2)
 |(refine MC_mt (r14 ih (by assumption)) cA dM hF ?_; exact kML2)
 |fail) : p := h
theorem y2_0 (h : p := by
 first
 |skip
  skip
  have hbl : (els ybody).length ≤ 1048576 := (‹SlP (SZ m) ybody› : SlP (SZ m) ybody).1.len
  refine M_apps (A := [34002, 37007]) (ys := [_]) (r := r) (c0) hS hDp (fun c hc => (hMem c hc).len) (by refine nA ?_; exact Grow.row1 (by simp) (c0) rfl (by first | rfl | exact cA)) (by simp) (by simp only [List.length_cons, List.length_nil]; omega) (fun v2 H2 tr2 hgr hf hn hz => ?_)
  obtain ⟨z2, rfl, hz2⟩ := hz _ _ rfl
  have f0 := hf 0 (by simp)
  have f2 := hf 2 (by simp)
  have f7 := hf 29007 (by simp)
  have f8 := hf 34004 (by simp)
  have f9 := hf 29005 (by simp)
  have f5 := hf 38005 (by simp)
  simp only [e0, e2, e7, go_sem, Nat.reduceEqDiff, Nat.reduceAdd, Nat.reduceLeDiff, Nat.reduceLT, Nat.reduceMul, Nat.reduceSub, reduceIte, reduceCtorEq, Int.reduceEq, Int.reduceLT, Int.reduceLE, Nat.reduceBEq, Int.reduceToNat, M_block] at f0 f2 f7 f8 f9 f5
  have hcv2 := cellsOf_grow hgr
  have hE2 := fun (n : Nat) (H' : Heap) (q1 : H' 34002 = H2 34002) (q2 : H' 37007 = H2 37007) => (Grow.settleE (n := n) (hgr.frame (H' := H') (by intro b hb; simp only [List.mem_cons, List.not_mem_nil, or_false] at hb; rcases hb with rfl | rfl; exact q1; exact q2)))
  obtain ⟨q1, q2, q3, q4⟩ := hgr.gv
  generalize hzs : [_] ++ els r = cs at hgr hE2 q1 q2 q3 q4
  have hcs : ∀ y, y ∈ cs → Nd y := by
   intro y hy
   rw [← hzs] at hy
   rcases List.mem_append.1 hy with hy | hy
   ·simp only [List.mem_singleton] at hy
    subst hy
    first | assumption | simp [Nd_cells, NdF_nils]
   ·exact hMem _ hy
  have hcl : cs.length ≤ 1048577 := by rw [← hzs]; simp only [List.length_append, List.length_cons, List.length_nil]; omega
  clear hzs
  have h28 : Nd [.int .i64 28, .str (bs []), .str (bs []), .int .u64 0, gv v2 cs, .int .i64 0] := Nd_mk ⟨q1, q2, by rw [q3]; omega, fun y hy => hcs y (by rw [q3] at hy; exact hy), fun h => absurd h (by omega)⟩ (by intro h; omega) (by intro h; omega)
  refine nA ?_
  simp only [M_reg]
  refine nA ?_
  refine (M_push (A := [29005, 38005]) (ys := ys) (v := v) (cA) (cA) (cA) (cA) (hgw.frame (by intro b hb; simp only [List.mem_cons, List.not_mem_nil, or_false] at hb; rcases hb with rfl | rfl <;> exact cA)) (by simp) (by simp) ?_ ?_ (by simp) (by simp only [List.length_cons, List.length_nil]; omega) (by decide) (by intro f1 f2 f3; first | rfl | simp [closeOk, push, feetOk, apartL]) (fun t' H' n' v' ht' hO' hgr' hf' => ?_))
  rotate_right
  ·have hni : ∀ c, c ≠ 38004 → c ≠ 34002 → c ≠ 37007 → ¬ c ∈ 38004 :: gi v2 := by
    intro c h1 h2 h3 h
    rcases List.mem_cons.1 h with h | h
    ·exact h1 h
    ·have := q4 c h
     simp only [List.mem_cons, List.not_mem_nil, or_false] at this
     rcases this with h | h
     ·exact h2 h
     ·exact h3 h
   have p0 := hf' 0 (by simp) (hni _ (by decide) (by decide) (by decide)) (by decide)
   have p2 := hf' 2 (by simp) (hni _ (by decide) (by decide) (by decide)) (by decide)
   simp only [f0, f2, go_sem, Nat.reduceEqDiff, Nat.reduceAdd, Nat.reduceLeDiff, Nat.reduceLT, Nat.reduceMul, Nat.reduceSub, reduceIte, reduceCtorEq, Int.reduceEq, Int.reduceLT, Int.reduceLE, Nat.reduceBEq, Int.reduceToNat, M_block] at p0 p2
   clear hE hE2 hf hf'
   refine nA ?_
   simp only [M_reg]
   refine nA ?_
   have next := nx
   unfold Hid at next
   generalize hzs : ys ++ _ = zs at hgr'
   refine next (n - 1) (by omega) _ ⟨i + 1, _, v', zs, so, by omega, cA, cA, cA, cA, cA, by refine nA ?_; rw [wrap_i64 (by omega) (by omega)]; first | rfl | (congr 1; omega), cA, cA, cA, hgr', ?_, by rw [← hzs]; simp [hyl], fun h => (show b = true → fine = true from hFh) (hF h)⟩
   intro y hy
   rw [← hzs] at hy
   rcases List.mem_append.1 hy with hy | hy
   ·exact hys y hy
   ·simp only [List.mem_cons, List.not_mem_nil, or_false] at hy
    subst hy
    exact h28
  ·intro b hb
   rcases List.mem_cons.1 hb with rfl | hb
   ·exact ⟨by simp, by decide⟩
   ·have := q4 b hb
    simp only [List.mem_cons, List.not_mem_nil, or_false] at this
    rcases this with rfl | rfl <;> exact ⟨by simp, by decide⟩
  ·intro z hz
   simp only [List.mem_cons, List.not_mem_nil, or_false] at hz
   subst hz
   exact ⟨rfl, h28.deep⟩
  done
 |fail) : p := h
theorem y2_1 (h : p := by
 first
 |skip
  skip
  have hbl : (els ybody).length ≤ 1048576 := (‹SlP (SZ m) ybody› : SlP (SZ m) ybody).1.len
  refine M_apps (A := [34002, 37007]) (ys := [_]) (r := r) (c0) hS hDp (fun c hc => (hMem c hc).len) (by refine nA ?_; exact Grow.row1 (by simp) (c0) rfl (by first | rfl | exact cA)) (by simp) (by simp only [List.length_cons, List.length_nil]; omega) (fun v2 H2 tr2 hgr hf hn hz => ?_)
  obtain ⟨z2, rfl, hz2⟩ := hz _ _ rfl
  have f0 := hf 0 (by simp)
  have f2 := hf 2 (by simp)
  have f7 := hf 29007 (by simp)
  have f8 := hf 34004 (by simp)
  have f9 := hf 29005 (by simp)
  have f5 := hf 38005 (by simp)
  simp only [e0, e2, e7, go_sem, Nat.reduceEqDiff, Nat.reduceAdd, Nat.reduceLeDiff, Nat.reduceLT, Nat.reduceMul, Nat.reduceSub, reduceIte, reduceCtorEq, Int.reduceEq, Int.reduceLT, Int.reduceLE, Nat.reduceBEq, Int.reduceToNat, M_block] at f0 f2 f7 f8 f9 f5
  have hcv2 := cellsOf_grow hgr
  have hE2 := fun (n : Nat) (H' : Heap) (q1 : H' 34002 = H2 34002) (q2 : H' 37007 = H2 37007) => (Grow.settleE (n := n) (hgr.frame (H' := H') (by intro b hb; simp only [List.mem_cons, List.not_mem_nil, or_false] at hb; rcases hb with rfl | rfl; exact q1; exact q2)))
  obtain ⟨q1, q2, q3, q4⟩ := hgr.gv
  generalize hzs : [_] ++ els r = cs at hgr hE2 q1 q2 q3 q4
  have hcs : ∀ y, y ∈ cs → Nd y := by
   intro y hy
   rw [← hzs] at hy
   rcases List.mem_append.1 hy with hy | hy
   ·simp only [List.mem_singleton] at hy
    subst hy
    first | assumption | simp [Nd_cells, NdF_nils]
   ·exact hMem _ hy
  have hcl : cs.length ≤ 1048577 := by rw [← hzs]; simp only [List.length_append, List.length_cons, List.length_nil]; omega
  clear hzs
  have h28 : Nd [.int .i64 28, .str (bs []), .str (bs []), .int .u64 0, gv v2 cs, .int .i64 0] := Nd_mk ⟨q1, q2, by rw [q3]; omega, fun y hy => hcs y (by rw [q3] at hy; exact hy), fun h => absurd h (by omega)⟩ (by intro h; omega) (by intro h; omega)
  refine nA ?_
  simp only [M_reg]
  refine nA ?_
  refine (M_push (A := [29005, 38005]) (ys := ys) (v := v) (cA) (cA) (cA) (cA) (hgw.frame (by intro b hb; simp only [List.mem_cons, List.not_mem_nil, or_false] at hb; rcases hb with rfl | rfl <;> exact cA)) (by simp) (by simp) ?_ ?_ (by simp) (by simp only [List.length_cons, List.length_nil]; omega) (by decide) (by intro f1 f2 f3; first | rfl | simp [closeOk, push, feetOk, apartL]) (fun t' H' n' v' ht' hO' hgr' hf' => ?_))
  rotate_right
  ·have hni : ∀ c, c ≠ 38004 → c ≠ 34002 → c ≠ 37007 → ¬ c ∈ 38004 :: gi v2 := by
    intro c h1 h2 h3 h
    rcases List.mem_cons.1 h with h | h
    ·exact h1 h
    ·have := q4 c h
     simp only [List.mem_cons, List.not_mem_nil, or_false] at this
     rcases this with h | h
     ·exact h2 h
     ·exact h3 h
   have p0 := hf' 0 (by simp) (hni _ (by decide) (by decide) (by decide)) (by decide)
   have p2 := hf' 2 (by simp) (hni _ (by decide) (by decide) (by decide)) (by decide)
   simp only [f0, f2, go_sem, Nat.reduceEqDiff, Nat.reduceAdd, Nat.reduceLeDiff, Nat.reduceLT, Nat.reduceMul, Nat.reduceSub, reduceIte, reduceCtorEq, Int.reduceEq, Int.reduceLT, Int.reduceLE, Nat.reduceBEq, Int.reduceToNat, M_block] at p0 p2
   clear hE hE2 hf hf'
   refine nA ?_
   simp only [M_reg]
   refine nA ?_
   have next := nx
   unfold Hid at next
   generalize hzs : ys ++ _ = zs at hgr'
   refine next (n - 1) (by omega) _ ⟨i + 1, _, v', zs, so, by omega, cA, cA, cA, cA, cA, by refine nA ?_; rw [wrap_i64 (by omega) (by omega)]; first | rfl | (congr 1; omega), cA, cA, cA, hgr', ?_, by rw [← hzs]; simp [hyl], fun h => (show b = true → fine = true from hFh) (hF h)⟩
   intro y hy
   rw [← hzs] at hy
   rcases List.mem_append.1 hy with hy | hy
   ·exact hys y hy
   ·simp only [List.mem_cons, List.not_mem_nil, or_false] at hy
    subst hy
    exact h28
  ·intro b hb
   rcases List.mem_cons.1 hb with rfl | hb
   ·exact ⟨by simp, by decide⟩
   ·have := q4 b hb
    simp only [List.mem_cons, List.not_mem_nil, or_false] at this
    rcases this with rfl | rfl <;> exact ⟨by simp, by decide⟩
  ·intro z hz
   simp only [List.mem_cons, List.not_mem_nil, or_false] at hz
   subst hz
   exact ⟨rfl, h28.deep⟩
  done
 |fail) : p := h
theorem y2_2 (h : p := by
 first
 |skip
  refine ⟨by simpa using fun h : 0 ∈ gi v => absurd (g4 0 h) (by simp), _, rfl, hFh, NdX_agg.2 (Nd_mk ⟨g1, g2, by rw [g3]; omega, fun y hy => hys y (by rw [g3] at hy; exact hy), fun h => absurd h (by omega)⟩ (by intro h; omega) (by intro h; omega))⟩
  done
 |fail) : p := h
theorem kZ2 (h : p := by
 first
 |skip
  all_goals first
  |exact y2_0
  |exact y2_1
  |exact y2_2
  |fail
  done
 |fail) : p := h
end QFo2
namespace QFo1
theorem kA1 (h : p := by
 first
 |exact kFm
 |exact kH
 |fail) : p := h
theorem kB1 (h : p := by
 first
 |(refine MC_mt (r30 _) cA dM hF ?_; rintro _ b1 ⟨rfl, hnd⟩ hmono hF; exact kT1)
 |(refine MC_mt (h75) cA dM hF ?_; exact kMN1)
 |(refine MC_mt (h76) cA dM hF ?_; exact kMN1)
 |(refine MC_mt (h77) cA dM hF ?_; exact kMN1)
 |(refine MC_mt (ih.s (by assumption)) cA dM hF ?_; exact kMN1)
 |(refine MC_mt (r44 ih (by assumption)) cA dM hF ?_; exact kMN1)
 |(refine MC_mt (r48 B _) cA dM hF ?_; rintro _ b1 ⟨s, rfl, hs48⟩ hmono hF; exact kT1)
 |fail) : p := h
theorem kZ1 (h : p := by
 first
 |skip
  have hB := l_cases.1.len
  have hFh : Hid (_ → fine = true) := hF
  clear hF
  refine M_loop (fun n s' => ∃ (i : Nat) (b : Bool) (v : PV) (ys : List (List PV)) (so : Nat), i + n = (els cases).length ∧ s'.t 0 = .ptr 0 0 0 ∧ s'.t 4 = .ptr 2 2 0 ∧ s'.t 7 = .ptr 29007 so 0 ∧ s'.t 153 = cases ∧ s'.t 154 = .int .i64 (els cases).length ∧ s'.t 155 = .int .i64 i ∧
   s'.H 0 = some ⟨e, 0, [.bool b], 0⟩ ∧ s'.H 2 = some ⟨45, 2, zN, 0⟩ ∧ s'.H 29007 = some ⟨45, so, [.int .i64 27, .str (bs []), .str (bs []), .int .u64 0, v, .int .i64 0], 0⟩ ∧
   Grow [29005, 38005] s'.H 45 6 v ys ∧ (∀ y, y ∈ ys → Nd y) ∧ ys.length = i + 1 ∧ (b = true → fine = true)) ?_ (n := (els cases).length)
   ⟨0, _, _, [_], _, by simp, z0, z0, by first | (exact z0) | (exact zA) | (exact zA), z0, z0, z0, z0, z0, z0, Grow.row1 (by simp) (z0) rfl (by first | rfl | exact cA), by intro y hy; simp only [List.mem_singleton] at hy; subst hy; assumption, rfl, hFh⟩
  rintro n ⟨t, H, k⟩ ⟨i, b, v, ys, so, hi, h0, h4, h7, h153, h154, h155, e0, e2, e7, hgw, hys, hyl, hFb⟩ next
  simp only at h0 h4 h7 h153 h154 h155 e0 e2 e7 hgw
  clear hFh
  have hFh : Hid (b = true → fine = true) := hFb
  clear hFb
  have hF : b = true → b = true := id
  have hE := fun (n : Nat) (H' : Heap) (q1 : H' 29005 = H 29005) (q2 : H' 38005 = H 38005) => (Grow.settleE (n := n) (hgw.frame (H' := H') (by intro b hb; simp only [List.mem_cons, List.not_mem_nil, or_false] at hb; rcases hb with rfl | rfl; exact q1; exact q2)))
  obtain ⟨g1, g2, g3, g4⟩ := hgw.gv
  refine n1 (j h0 (j h4 (j h7 (j h153 (j h154 (j h155 (j e0 (j e2 e7)))))))) ?_
  have nx : Hid _ := next
  clear next
  open QFo2 in exact Am2
  done
 |fail) : p := h
end QFo1
theorem r49 {F : Int → ByteArray} (B : Base X G F) {m : Nat} {x : List PV} (ih : IHf X G m) (h75 : Mt Tab X G 75 [.agg x] (fun _ => NdX)) (h76 : Mt Tab X G 76 [.agg x] (fun _ => NdX)) (h77 : Mt Tab X G 77 [.agg x] (fun _ => NdX)) (hx : StmtC x) (hm : SizeOf.sizeOf x ≤ m) : Mt Tab X G 49 [.agg x] (fun _ => NdX) := by
 intro e fine
 have hF : fine = true → fine = true := id
 obtain ⟨kind, op, ref, flags, str, exprs, kids, decls, cases, fns, classes, rfl, l_str, l_exprs, l_kids, l_decls, l_cases, l_fns, l_classes⟩ := hx.open (hm)
 have := l_str.1; have := l_str.2.1; have := l_exprs.1; have := l_exprs.2.1; have := l_kids.1; have := l_kids.2.1; have := l_decls.1; have := l_decls.2.1; have := l_cases.1; have := l_cases.2.1; have := l_fns.1; have := l_fns.2.1; have := l_classes.1; have := l_classes.2.1
 refine Fn_of T49 (by simp) ?_
 refine nA ?_
 open QFo1 in exact Am1
end
end Go.Pi
end
section
open Go Go.Pi
namespace Go.Pi
variable {p q a : Prop}
section
variable {X : CallF} {G : Nat → PV}
namespace QFp2
theorem kA2 (h : p := by
 first
 |exact kFm
 |exact kH
 |fail) : p := h
theorem kB2 (h : p := by
 first
 |(refine MC_mt (r30 _) cA dM hF ?_; rintro _ b1 ⟨rfl, hnd⟩ hmono hF; exact kT2)
 |(refine MC_mt (ih.e (by assumption)) cA dM hF ?_; exact kMN2)
 |(refine MC_mt (r55 B ih h46 (by assumption) (by assumption) _ _ _) cA dM hF ?_; exact kMN2)
 |(refine MC_pure (B.h56 ‹Nd _›) pE dM ?_; rintro _ ⟨s1, b1, rfl⟩; exact kT2)
 |(refine MC_pure (B.h57 _ hpr) pE dM ?_; rintro _ ⟨s2, rfl⟩; exact kT2)
 |(refine M_push (A := [9007, 13018, 20007, 21008]) (ys := ys) (v := v) (cA) (cA) (cA) (cA) (hgw.frame (by intro b hb; simp only [List.mem_cons, List.not_mem_nil, or_false] at hb; rcases hb with rfl | rfl | rfl | rfl <;> exact cA)) (by simp) (by simp) (by intro b hb; simp at hb ⊢; omega) (by intro z hz; simp only [List.mem_cons, List.not_mem_nil, or_false] at hz; first | (subst hz; exact ⟨rfl, cA⟩) | (rcases hz with rfl | rfl <;> exact ⟨rfl, cA⟩)) (by simp) (by simp only [List.length_cons, List.length_nil]; omega) (by decide) (by intro f1 f2 f3; first | rfl | simp [closeOk, push, feetOk, apartL]) (fun t' H' n' v' ht' hO' hgr hf => ?_); have e0_n := hf 0 (by simp) (by simp) (by decide); have e2_n := hf 2 (by simp) (by simp) (by decide); (try refine nA ?_)) <;> exact Am2
 |fail) : p := h
theorem kZ2 (h : p := by
 first
 |skip
  all_goals first
   |(have next := nx; unfold Hid at next; clear hE; generalize hzs : ys ++ _ = zs at hgr; refine next (n - 1) (by omega) _ ⟨i + 1, _, v', zs, so, by omega, cA, cA, cA, cA, cA, by refine nA ?_; rw [wrap_i64 (by omega) (by omega)]; first | rfl | (congr 1; omega), cA, cA, cA, hgr, ?_, by rw [← hzs]; simp [hyl], fun h => (show b = true → fine = true from hFh) (hF h)⟩)
   |(refine ⟨?_, _, rfl, ?_, ?_⟩)
   |skip
  all_goals first
   |exact fun h => absurd h Bool.false_ne_true
   |exact hFh
   |(simpa using fun h : 0 ∈ gi v => absurd (g4 0 h) (by simp))
   |(refine NdX_agg.2 (Nd_mk ⟨g1, g2, by rw [g3]; omega, fun y hy => hys y (by rw [g3] at hy; exact hy), fun h => absurd h (by omega)⟩ (by intro h; omega) (by intro h; omega)))
   |(intro y hy; rw [← hzs] at hy; rcases List.mem_append.1 hy with hy | hy; (focus exact hys y hy); (simp only [List.mem_cons, List.not_mem_nil, or_false] at hy; subst hy; first | assumption | (simp [Nd_cells, NdF_nils, NdF_sl, *]; first | done | fail)))
   |skip
  done
 |fail) : p := h
end QFp2
namespace QFp1
theorem kA1 (h : p := by
 first
 |exact kFm
 |exact kH
 |fail) : p := h
theorem kB1 (h : p := by
 first
 |(refine MC_mt (r30 _) cA dM hF ?_; rintro _ b1 ⟨rfl, hnd⟩ hmono hF; exact kT1)
 |fail) : p := h
theorem kZ1 (h : p := by
 first
 |skip
  have hB := l_props.1.len
  have hFh : Hid (_ → fine = true) := hF
  clear hF
  refine M_loop (fun n s' => ∃ (i : Nat) (b : Bool) (v : PV) (ys : List (List PV)) (so : Nat), i + n = (els props).length ∧ s'.t 0 = .ptr 0 0 0 ∧ s'.t 4 = .ptr 2 2 0 ∧ s'.t 5 = .ptr 1002 so 0 ∧ s'.t 14 = props ∧ s'.t 15 = .int .i64 (els props).length ∧ s'.t 16 = .int .i64 i ∧
   s'.H 0 = some ⟨e, 0, [.bool b], 0⟩ ∧ s'.H 2 = some ⟨45, 2, zN, 0⟩ ∧ s'.H 1002 = some ⟨45, so, [.int .i64 115, .str (bs []), .str (bs []), .int .u64 0, v, .int .i64 0], 0⟩ ∧
   Grow [9007, 13018, 20007, 21008] s'.H 45 6 v ys ∧ (∀ y, y ∈ ys → Nd y) ∧ ys.length = i ∧ (b = true → fine = true)) ?_ (n := (els props).length)
   ⟨0, _, _, [], _, by simp, z0, z0, by first | (exact z0) | (exact zA) | (exact zA), z0, z0, z0, z0, z0, z0, Grow.nil, by simp, rfl, hFh⟩
  rintro n ⟨t, H, k⟩ ⟨i, b, v, ys, so, hi, h0, h4, h5, h14, h15, h16, e0, e2, e5, hgw, hys, hyl, hFb⟩ next
  simp only at h0 h4 h5 h14 h15 h16 e0 e2 e5 hgw
  clear hFh
  have hFh : Hid (b = true → fine = true) := hFb
  clear hFb
  have hF : b = true → b = true := id
  have hE := fun (n : Nat) (H' : Heap) (q1 : H' 9007 = H 9007) (q2 : H' 13018 = H 13018) (q3 : H' 20007 = H 20007) (q4 : H' 21008 = H 21008) => (Grow.settleE (n := n) (hgw.frame (H' := H') (by intro b hb; simp only [List.mem_cons, List.not_mem_nil, or_false] at hb; rcases hb with rfl | rfl | rfl | rfl; exact q1; exact q2; exact q3; exact q4)))
  obtain ⟨g1, g2, g3, g4⟩ := hgw.gv
  refine n1 (j h0 (j h4 (j h5 (j h14 (j h15 (j h16 (j e0 (j e2 e5)))))))) ?_
  have nx : Hid _ := next
  clear next
  open QFp2 in exact Am2
  done
 |fail) : p := h
end QFp1
theorem r25 {F : Int → ByteArray} (B : Base X G F) {m : Nat} {x : List PV} (ih : IHf X G m) (h46 : ∀ {y}, FZ m y → ∀ k, Mt Tab X G 46 [.agg y, .int .u64 k] (fun _ => NdX)) (hx : ExprC x) (hm : SizeOf.sizeOf x ≤ m) : Mt Tab X G 25 [.agg x] (fun _ => NdX) := by
 intro e fine
 have hF : fine = true → fine = true := id
 obtain ⟨kind, op, ref, chain, flags, nn, str, text, kids, props, parts, fns, classes, rfl, hn, l_str, ht, l_kids, l_props, l_parts, l_fns, l_classes⟩ := hx.open (hm)
 have := l_str.1; have := l_str.2.1; have := l_kids.1; have := l_kids.2.1; have := l_props.1; have := l_props.2.1; have := l_parts.1; have := l_parts.2.1; have := l_fns.1; have := l_fns.2.1; have := l_classes.1; have := l_classes.2.1
 have hpr : (bs [95, 95, 112, 114, 111, 116, 111, 95, 95]).size ≤ 1099511627776 := by decide
 refine Fn_of T25 (by simp) ?_
 refine nA ?_
 open QFp1 in exact Am1
end
end Go.Pi
end
section
open Go Go.Pi
namespace Go.Pi
variable {p q a : Prop}
section
variable {T : Nat → Option FX} {X : CallF} {G : Nat → PV} {Q : Ex → St → Prop} {w : List Wk}
theorem M_cNd2 {ops : List XO} {c2 : XC} {n st st2 : Nat} {t : Nat → PV} {H : Heap} {k0 v1 v2 v4 v5 : PV} {z0 : Int} (lo id id2 : Nat) (hid : id2 ≠ id) (h1 : firstD ops = some lo) (hst : (H id).map (·.gen) = some st) (h2 : H id2 = some ⟨45, st2, [k0, v1, v2, .int .u64 z0, v4, v5], 0⟩)
  (h : ∀ R t0 H0, (∀ i, t0 i = t i) → (∀ i, H0 i = H i) → (∀ t' H' n' nc z, (∀ i, i < lo → t' i = t0 i) → H' id = some ⟨45, st, nc, 0⟩ → H' id2 = some ⟨45, st2, [k0, v1, v2, .int .u64 z, v4, v5], 0⟩ → (∀ x, x ≠ id → x ≠ id2 → H' x = H0 x) → Nd nc → M T X G R ⟨t', H', n'⟩ Q) → M T X G (.code (.reg ops) :: .code c2 :: R) ⟨t0, H0, n⟩ Q)
  (hk : ∀ g n' nc z, Nd nc → M T X G w ⟨keep lo g t, (H.put id (some ⟨45, st, nc, 0⟩)).put id2 (some ⟨45, st2, [k0, v1, v2, .int .u64 z, v4, v5], 0⟩), n'⟩ Q) : M T X G (.code (.reg ops) :: .code c2 :: w) ⟨t, H, n⟩ Q :=
 h w t H (fun _ => rfl) (fun _ => rfl) fun t' H' n' nc z hl hH1 hH2 hHx hN => by
  have e1 : H' = (H.put id (some ⟨45, st, nc, 0⟩)).put id2 (some ⟨45, st2, [k0, v1, v2, .int .u64 z, v4, v5], 0⟩) := by
   funext x
   by_cases hx : x = id2
   ·subst hx; rw [Heap.put_same]; exact hH2
   ·rw [Heap.put_ne _ _ hx]
    by_cases hy : x = id
    ·subst hy; rw [Heap.put_same]; exact hH1
    ·rw [Heap.put_ne _ _ hy]; exact hHx x hy hx
  rw [e1, keep_of hl]
  exact hk _ _ _ _ hN
theorem MIX_Nre {k : Int} {v : PV} {m : Int} {y : List PV} {d : Option Nat} {i len n : Nat} {os : List XO} {tr : Trk} {t : Nat → PV} {H : Heap} (hg : (els v)[m.toNat]? = some y) (h : NdF k v) (h0 : 0 ≤ m)
  (kk : M T X G (.ops i os len tr :: w) ⟨put t d (.fp y), H, n⟩ Q) : MIX T X G 6 v (.int .i64 m) d i os len tr w t H n Q := by
 have hlt : m < (els v).length := by
  rcases Nat.lt_or_ge m.toNat (els v).length with h1 | h1
  ·omega
  ·rw [List.getElem?_eq_none h1] at hg; cases hg
 refine MIX_N h h0 hlt (fun y' _ _ hg' => ?_)
 rw [hg] at hg'
 cases hg'
 exact kk
end
section
variable {X : CallF} {G : Nat → PV}
namespace QFq2
theorem kA2 (h : p := by
 first
 |((refine ⟨_, rfl, ?_, ?_⟩; (first | exact hF | exact fun _ => trivial | exact fun h => absurd h Bool.false_ne_true | exact fun h => (show b = true → fine = true from hFh) (hF h)); (simp [NdX_agg, Nd_cells, Nd_num, NdF_nils, NdF_sl, *]; first | done | fail))) <;> exact Am2
 |((refine M_cNd2 113 20006 6007 (by decide) rfl (c0) (cA) (fun R t0 H0 hTT hHH hR => M_reg.2 ?_) (fun g n' nc z hnc => ?_); rotate_left; (obtain ⟨nk, nt, nm, nn, nkids, na, rfl, hN⟩ := hnc.open; have hS := hN.1; have hDp := hN.2.1; refine nA ?_); rotate_left; refine nA ?_)) <;> exact Am2
 |((refine M_cNd2 158 20006 6007 (by decide) rfl (c0) (cA) (fun R t0 H0 hTT hHH hR => M_reg.2 ?_) (fun g n' nc z hnc => ?_); rotate_left; (obtain ⟨nk, nt, nm, nn, nkids, na, rfl, hN⟩ := hnc.open; have hS := hN.1; have hDp := hN.2.1; refine nA ?_); rotate_left; refine nA ?_)) <;> exact Am2
 |((refine hR _ _ _ _ _ (fun i hi => by (simp only [put]; (repeat rw [if_neg (by omega)]))) (cA) (cA) (fun x h1 h2 => by simp only [Heap.put, if_neg h1, if_neg h2]) (by first | assumption | exact Nd_mk (NdF_of ⟨hS, hDp, hLn, hMem⟩ (by have := l_body.1.len; omega) (by omega)) (by intro h; omega) (by intro h; omega)))) <;> exact Am2
 |((have next := nx; unfold Hid at next; clear hE; generalize hzs : ys ++ _ = zs at hgr; refine next (n - 1) (by omega) _ ⟨i + 1, _, v', zs, so, sf, _, _, _, by omega, cA, cA, cA, cA, cA, cA, cA, cA, by refine nA ?_; rw [wrap_i64 (by omega) (by omega)]; first | rfl | (congr 1; omega), cA, cA, cA, cA, cA, hgr, ?_, by rw [← hzs]; simp [hyl], fun h => (show b = true → fine = true from hFh) (hF h)⟩; (intro y hy; rw [← hzs] at hy; rcases List.mem_append.1 hy with hy | hy; (focus exact hys y hy); (simp only [List.mem_cons, List.not_mem_nil, or_false] at hy; subst hy; first | assumption | (simp [Nd_cells, NdF_nils, NdF_sl, *]; first | done | fail))))) <;> exact Am2
 |exact kH
 |fail) : p := h
theorem kB2 (h : p := by
 first
 |(refine MC_mt (r30 _) cA dM hF ?_; rintro _ b1 ⟨rfl, hnd⟩ hmono hF; exact kT2)
 |(refine MC_mt (ih.b (by assumption)) cA dM hF ?_; exact kMN2)
 |(refine MC_mt (ih.e (by assumption)) cA dM hF ?_; exact kMN2)
 |(refine MC_mt (r14 ih (by assumption)) cA dM hF ?_; exact kML2)
 |(refine MC_pure (h73 (show NdL (els nkids).length nkids from ⟨hN.1, hN.2.1, rfl, hN.2.2.2.1⟩) hN.2.2.1) pE dM ?_; rintro _ ⟨b3, rfl⟩; exact kT2)
 |(refine M_push (A := [15007, 18008]) (ys := ys) (v := v) (cA) (cA) (cA) (cA) (hgw.frame (by intro b hb; simp only [List.mem_cons, List.not_mem_nil, or_false] at hb; rcases hb with rfl | rfl <;> exact cA)) (by simp) (by simp) (by intro b hb; simp at hb ⊢; omega) (by intro z hz; simp only [List.mem_cons, List.not_mem_nil, or_false] at hz; first | (subst hz; exact ⟨rfl, cA⟩) | (rcases hz with rfl | rfl <;> exact ⟨rfl, cA⟩)) (by simp) (by simp only [List.length_cons, List.length_nil]; omega) (by decide) (by intro f1 f2 f3; first | rfl | simp [closeOk, push, feetOk, apartL]) (fun t' H' n' v' ht' hO' hgr hf => ?_); have e0_n := hf 0 (by simp) (by simp) (by decide); have e1_n := hf 1 (by simp) (by simp) (by decide); have e2_n := hf 2 (by simp) (by simp) (by decide); have e6007_n := hf 6007 (by simp) (by simp) (by decide); (try refine nA ?_)) <;> exact Am2
 |(refine MIX_Nre hg1 (NdF_of ⟨hS, hDp, hLn, hMem⟩ (by have := l_body.1.len; omega) (by omega) : NdF 1 r) (by omega) ?_; refine nA ?_) <;> exact Am2
 |(refine MIX_Nre hg2 hNa (by omega) ?_; refine nA ?_) <;> exact Am2
 |(refine MIX_N (k := 25) hNa (by omega) (by have := hNa.2.2.2.2 (.inr rfl); omega) (fun y hy hmem hg2 => ?_); obtain ⟨bk, bt, bm, bn, bkids, ba, rfl, hNb⟩ := hy.open; have := hNb.2.1; refine nA ?_) <;> exact Am2
 |(refine MIX_N (k := 1) (NdF_of ⟨hS, hDp, hLn, hMem⟩ (by have := l_body.1.len; omega) (by omega)) (by omega) (by omega) (fun y hy hmem hg1 => ?_); obtain ⟨ak, akt, akm, an, akids, aa, rfl, hNa⟩ := hy.open; have := hNa.2.1; refine nA ?_) <;> exact Am2
 |fail) : p := h
theorem kZ2 (h : p := by
 first
 |skip
  all_goals first
   |(refine ⟨by simpa using fun h : 0 ∈ gi v => absurd (g4 0 h) (by simp), _, rfl, fun h => (show b = true → fine = true from hFh) (hF h), ?_⟩; have hN1 : Nd [.int .i64 1, .str (bs []), .str (bs []), .int .u64 0, gv v ys, .int .i64 0] := Nd_mk ⟨g1, g2, by rw [g3]; omega, fun y hy => hys y (by rw [g3] at hy; exact hy), fun h => absurd h (by omega)⟩ (by intro h; omega) (by intro h; omega); clear hE; refine NdX_agg.2 (Nd_mk (NdF_sl.2 ?_) (by intro h; omega) (by intro h; omega)); simp [*]; done)
   |skip
  done
 |fail) : p := h
end QFq2
namespace QFq1
theorem kA1 (h : p := by
 first
 |((refine ⟨_, rfl, ?_, ?_⟩; (first | exact hF | exact fun _ => trivial | exact fun h => absurd h Bool.false_ne_true); (simp [NdX_agg, Nd_cells, Nd_num, NdF_nils, NdF_sl, *]; first | done | fail))) <;> exact Am1
 |((refine M_cU 14 2 rfl (fun R t0 H0 hTT hHH hR => M_reg.2 ?_) (fun z g n' => ?_) <;> (try refine nA ?_))) <;> exact Am1
 |((refine M_cU 20 2 rfl (fun R t0 H0 hTT hHH hR => M_reg.2 ?_) (fun z g n' => ?_) <;> (try refine nA ?_))) <;> exact Am1
 |(exact hR _ _ _ (by ((repeat' (first | exact Low.refl | refine Low.put (by decide) ?_)); first | done | fail)) (cA))
 |exact kH
 |(refine M_regm (e := e) 26 rfl rfl hF (fun R t0 H0 hTT hHH hR => M_reg.2 ?_) (fun c g n' b1 hF => ?_) <;> (try refine nA ?_) <;> exact Am1)
 |fail) : p := h
theorem kB1 (h : p := by
 first
 |(refine MC_mt (r30 _) cA dM hF ?_; rintro _ b1 ⟨rfl, hnd⟩ hmono hF; exact kT1)
 |(refine MC_mt (r48 B _) cA dM hF ?_; rintro _ b1 ⟨s, rfl, hs48⟩ hmono hF; exact kT1)
 |fail) : p := h
theorem kZ1 (h : p := by
 first
 |skip
  have hB := l_args.1.len
  have hFh : Hid (_ → fine = true) := hF
  clear hF
  refine M_loop (fun n s' => ∃ (i : Nat) (b : Bool) (v : PV) (ys : List (List PV)) (so sf : Nat) (z z2 : Int) (s0 : ByteArray), i + n = (els args).length ∧ s'.t 0 = .ptr 0 0 0 ∧ s'.t 2 = .int .u64 z2 ∧ s'.t 4 = .ptr 1 1 0 ∧ s'.t 6 = .ptr 2 2 0 ∧ s'.t 7 = .ptr 6007 sf 0 ∧ s'.t 8 = .ptr 7002 so 0 ∧ s'.t 44 = args ∧ s'.t 45 = .int .i64 (els args).length ∧ s'.t 46 = .int .i64 i ∧
   s'.H 0 = some ⟨e, 0, [.bool b], 0⟩ ∧ s'.H 1 = some ⟨121, 1, [.int .i64 name, .int .i64 flags, args, body], 0⟩ ∧ s'.H 2 = some ⟨45, 2, zN, 0⟩ ∧ s'.H 6007 = some ⟨45, sf, [.int .i64 40, .str s0, .str (bs []), .int .u64 z, .nils, .int .i64 0], 0⟩ ∧ s'.H 7002 = some ⟨45, so, [.int .i64 1, .str (bs []), .str (bs []), .int .u64 0, v, .int .i64 0], 0⟩ ∧
   Grow [15007, 18008] s'.H 45 6 v ys ∧ (∀ y, y ∈ ys → Nd y) ∧ ys.length = i ∧ (b = true → fine = true)) ?_ (n := (els args).length)
   ⟨0, _, _, [], _, _, _, _, _, by simp, z0, by first | (exact z0) | (exact zA) | (exact zA), z0, z0, by first | (exact z0) | (exact zA) | (exact zA), by first | (exact z0) | (exact zA) | (exact zA), z0, z0, z0, z0, z0, z0, z0, z0, Grow.nil, by simp, rfl, hFh⟩
  rintro n ⟨t, H, k⟩ ⟨i, b, v, ys, so, sf, z, z2, s0, hi, h0, h2, h4, h6, h7, h8, h44, h45, h46', e0, e1, e2, e6, e7, hgw, hys, hyl, hFb⟩ next
  simp only at h0 h2 h4 h6 h7 h8 h44 h45 h46' e0 e1 e2 e6 e7 hgw
  clear hFh
  have hFh : Hid (b = true → fine = true) := hFb
  clear hFb
  have hF : b = true → b = true := id
  have hE := fun (n : Nat) (H' : Heap) (q1 : H' 15007 = H 15007) (q2 : H' 18008 = H 18008) => (Grow.settleE (n := n) (hgw.frame (H' := H') (by intro b hb; simp only [List.mem_cons, List.not_mem_nil, or_false] at hb; rcases hb with rfl | rfl; exact q1; exact q2)))
  obtain ⟨g1, g2, g3, g4⟩ := hgw.gv
  refine n1 (j h0 (j h2 (j h4 (j h6 (j h7 (j h8 (j h44 (j h45 (j h46' (j e0 (j e1 (j e2 (j e6 e7))))))))))))) ?_
  have nx : Hid _ := next
  clear next
  open QFq2 in exact Am2
  done
 |fail) : p := h
end QFq1
theorem r46 {F : Int → ByteArray} (B : Base X G F) (h73 : ∀ {n : Nat} {v : PV}, NdL n v → n ≤ 4194304 → Pure Tab X G 73 [v] (fun r => ∃ b : Bool, r = .bool b)) {m : Nat} {x : List PV} (ih : IHf X G m) (hx : FuncC x) (hm : SizeOf.sizeOf x ≤ m) (marks : Int) : Mt Tab X G 46 [.agg x, .int .u64 marks] (fun _ => NdX) := by
 intro e fine
 have hF : fine = true → fine = true := id
 obtain ⟨name, flags, args, body, rfl, l_args, l_body⟩ := hx.open (hm)
 have := l_args.1; have := l_args.2.1; have := l_body.1; have := l_body.2.1
 refine Fn_of T46 (by simp) ?_
 refine nA ?_
 open QFq1 in exact Am1
end
end Go.Pi
end
