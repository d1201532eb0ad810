import Derived.Test.YtpnkedaceaodbaaGreatDoorP08
import Derived.Test.YtpnkedaceaodbaaGreatDoorP09
import Derived.Test.YtpnkedaceaodbaaGreatDoorP11
/- Part of the proof. -/
set_option linter.all false
set_option maxHeartbeats 0
set_option maxRecDepth 100000
section
open Go Go.Pi
namespace Go.Pi
variable {p q a : Prop}
section
variable {X : CallF} {G : Nat → PV}
def IsBlk (y : List PV) : Prop := ∃ l : List PV, y = .int .i64 7 :: l
def TryOk (flags : Int) (kids decls : PV) : Prop :=
 (tryK (bits .and .i64 flags 4) (bits .and .i64 flags 8) (els kids).length (els decls).length ∧ (∀ y, y ∈ els kids → IsBlk y)) ∧ (∀ y, y ∈ els decls → ∃ b0 b1 b2 b3 v : PV, y = [b0, b1, b2, b3, v] ∧ (els v).length = 0) ∧ ∀ y, y ∈ els decls → OkD y
namespace QSf1
theorem fB1 (x : a) (g : q) (h : a → q → p := by (intro x g; exact n1 (j x (j h1 (j h2 (j h5 (j hI (j e1 (j l_str.1 (j l_str.2.1 (j l_exprs.1 (j l_exprs.2.1 (j l_kids.1 (j l_kids.2.1 (j l_decls.1 (j l_decls.2.1 (j l_cases.1 (j l_cases.2.1 (j l_fns.1 (j l_fns.2.1 (j l_classes.1 (j l_classes.2.1 (j c4 (j c8 (j hTT hHH))))))))))))))))))))))) g)) : p := h x g
theorem kA1 (h : p := by
 first
 |(refine next (n - 1) (by omega) _ ⟨i + 1, by omega, z1 h1, z1 h2, z1 h5, by refine s1 hI ?_; rw [wrap_i64 (by omega) (by omega)]; rfl, z1 e1, Upto.succ hU (by have h9 := ‹(els kids)[((_ : Nat) : Int).toNat]? = some _›; simpa using h9) ⟨_, rfl⟩⟩)
 |fail) : p := h
theorem kB1 (h : p := by
 first
 |(refine MC_pure (s35 _ _ _ ih ‹_›) pE dE1 ?_; exact kD1)
 |exact ⟨_, rfl, fun h => absurd h Bool.false_ne_true⟩
 |((refine ⟨_, rfl, fun hq => ?_⟩; (try simp only [decide_eq_true_eq] at hq); first | exact (by unfold TryOk tryK; refine ⟨⟨by omega, hU.all (by omega)⟩, ?_, by assumption⟩; first | exact none_all (by omega) | exact one_all (by omega) (by have h9 := ‹(els decls)[_]? = some _›; simpa using h9) ⟨_, _, _, _, _, rfl, by omega⟩) | done | fail)) <;> exact Ae1
 |fail) : p := h
end QSf1
namespace QSf2
theorem fB1 (x : a) (g : q) (h : a → q → p := by (intro x g; exact n1 (j x (j h1 (j h2 (j h5 (j hI (j e1 (j l_str.1 (j l_str.2.1 (j l_exprs.1 (j l_exprs.2.1 (j l_kids.1 (j l_kids.2.1 (j l_decls.1 (j l_decls.2.1 (j l_cases.1 (j l_cases.2.1 (j l_fns.1 (j l_fns.2.1 (j l_classes.1 (j l_classes.2.1 (j c4 (j c8 (j hTT hHH))))))))))))))))))))))) g)) : p := h x g
theorem kA1 (h : p := by
 first
 |(refine next (n - 1) (by omega) _ ⟨i + 1, by omega, z1 h1, z1 h2, z1 h5, by refine s1 hI ?_; rw [wrap_i64 (by omega) (by omega)]; rfl, z1 e1, Upto.succ hU (by have h9 := ‹(els kids)[((_ : Nat) : Int).toNat]? = some _›; simpa using h9) ⟨_, rfl⟩⟩)
 |fail) : p := h
theorem kB1 (h : p := by
 first
 |(refine MC_pure (s35 _ _ _ ih ‹_›) pE dE1 ?_; exact kD1)
 |exact ⟨_, rfl, fun h => absurd h Bool.false_ne_true⟩
 |((refine ⟨_, rfl, fun hq => ?_⟩; (try simp only [decide_eq_true_eq] at hq); first | exact (by unfold TryOk tryK; refine ⟨⟨by omega, hU.all (by omega)⟩, ?_, by assumption⟩; first | exact none_all (by omega) | exact one_all (by omega) (by have h9 := ‹(els decls)[_]? = some _›; simpa using h9) ⟨_, _, _, _, _, rfl, by omega⟩) | done | fail)) <;> exact Ae1
 |fail) : p := h
end QSf2
namespace QSf3
theorem fB1 (x : a) (g : q) (h : a → q → p := by (intro x g; exact n1 (j x (j h1 (j h2 (j h5 (j hI (j e1 (j l_str.1 (j l_str.2.1 (j l_exprs.1 (j l_exprs.2.1 (j l_kids.1 (j l_kids.2.1 (j l_decls.1 (j l_decls.2.1 (j l_cases.1 (j l_cases.2.1 (j l_fns.1 (j l_fns.2.1 (j l_classes.1 (j l_classes.2.1 (j c4 (j c8 (j hTT hHH))))))))))))))))))))))) g)) : p := h x g
theorem kA1 (h : p := by
 first
 |(refine next (n - 1) (by omega) _ ⟨i + 1, by omega, z1 h1, z1 h2, z1 h5, by refine s1 hI ?_; rw [wrap_i64 (by omega) (by omega)]; rfl, z1 e1, Upto.succ hU (by have h9 := ‹(els kids)[((_ : Nat) : Int).toNat]? = some _›; simpa using h9) ⟨_, rfl⟩⟩)
 |fail) : p := h
theorem kB1 (h : p := by
 first
 |(refine MC_pure (s35 _ _ _ ih ‹_›) pE dE1 ?_; exact kD1)
 |exact ⟨_, rfl, fun h => absurd h Bool.false_ne_true⟩
 |((refine ⟨_, rfl, fun hq => ?_⟩; (try simp only [decide_eq_true_eq] at hq); first | exact (by unfold TryOk tryK; refine ⟨⟨by omega, hU.all (by omega)⟩, ?_, by assumption⟩; first | exact none_all (by omega) | exact one_all (by omega) (by have h9 := ‹(els decls)[_]? = some _›; simpa using h9) ⟨_, _, _, _, _, rfl, by omega⟩) | done | fail)) <;> exact Ae1
 |fail) : p := h
end QSf3
namespace QSf4
theorem fB1 (x : a) (g : q) (h : a → q → p := by (intro x g; exact n1 (j x (j h1 (j h2 (j h5 (j hI (j e1 (j l_str.1 (j l_str.2.1 (j l_exprs.1 (j l_exprs.2.1 (j l_kids.1 (j l_kids.2.1 (j l_decls.1 (j l_decls.2.1 (j l_cases.1 (j l_cases.2.1 (j l_fns.1 (j l_fns.2.1 (j l_classes.1 (j l_classes.2.1 (j c4 (j c8 (j hTT hHH))))))))))))))))))))))) g)) : p := h x g
theorem kA1 (h : p := by
 first
 |(refine next (n - 1) (by omega) _ ⟨i + 1, by omega, z1 h1, z1 h2, z1 h5, by refine s1 hI ?_; rw [wrap_i64 (by omega) (by omega)]; rfl, z1 e1, Upto.succ hU (by have h9 := ‹(els kids)[((_ : Nat) : Int).toNat]? = some _›; simpa using h9) ⟨_, rfl⟩⟩)
 |fail) : p := h
theorem kB1 (h : p := by
 first
 |(refine MC_pure (s35 _ _ _ ih ‹_›) pE dE1 ?_; exact kD1)
 |exact ⟨_, rfl, fun h => absurd h Bool.false_ne_true⟩
 |((refine ⟨_, rfl, fun hq => ?_⟩; (try simp only [decide_eq_true_eq] at hq); first | exact (by unfold TryOk tryK; refine ⟨⟨by omega, hU.all (by omega)⟩, ?_, by assumption⟩; first | exact none_all (by omega) | exact one_all (by omega) (by have h9 := ‹(els decls)[_]? = some _›; simpa using h9) ⟨_, _, _, _, _, rfl, by omega⟩) | done | fail)) <;> exact Ae1
 |fail) : p := h
end QSf4
theorem s38 {m : Nat} (deep : Int) (ih : IHs X G m) (kind op ref flags : Int) (str exprs kids decls cases fns classes : PV) (l_kids : SlP (SZ m) kids) (l_decls : SlP (DZ m) decls) (hx : StmtC [.int .i64 kind, .int .i64 op, .int .i64 ref, .int .i64 flags, str, exprs, kids, decls, cases, fns, classes])
  (hm : SizeOf.sizeOf [PV.int .i64 kind, .int .i64 op, .int .i64 ref, .int .i64 flags, str, exprs, kids, decls, cases, fns, classes] ≤ m) : Pure Tab X G 38 [.agg [.int .i64 kind, .int .i64 op, .int .i64 ref, .int .i64 flags, str, exprs, kids, decls, cases, fns, classes], .int .i64 deep] (OkR (TryOk flags kids decls)) := by
 have hw1 : IntKind.i64.wrap (1 + 1) = 2 := by decide
 have hw2 : IntKind.i64.wrap (2 + 1) = 3 := by decide
 obtain ⟨kind', op', ref', flags', str', exprs', kids', decls', cases', fns', classes', he, l_str, l_exprs, l_kids0, l_decls0, l_cases, l_fns, l_classes⟩ := hx.open hm
 cases he
 by_cases c4 : bits .and .i64 flags 4 = 0
 ·by_cases c8 : bits .and .i64 flags 8 = 0
  ·skip
   refine Fn_of T38 (by simp) ?_
   refine s1 (j l_str.1 (j l_str.2.1 (j l_exprs.1 (j l_exprs.2.1 (j l_kids.1 (j l_kids.2.1 (j l_decls.1 (j l_decls.2.1 (j l_cases.1 (j l_cases.2.1 (j l_fns.1 (j l_fns.2.1 (j l_classes.1 (j l_classes.2.1 (j c4 (j c8 (j hw1 hw2))))))))))))))))) ?_
   have hB := l_kids.1.len
   refine M_loop (fun n s => ∃ i : Nat, i + n = (els kids).length ∧ s.t 1 = .int .i64 deep ∧ s.t 2 = .ptr 1 1 0 ∧ s.t 5 = .int .i64 1 ∧ s.t 6 = .int .i64 i ∧ s.H 1 = some ⟨37, 1, [.int .i64 kind, .int .i64 op, .int .i64 ref, .int .i64 flags, str, exprs, kids, decls, cases, fns, classes], 0⟩ ∧ Upto IsBlk kids i) ?_ (n := (els kids).length) ⟨0, by simp, z1 (j l_str.1 (j l_str.2.1 (j l_exprs.1 (j l_exprs.2.1 (j l_kids.1 (j l_kids.2.1 (j l_decls.1 (j l_decls.2.1 (j l_cases.1 (j l_cases.2.1 (j l_fns.1 (j l_fns.2.1 (j l_classes.1 (j l_classes.2.1 (j hw1 hw2))))))))))))))), z1 (j l_str.1 (j l_str.2.1 (j l_exprs.1 (j l_exprs.2.1 (j l_kids.1 (j l_kids.2.1 (j l_decls.1 (j l_decls.2.1 (j l_cases.1 (j l_cases.2.1 (j l_fns.1 (j l_fns.2.1 (j l_classes.1 (j l_classes.2.1 (j hw1 hw2))))))))))))))), z1 (j l_str.1 (j l_str.2.1 (j l_exprs.1 (j l_exprs.2.1 (j l_kids.1 (j l_kids.2.1 (j l_decls.1 (j l_decls.2.1 (j l_cases.1 (j l_cases.2.1 (j l_fns.1 (j l_fns.2.1 (j l_classes.1 (j l_classes.2.1 (j hw1 hw2))))))))))))))), z1 (j l_str.1 (j l_str.2.1 (j l_exprs.1 (j l_exprs.2.1 (j l_kids.1 (j l_kids.2.1 (j l_decls.1 (j l_decls.2.1 (j l_cases.1 (j l_cases.2.1 (j l_fns.1 (j l_fns.2.1 (j l_classes.1 (j l_classes.2.1 (j hw1 hw2))))))))))))))), z1 (j l_str.1 (j l_str.2.1 (j l_exprs.1 (j l_exprs.2.1 (j l_kids.1 (j l_kids.2.1 (j l_decls.1 (j l_decls.2.1 (j l_cases.1 (j l_cases.2.1 (j l_fns.1 (j l_fns.2.1 (j l_classes.1 (j l_classes.2.1 (j hw1 hw2))))))))))))))), Upto.zero⟩
   rintro n ⟨t, H, k⟩ ⟨i, hi, h1, h2, h5, hI, e1, hU⟩ next
   simp only at h1 h2 h5 hI e1
   refine n1 (j h1 (j h2 (j h5 (j hI (j e1 (j l_str.1 (j l_str.2.1 (j l_exprs.1 (j l_exprs.2.1 (j l_kids.1 (j l_kids.2.1 (j l_decls.1 (j l_decls.2.1 (j l_cases.1 (j l_cases.2.1 (j l_fns.1 (j l_fns.2.1 (j l_classes.1 l_classes.2.1)))))))))))))))))) ?_
   open QSf1 in exact Ae1
  ·skip
   refine Fn_of T38 (by simp) ?_
   refine s1 (j l_str.1 (j l_str.2.1 (j l_exprs.1 (j l_exprs.2.1 (j l_kids.1 (j l_kids.2.1 (j l_decls.1 (j l_decls.2.1 (j l_cases.1 (j l_cases.2.1 (j l_fns.1 (j l_fns.2.1 (j l_classes.1 (j l_classes.2.1 (j c4 (j c8 (j hw1 hw2))))))))))))))))) ?_
   have hB := l_kids.1.len
   refine M_loop (fun n s => ∃ i : Nat, i + n = (els kids).length ∧ s.t 1 = .int .i64 deep ∧ s.t 2 = .ptr 1 1 0 ∧ s.t 5 = .int .i64 2 ∧ s.t 6 = .int .i64 i ∧ s.H 1 = some ⟨37, 1, [.int .i64 kind, .int .i64 op, .int .i64 ref, .int .i64 flags, str, exprs, kids, decls, cases, fns, classes], 0⟩ ∧ Upto IsBlk kids i) ?_ (n := (els kids).length) ⟨0, by simp, z1 (j l_str.1 (j l_str.2.1 (j l_exprs.1 (j l_exprs.2.1 (j l_kids.1 (j l_kids.2.1 (j l_decls.1 (j l_decls.2.1 (j l_cases.1 (j l_cases.2.1 (j l_fns.1 (j l_fns.2.1 (j l_classes.1 (j l_classes.2.1 (j hw1 hw2))))))))))))))), z1 (j l_str.1 (j l_str.2.1 (j l_exprs.1 (j l_exprs.2.1 (j l_kids.1 (j l_kids.2.1 (j l_decls.1 (j l_decls.2.1 (j l_cases.1 (j l_cases.2.1 (j l_fns.1 (j l_fns.2.1 (j l_classes.1 (j l_classes.2.1 (j hw1 hw2))))))))))))))), z1 (j l_str.1 (j l_str.2.1 (j l_exprs.1 (j l_exprs.2.1 (j l_kids.1 (j l_kids.2.1 (j l_decls.1 (j l_decls.2.1 (j l_cases.1 (j l_cases.2.1 (j l_fns.1 (j l_fns.2.1 (j l_classes.1 (j l_classes.2.1 (j hw1 hw2))))))))))))))), z1 (j l_str.1 (j l_str.2.1 (j l_exprs.1 (j l_exprs.2.1 (j l_kids.1 (j l_kids.2.1 (j l_decls.1 (j l_decls.2.1 (j l_cases.1 (j l_cases.2.1 (j l_fns.1 (j l_fns.2.1 (j l_classes.1 (j l_classes.2.1 (j hw1 hw2))))))))))))))), z1 (j l_str.1 (j l_str.2.1 (j l_exprs.1 (j l_exprs.2.1 (j l_kids.1 (j l_kids.2.1 (j l_decls.1 (j l_decls.2.1 (j l_cases.1 (j l_cases.2.1 (j l_fns.1 (j l_fns.2.1 (j l_classes.1 (j l_classes.2.1 (j hw1 hw2))))))))))))))), Upto.zero⟩
   rintro n ⟨t, H, k⟩ ⟨i, hi, h1, h2, h5, hI, e1, hU⟩ next
   simp only at h1 h2 h5 hI e1
   refine n1 (j h1 (j h2 (j h5 (j hI (j e1 (j l_str.1 (j l_str.2.1 (j l_exprs.1 (j l_exprs.2.1 (j l_kids.1 (j l_kids.2.1 (j l_decls.1 (j l_decls.2.1 (j l_cases.1 (j l_cases.2.1 (j l_fns.1 (j l_fns.2.1 (j l_classes.1 l_classes.2.1)))))))))))))))))) ?_
   open QSf2 in exact Ae1
 ·by_cases c8 : bits .and .i64 flags 8 = 0
  ·skip
   refine Fn_of T38 (by simp) ?_
   refine s1 (j l_str.1 (j l_str.2.1 (j l_exprs.1 (j l_exprs.2.1 (j l_kids.1 (j l_kids.2.1 (j l_decls.1 (j l_decls.2.1 (j l_cases.1 (j l_cases.2.1 (j l_fns.1 (j l_fns.2.1 (j l_classes.1 (j l_classes.2.1 (j c4 (j c8 (j hw1 hw2))))))))))))))))) ?_
   have hB := l_kids.1.len
   refine M_loop (fun n s => ∃ i : Nat, i + n = (els kids).length ∧ s.t 1 = .int .i64 deep ∧ s.t 2 = .ptr 1 1 0 ∧ s.t 5 = .int .i64 2 ∧ s.t 6 = .int .i64 i ∧ s.H 1 = some ⟨37, 1, [.int .i64 kind, .int .i64 op, .int .i64 ref, .int .i64 flags, str, exprs, kids, decls, cases, fns, classes], 0⟩ ∧ Upto IsBlk kids i) ?_ (n := (els kids).length) ⟨0, by simp, z1 (j l_str.1 (j l_str.2.1 (j l_exprs.1 (j l_exprs.2.1 (j l_kids.1 (j l_kids.2.1 (j l_decls.1 (j l_decls.2.1 (j l_cases.1 (j l_cases.2.1 (j l_fns.1 (j l_fns.2.1 (j l_classes.1 (j l_classes.2.1 (j hw1 hw2))))))))))))))), z1 (j l_str.1 (j l_str.2.1 (j l_exprs.1 (j l_exprs.2.1 (j l_kids.1 (j l_kids.2.1 (j l_decls.1 (j l_decls.2.1 (j l_cases.1 (j l_cases.2.1 (j l_fns.1 (j l_fns.2.1 (j l_classes.1 (j l_classes.2.1 (j hw1 hw2))))))))))))))), z1 (j l_str.1 (j l_str.2.1 (j l_exprs.1 (j l_exprs.2.1 (j l_kids.1 (j l_kids.2.1 (j l_decls.1 (j l_decls.2.1 (j l_cases.1 (j l_cases.2.1 (j l_fns.1 (j l_fns.2.1 (j l_classes.1 (j l_classes.2.1 (j hw1 hw2))))))))))))))), z1 (j l_str.1 (j l_str.2.1 (j l_exprs.1 (j l_exprs.2.1 (j l_kids.1 (j l_kids.2.1 (j l_decls.1 (j l_decls.2.1 (j l_cases.1 (j l_cases.2.1 (j l_fns.1 (j l_fns.2.1 (j l_classes.1 (j l_classes.2.1 (j hw1 hw2))))))))))))))), z1 (j l_str.1 (j l_str.2.1 (j l_exprs.1 (j l_exprs.2.1 (j l_kids.1 (j l_kids.2.1 (j l_decls.1 (j l_decls.2.1 (j l_cases.1 (j l_cases.2.1 (j l_fns.1 (j l_fns.2.1 (j l_classes.1 (j l_classes.2.1 (j hw1 hw2))))))))))))))), Upto.zero⟩
   rintro n ⟨t, H, k⟩ ⟨i, hi, h1, h2, h5, hI, e1, hU⟩ next
   simp only at h1 h2 h5 hI e1
   refine n1 (j h1 (j h2 (j h5 (j hI (j e1 (j l_str.1 (j l_str.2.1 (j l_exprs.1 (j l_exprs.2.1 (j l_kids.1 (j l_kids.2.1 (j l_decls.1 (j l_decls.2.1 (j l_cases.1 (j l_cases.2.1 (j l_fns.1 (j l_fns.2.1 (j l_classes.1 l_classes.2.1)))))))))))))))))) ?_
   open QSf3 in exact Ae1
  ·skip
   refine Fn_of T38 (by simp) ?_
   refine s1 (j l_str.1 (j l_str.2.1 (j l_exprs.1 (j l_exprs.2.1 (j l_kids.1 (j l_kids.2.1 (j l_decls.1 (j l_decls.2.1 (j l_cases.1 (j l_cases.2.1 (j l_fns.1 (j l_fns.2.1 (j l_classes.1 (j l_classes.2.1 (j c4 (j c8 (j hw1 hw2))))))))))))))))) ?_
   have hB := l_kids.1.len
   refine M_loop (fun n s => ∃ i : Nat, i + n = (els kids).length ∧ s.t 1 = .int .i64 deep ∧ s.t 2 = .ptr 1 1 0 ∧ s.t 5 = .int .i64 3 ∧ s.t 6 = .int .i64 i ∧ s.H 1 = some ⟨37, 1, [.int .i64 kind, .int .i64 op, .int .i64 ref, .int .i64 flags, str, exprs, kids, decls, cases, fns, classes], 0⟩ ∧ Upto IsBlk kids i) ?_ (n := (els kids).length) ⟨0, by simp, z1 (j l_str.1 (j l_str.2.1 (j l_exprs.1 (j l_exprs.2.1 (j l_kids.1 (j l_kids.2.1 (j l_decls.1 (j l_decls.2.1 (j l_cases.1 (j l_cases.2.1 (j l_fns.1 (j l_fns.2.1 (j l_classes.1 (j l_classes.2.1 (j hw1 hw2))))))))))))))), z1 (j l_str.1 (j l_str.2.1 (j l_exprs.1 (j l_exprs.2.1 (j l_kids.1 (j l_kids.2.1 (j l_decls.1 (j l_decls.2.1 (j l_cases.1 (j l_cases.2.1 (j l_fns.1 (j l_fns.2.1 (j l_classes.1 (j l_classes.2.1 (j hw1 hw2))))))))))))))), z1 (j l_str.1 (j l_str.2.1 (j l_exprs.1 (j l_exprs.2.1 (j l_kids.1 (j l_kids.2.1 (j l_decls.1 (j l_decls.2.1 (j l_cases.1 (j l_cases.2.1 (j l_fns.1 (j l_fns.2.1 (j l_classes.1 (j l_classes.2.1 (j hw1 hw2))))))))))))))), z1 (j l_str.1 (j l_str.2.1 (j l_exprs.1 (j l_exprs.2.1 (j l_kids.1 (j l_kids.2.1 (j l_decls.1 (j l_decls.2.1 (j l_cases.1 (j l_cases.2.1 (j l_fns.1 (j l_fns.2.1 (j l_classes.1 (j l_classes.2.1 (j hw1 hw2))))))))))))))), z1 (j l_str.1 (j l_str.2.1 (j l_exprs.1 (j l_exprs.2.1 (j l_kids.1 (j l_kids.2.1 (j l_decls.1 (j l_decls.2.1 (j l_cases.1 (j l_cases.2.1 (j l_fns.1 (j l_fns.2.1 (j l_classes.1 (j l_classes.2.1 (j hw1 hw2))))))))))))))), Upto.zero⟩
   rintro n ⟨t, H, k⟩ ⟨i, hi, h1, h2, h5, hI, e1, hU⟩ next
   simp only at h1 h2 h5 hI e1
   refine n1 (j h1 (j h2 (j h5 (j hI (j e1 (j l_str.1 (j l_str.2.1 (j l_exprs.1 (j l_exprs.2.1 (j l_kids.1 (j l_kids.2.1 (j l_decls.1 (j l_decls.2.1 (j l_cases.1 (j l_cases.2.1 (j l_fns.1 (j l_fns.2.1 (j l_classes.1 l_classes.2.1)))))))))))))))))) ?_
   open QSf4 in exact Ae1
end
end Go.Pi
end
section
open Go Go.Pi
namespace Go.Pi
variable {p q a : Prop}
section
variable {X : CallF} {G : Nat → PV}
theorem all_fn {v : PV} {n : Int} {l : List PV} (h1 : ((els v).length : Int) = 1) (hg : (els v)[(0 : Int).toNat]? = some (.int .i64 n :: l)) (hn : 0 ≤ n) : (els v).length = 1 ∧ ∀ y, y ∈ els v → ∃ (n : Int) (l : List PV), y = .int .i64 n :: l ∧ 0 ≤ n :=
 ⟨by omega, one_all (by omega) (by simpa using hg) ⟨_, _, rfl, hn⟩⟩
theorem all_one {P : List PV → Prop} {v : PV} {c : List PV} (h1 : ((els v).length : Int) = 1) (hg : (els v)[(0 : Int).toNat]? = some c) (hp : P c) : ∀ y, y ∈ els v → P y := one_all (by omega) (by simpa using hg) hp
def kOf2 : List PV → Int
 |.int _ k :: _ => k
 |_ => -1
abbrev P20 (X : CallF) (G : Nat → PV) (K : Int) : Prop := ∀ {m : Nat} {x : List PV} (deep : Int), IHs X G m → StmtC x → SizeOf.sizeOf x ≤ m → kOf2 x = K → Pure Tab X G 20 [.agg x, .int .i64 deep] (OkR (OkS x))
namespace QSgA1
theorem fB1 (x : a) (g : q) (h : a → q → p := by (intro x g; exact n1 (j x (j l_str.1 (j l_str.2.1 (j l_exprs.1 (j l_exprs.2.1 (j l_kids.1 (j l_kids.2.1 (j l_decls.1 (j l_decls.2.1 (j l_cases.1 (j l_cases.2.1 (j l_fns.1 (j l_fns.2.1 (j l_classes.1 (j l_classes.2.1 (j hTT hHH)))))))))))))))) g)) : p := h x g
theorem kB1 (h : p := by
 first
 |(refine MC_pure (s40 _) pE dE1 ?_; exact kD1)
 |(refine MC_pure (s34 _ _ ih ‹_›) pE dE1 ?_; exact kD1)
 |(refine MC_pure (s13 _ ih ‹_›) pE dE1 ?_; exact kD1)
 |(refine MC_pure (s35 _ _ _ ih ‹_›) pE dE1 ?_; exact kD1)
 |(refine MC_pure (s36 _ _ ih (‹FZ _ _› : FZ _ _).1 (‹FZ _ _› : FZ _ _).le) pE dE1 ?_; exact kD1)
 |(refine MC_pure (s37 _ ih (‹CZ _ _› : CZ _ _).1 (‹CZ _ _› : CZ _ _).le) pE dE1 ?_; exact kD1)
 |(refine MC_pure (s38 _ ih _ _ _ _ _ _ _ _ _ _ _ l_kids l_decls hx hm) pE dE1 ?_; exact kD1)
 |(refine MC_pure (s39 _ ih ‹_›) pE dE1 ?_; exact kD1)
 |exact ⟨_, rfl, fun h => absurd h Bool.false_ne_true⟩
 |((refine ⟨_, rfl, fun hq => ?_⟩; (try simp only [decide_eq_true_eq] at hq); first | exact .mk _ _ _ _ _ _ _ _ _ _ _ (by unfold stK; omega) (by assumption) (by assumption) (by intro h9; first | omega | assumption) (by intro h9; omega) (by intro h9; first | omega | exact all_fn (by assumption) (by assumption) (by omega)) (by intro h9; first | omega | exact all_one (by assumption) (by assumption) (by assumption)) (by intro h9; first | omega | exact all_fn (by assumption) (by assumption) (by omega)) (by intro h9; first | omega | exact all_one (by assumption) (by assumption) (by assumption)) (by intro h9; first | omega | assumption) (by intro h9; first | omega | exact ⟨hcp.1, hcp.2, hcq⟩) | done | fail)) <;> exact Ae1
 |fail) : p := h
end QSgA1
theorem s20_0 : P20 X G 0 := by
 intro m x deep ih hx hm hk
 have hx0 := hx
 obtain ⟨kind, op, ref, flags, str, exprs, kids, decls, cases, fns, classes, rfl, l_str, l_exprs, l_kids, l_decls, l_cases, l_fns, l_classes⟩ := hx0.open (hm)
 simp only [kOf2] at hk
 subst hk
 refine Fn_of T20 (by simp) ?_
 refine n1 (j l_str.1 (j l_str.2.1 (j l_exprs.1 (j l_exprs.2.1 (j l_kids.1 (j l_kids.2.1 (j l_decls.1 (j l_decls.2.1 (j l_cases.1 (j l_cases.2.1 (j l_fns.1 (j l_fns.2.1 (j l_classes.1 l_classes.2.1))))))))))))) ?_
 open QSgA1 in exact Ae1
theorem s20_7 : P20 X G 7 := by
 intro m x deep ih hx hm hk
 have hx0 := hx
 obtain ⟨kind, op, ref, flags, str, exprs, kids, decls, cases, fns, classes, rfl, l_str, l_exprs, l_kids, l_decls, l_cases, l_fns, l_classes⟩ := hx0.open (hm)
 simp only [kOf2] at hk
 subst hk
 refine Fn_of T20 (by simp) ?_
 refine n1 (j l_str.1 (j l_str.2.1 (j l_exprs.1 (j l_exprs.2.1 (j l_kids.1 (j l_kids.2.1 (j l_decls.1 (j l_decls.2.1 (j l_cases.1 (j l_cases.2.1 (j l_fns.1 (j l_fns.2.1 (j l_classes.1 l_classes.2.1))))))))))))) ?_
 open QSgA1 in exact Ae1
theorem s20_14 : P20 X G 14 := by
 intro m x deep ih hx hm hk
 have hx0 := hx
 obtain ⟨kind, op, ref, flags, str, exprs, kids, decls, cases, fns, classes, rfl, l_str, l_exprs, l_kids, l_decls, l_cases, l_fns, l_classes⟩ := hx0.open (hm)
 simp only [kOf2] at hk
 subst hk
 refine Fn_of T20 (by simp) ?_
 refine n1 (j l_str.1 (j l_str.2.1 (j l_exprs.1 (j l_exprs.2.1 (j l_kids.1 (j l_kids.2.1 (j l_decls.1 (j l_decls.2.1 (j l_cases.1 (j l_cases.2.1 (j l_fns.1 (j l_fns.2.1 (j l_classes.1 l_classes.2.1))))))))))))) ?_
 open QSgA1 in exact Ae1
theorem s20_21 : P20 X G 21 := by
 intro m x deep ih hx hm hk
 have hx0 := hx
 obtain ⟨kind, op, ref, flags, str, exprs, kids, decls, cases, fns, classes, rfl, l_str, l_exprs, l_kids, l_decls, l_cases, l_fns, l_classes⟩ := hx0.open (hm)
 simp only [kOf2] at hk
 subst hk
 refine Fn_of T20 (by simp) ?_
 refine n1 (j l_str.1 (j l_str.2.1 (j l_exprs.1 (j l_exprs.2.1 (j l_kids.1 (j l_kids.2.1 (j l_decls.1 (j l_decls.2.1 (j l_cases.1 (j l_cases.2.1 (j l_fns.1 (j l_fns.2.1 (j l_classes.1 l_classes.2.1))))))))))))) ?_
 open QSgA1 in exact Ae1
end
end Go.Pi
end
section
open Go Go.Pi
namespace Go.Pi
variable {p q a : Prop}
section
variable {X : CallF} {G : Nat → PV}
theorem s20_1 : P20 X G 1 := by
 intro m x deep ih hx hm hk
 have hx0 := hx
 obtain ⟨kind, op, ref, flags, str, exprs, kids, decls, cases, fns, classes, rfl, l_str, l_exprs, l_kids, l_decls, l_cases, l_fns, l_classes⟩ := hx0.open (hm)
 simp only [kOf2] at hk
 subst hk
 refine Fn_of T20 (by simp) ?_
 refine n1 (j l_str.1 (j l_str.2.1 (j l_exprs.1 (j l_exprs.2.1 (j l_kids.1 (j l_kids.2.1 (j l_decls.1 (j l_decls.2.1 (j l_cases.1 (j l_cases.2.1 (j l_fns.1 (j l_fns.2.1 (j l_classes.1 l_classes.2.1))))))))))))) ?_
 open QSgA1 in exact Ae1
theorem s20_8 : P20 X G 8 := by
 intro m x deep ih hx hm hk
 have hx0 := hx
 obtain ⟨kind, op, ref, flags, str, exprs, kids, decls, cases, fns, classes, rfl, l_str, l_exprs, l_kids, l_decls, l_cases, l_fns, l_classes⟩ := hx0.open (hm)
 simp only [kOf2] at hk
 subst hk
 refine Fn_of T20 (by simp) ?_
 refine n1 (j l_str.1 (j l_str.2.1 (j l_exprs.1 (j l_exprs.2.1 (j l_kids.1 (j l_kids.2.1 (j l_decls.1 (j l_decls.2.1 (j l_cases.1 (j l_cases.2.1 (j l_fns.1 (j l_fns.2.1 (j l_classes.1 l_classes.2.1))))))))))))) ?_
 open QSgA1 in exact Ae1
theorem s20_15 : P20 X G 15 := by
 intro m x deep ih hx hm hk
 have hx0 := hx
 obtain ⟨kind, op, ref, flags, str, exprs, kids, decls, cases, fns, classes, rfl, l_str, l_exprs, l_kids, l_decls, l_cases, l_fns, l_classes⟩ := hx0.open (hm)
 simp only [kOf2] at hk
 subst hk
 refine Fn_of T20 (by simp) ?_
 refine n1 (j l_str.1 (j l_str.2.1 (j l_exprs.1 (j l_exprs.2.1 (j l_kids.1 (j l_kids.2.1 (j l_decls.1 (j l_decls.2.1 (j l_cases.1 (j l_cases.2.1 (j l_fns.1 (j l_fns.2.1 (j l_classes.1 l_classes.2.1))))))))))))) ?_
 open QSgA1 in exact Ae1
end
end Go.Pi
end
section
open Go Go.Pi
namespace Go.Pi
variable {p q a : Prop}
section
variable {X : CallF} {G : Nat → PV}
theorem s20_2 : P20 X G 2 := by
 intro m x deep ih hx hm hk
 have hx0 := hx
 obtain ⟨kind, op, ref, flags, str, exprs, kids, decls, cases, fns, classes, rfl, l_str, l_exprs, l_kids, l_decls, l_cases, l_fns, l_classes⟩ := hx0.open (hm)
 simp only [kOf2] at hk
 subst hk
 refine Fn_of T20 (by simp) ?_
 refine n1 (j l_str.1 (j l_str.2.1 (j l_exprs.1 (j l_exprs.2.1 (j l_kids.1 (j l_kids.2.1 (j l_decls.1 (j l_decls.2.1 (j l_cases.1 (j l_cases.2.1 (j l_fns.1 (j l_fns.2.1 (j l_classes.1 l_classes.2.1))))))))))))) ?_
 open QSgA1 in exact Ae1
theorem s20_9 : P20 X G 9 := by
 intro m x deep ih hx hm hk
 have hx0 := hx
 obtain ⟨kind, op, ref, flags, str, exprs, kids, decls, cases, fns, classes, rfl, l_str, l_exprs, l_kids, l_decls, l_cases, l_fns, l_classes⟩ := hx0.open (hm)
 simp only [kOf2] at hk
 subst hk
 refine Fn_of T20 (by simp) ?_
 refine n1 (j l_str.1 (j l_str.2.1 (j l_exprs.1 (j l_exprs.2.1 (j l_kids.1 (j l_kids.2.1 (j l_decls.1 (j l_decls.2.1 (j l_cases.1 (j l_cases.2.1 (j l_fns.1 (j l_fns.2.1 (j l_classes.1 l_classes.2.1))))))))))))) ?_
 open QSgA1 in exact Ae1
theorem s20_16 : P20 X G 16 := by
 intro m x deep ih hx hm hk
 have hx0 := hx
 obtain ⟨kind, op, ref, flags, str, exprs, kids, decls, cases, fns, classes, rfl, l_str, l_exprs, l_kids, l_decls, l_cases, l_fns, l_classes⟩ := hx0.open (hm)
 simp only [kOf2] at hk
 subst hk
 refine Fn_of T20 (by simp) ?_
 refine n1 (j l_str.1 (j l_str.2.1 (j l_exprs.1 (j l_exprs.2.1 (j l_kids.1 (j l_kids.2.1 (j l_decls.1 (j l_decls.2.1 (j l_cases.1 (j l_cases.2.1 (j l_fns.1 (j l_fns.2.1 (j l_classes.1 l_classes.2.1))))))))))))) ?_
 open QSgA1 in exact Ae1
end
end Go.Pi
end
section
open Go Go.Pi
namespace Go.Pi
variable {p q a : Prop}
section
variable {X : CallF} {G : Nat → PV}
theorem s20_3 : P20 X G 3 := by
 intro m x deep ih hx hm hk
 have hx0 := hx
 obtain ⟨kind, op, ref, flags, str, exprs, kids, decls, cases, fns, classes, rfl, l_str, l_exprs, l_kids, l_decls, l_cases, l_fns, l_classes⟩ := hx0.open (hm)
 simp only [kOf2] at hk
 subst hk
 refine Fn_of T20 (by simp) ?_
 refine n1 (j l_str.1 (j l_str.2.1 (j l_exprs.1 (j l_exprs.2.1 (j l_kids.1 (j l_kids.2.1 (j l_decls.1 (j l_decls.2.1 (j l_cases.1 (j l_cases.2.1 (j l_fns.1 (j l_fns.2.1 (j l_classes.1 l_classes.2.1))))))))))))) ?_
 open QSgA1 in exact Ae1
theorem s20_10 : P20 X G 10 := by
 intro m x deep ih hx hm hk
 have hx0 := hx
 obtain ⟨kind, op, ref, flags, str, exprs, kids, decls, cases, fns, classes, rfl, l_str, l_exprs, l_kids, l_decls, l_cases, l_fns, l_classes⟩ := hx0.open (hm)
 simp only [kOf2] at hk
 subst hk
 refine Fn_of T20 (by simp) ?_
 refine n1 (j l_str.1 (j l_str.2.1 (j l_exprs.1 (j l_exprs.2.1 (j l_kids.1 (j l_kids.2.1 (j l_decls.1 (j l_decls.2.1 (j l_cases.1 (j l_cases.2.1 (j l_fns.1 (j l_fns.2.1 (j l_classes.1 l_classes.2.1))))))))))))) ?_
 open QSgA1 in exact Ae1
theorem s20_17 : P20 X G 17 := by
 intro m x deep ih hx hm hk
 have hx0 := hx
 obtain ⟨kind, op, ref, flags, str, exprs, kids, decls, cases, fns, classes, rfl, l_str, l_exprs, l_kids, l_decls, l_cases, l_fns, l_classes⟩ := hx0.open (hm)
 simp only [kOf2] at hk
 subst hk
 refine Fn_of T20 (by simp) ?_
 refine n1 (j l_str.1 (j l_str.2.1 (j l_exprs.1 (j l_exprs.2.1 (j l_kids.1 (j l_kids.2.1 (j l_decls.1 (j l_decls.2.1 (j l_cases.1 (j l_cases.2.1 (j l_fns.1 (j l_fns.2.1 (j l_classes.1 l_classes.2.1))))))))))))) ?_
 open QSgA1 in exact Ae1
end
end Go.Pi
end
