import Derived.Test.YtpnkedaceaodbaaGreatDoorP08
import Derived.Test.YtpnkedaceaodbaaGreatDoorP09
import Derived.Test.YtpnkedaceaodbaaGreatDoorP12
/- Part of the proof. -/
set_option linter.all false
set_option maxHeartbeats 0
set_option maxRecDepth 100000
section
open Go Go.Pi
namespace Go.Pi
variable {p q a : Prop}
section
variable {X : CallF} {G : Nat → PV}
theorem s20_4 : P20 X G 4 := by
 intro m x deep ih hx hm hk
 have hx0 := hx
 obtain ⟨kind, op, ref, flags, str, exprs, kids, decls, cases, fns, classes, rfl, l_str, l_exprs, l_kids, l_decls, l_cases, l_fns, l_classes⟩ := hx0.open (hm)
 simp only [kOf2] at hk
 subst hk
 refine Fn_of T20 (by simp) ?_
 refine n1 (j l_str.1 (j l_str.2.1 (j l_exprs.1 (j l_exprs.2.1 (j l_kids.1 (j l_kids.2.1 (j l_decls.1 (j l_decls.2.1 (j l_cases.1 (j l_cases.2.1 (j l_fns.1 (j l_fns.2.1 (j l_classes.1 l_classes.2.1))))))))))))) ?_
 open QSgA1 in exact Ae1
theorem s20_11 : P20 X G 11 := by
 intro m x deep ih hx hm hk
 have hx0 := hx
 obtain ⟨kind, op, ref, flags, str, exprs, kids, decls, cases, fns, classes, rfl, l_str, l_exprs, l_kids, l_decls, l_cases, l_fns, l_classes⟩ := hx0.open (hm)
 simp only [kOf2] at hk
 subst hk
 refine Fn_of T20 (by simp) ?_
 refine n1 (j l_str.1 (j l_str.2.1 (j l_exprs.1 (j l_exprs.2.1 (j l_kids.1 (j l_kids.2.1 (j l_decls.1 (j l_decls.2.1 (j l_cases.1 (j l_cases.2.1 (j l_fns.1 (j l_fns.2.1 (j l_classes.1 l_classes.2.1))))))))))))) ?_
 open QSgA1 in exact Ae1
theorem s20_18 : P20 X G 18 := by
 intro m x deep ih hx hm hk
 have hx0 := hx
 obtain ⟨kind, op, ref, flags, str, exprs, kids, decls, cases, fns, classes, rfl, l_str, l_exprs, l_kids, l_decls, l_cases, l_fns, l_classes⟩ := hx0.open (hm)
 simp only [kOf2] at hk
 subst hk
 refine Fn_of T20 (by simp) ?_
 refine n1 (j l_str.1 (j l_str.2.1 (j l_exprs.1 (j l_exprs.2.1 (j l_kids.1 (j l_kids.2.1 (j l_decls.1 (j l_decls.2.1 (j l_cases.1 (j l_cases.2.1 (j l_fns.1 (j l_fns.2.1 (j l_classes.1 l_classes.2.1))))))))))))) ?_
 open QSgA1 in exact Ae1
end
end Go.Pi
end
section
open Go Go.Pi
namespace Go.Pi
variable {p q a : Prop}
section
variable {X : CallF} {G : Nat → PV}
theorem s20_5 : P20 X G 5 := by
 intro m x deep ih hx hm hk
 have hx0 := hx
 obtain ⟨kind, op, ref, flags, str, exprs, kids, decls, cases, fns, classes, rfl, l_str, l_exprs, l_kids, l_decls, l_cases, l_fns, l_classes⟩ := hx0.open (hm)
 simp only [kOf2] at hk
 subst hk
 refine Fn_of T20 (by simp) ?_
 refine n1 (j l_str.1 (j l_str.2.1 (j l_exprs.1 (j l_exprs.2.1 (j l_kids.1 (j l_kids.2.1 (j l_decls.1 (j l_decls.2.1 (j l_cases.1 (j l_cases.2.1 (j l_fns.1 (j l_fns.2.1 (j l_classes.1 l_classes.2.1))))))))))))) ?_
 open QSgA1 in exact Ae1
theorem s20_12 : P20 X G 12 := by
 intro m x deep ih hx hm hk
 have hx0 := hx
 obtain ⟨kind, op, ref, flags, str, exprs, kids, decls, cases, fns, classes, rfl, l_str, l_exprs, l_kids, l_decls, l_cases, l_fns, l_classes⟩ := hx0.open (hm)
 simp only [kOf2] at hk
 subst hk
 refine Fn_of T20 (by simp) ?_
 refine n1 (j l_str.1 (j l_str.2.1 (j l_exprs.1 (j l_exprs.2.1 (j l_kids.1 (j l_kids.2.1 (j l_decls.1 (j l_decls.2.1 (j l_cases.1 (j l_cases.2.1 (j l_fns.1 (j l_fns.2.1 (j l_classes.1 l_classes.2.1))))))))))))) ?_
 open QSgA1 in exact Ae1
theorem s20_19 : P20 X G 19 := by
 intro m x deep ih hx hm hk
 have hx0 := hx
 obtain ⟨kind, op, ref, flags, str, exprs, kids, decls, cases, fns, classes, rfl, l_str, l_exprs, l_kids, l_decls, l_cases, l_fns, l_classes⟩ := hx0.open (hm)
 simp only [kOf2] at hk
 subst hk
 refine Fn_of T20 (by simp) ?_
 refine n1 (j l_str.1 (j l_str.2.1 (j l_exprs.1 (j l_exprs.2.1 (j l_kids.1 (j l_kids.2.1 (j l_decls.1 (j l_decls.2.1 (j l_cases.1 (j l_cases.2.1 (j l_fns.1 (j l_fns.2.1 (j l_classes.1 l_classes.2.1))))))))))))) ?_
 open QSgA1 in exact Ae1
end
end Go.Pi
end
section
open Go Go.Pi
namespace Go.Pi
variable {p q a : Prop}
section
variable {X : CallF} {G : Nat → PV}
theorem s20_6 : P20 X G 6 := by
 intro m x deep ih hx hm hk
 have hx0 := hx
 obtain ⟨kind, op, ref, flags, str, exprs, kids, decls, cases, fns, classes, rfl, l_str, l_exprs, l_kids, l_decls, l_cases, l_fns, l_classes⟩ := hx0.open (hm)
 simp only [kOf2] at hk
 subst hk
 refine Fn_of T20 (by simp) ?_
 refine n1 (j l_str.1 (j l_str.2.1 (j l_exprs.1 (j l_exprs.2.1 (j l_kids.1 (j l_kids.2.1 (j l_decls.1 (j l_decls.2.1 (j l_cases.1 (j l_cases.2.1 (j l_fns.1 (j l_fns.2.1 (j l_classes.1 l_classes.2.1))))))))))))) ?_
 open QSgA1 in exact Ae1
theorem s20_13 : P20 X G 13 := by
 intro m x deep ih hx hm hk
 have hx0 := hx
 obtain ⟨kind, op, ref, flags, str, exprs, kids, decls, cases, fns, classes, rfl, l_str, l_exprs, l_kids, l_decls, l_cases, l_fns, l_classes⟩ := hx0.open (hm)
 simp only [kOf2] at hk
 subst hk
 refine Fn_of T20 (by simp) ?_
 refine n1 (j l_str.1 (j l_str.2.1 (j l_exprs.1 (j l_exprs.2.1 (j l_kids.1 (j l_kids.2.1 (j l_decls.1 (j l_decls.2.1 (j l_cases.1 (j l_cases.2.1 (j l_fns.1 (j l_fns.2.1 (j l_classes.1 l_classes.2.1))))))))))))) ?_
 open QSgA1 in exact Ae1
theorem s20_20 : P20 X G 20 := by
 intro m x deep ih hx hm hk
 have hx0 := hx
 obtain ⟨kind, op, ref, flags, str, exprs, kids, decls, cases, fns, classes, rfl, l_str, l_exprs, l_kids, l_decls, l_cases, l_fns, l_classes⟩ := hx0.open (hm)
 simp only [kOf2] at hk
 subst hk
 refine Fn_of T20 (by simp) ?_
 refine n1 (j l_str.1 (j l_str.2.1 (j l_exprs.1 (j l_exprs.2.1 (j l_kids.1 (j l_kids.2.1 (j l_decls.1 (j l_decls.2.1 (j l_cases.1 (j l_cases.2.1 (j l_fns.1 (j l_fns.2.1 (j l_classes.1 l_classes.2.1))))))))))))) ?_
 open QSgA1 in exact Ae1
end
end Go.Pi
end
