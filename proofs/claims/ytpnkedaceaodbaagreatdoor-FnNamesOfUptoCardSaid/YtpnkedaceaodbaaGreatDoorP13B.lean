import Derived.Test.YtpnkedaceaodbaaGreatDoorP08
import Derived.Test.YtpnkedaceaodbaaGreatDoorP09
import Derived.Test.YtpnkedaceaodbaaGreatDoorP12
/- Part of the proof. -/
set_option linter.all false
set_option maxHeartbeats 0
set_option maxRecDepth 100000
section
open Go Go.Pi
namespace Go.Pi
variable {p q a : Prop}
section
variable {X : CallF} {G : Nat → PV}
theorem two_all {P : List PV → Prop} {v : PV} {a b : List PV} (h : (els v).length = 2) (ha : (els v)[(0 : Int).toNat]? = some a) (hb : (els v)[(1 : Int).toNat]? = some b) (pa : P a) (pb : P b) : ∀ y, y ∈ els v → P y := by
 intro y hy
 obtain ⟨j, hj, e⟩ := List.getElem_of_mem hy
 have hj2 : j = 0 ∨ j = 1 := by omega
 rcases hj2 with rfl | rfl
 ·have ha : (els v)[0]? = some a := ha
  rw [List.getElem?_eq_getElem hj, e] at ha; cases ha; exact pa
 ·have hb : (els v)[1]? = some b := hb
  rw [List.getElem?_eq_getElem hj, e] at hb; cases hb; exact pb
theorem cons_all {P : List PV → Prop} {v w : PV} {a : List PV} (ha : (els v)[(0 : Int).toNat]? = some a) (hw : els w = (els v).drop (1 : Int).toNat) (pa : P a) (pw : ∀ y, y ∈ els w → P y) : ∀ y, y ∈ els v → P y := by
 intro y hy
 have hw : els w = (els v).drop 1 := hw
 have ha : (els v)[0]? = some a := ha
 rw [hw] at pw
 cases h : els v with
 |nil => rw [h] at hy; cases hy
 |cons z zs =>
  rw [h] at hy ha pw
  simp only [List.getElem?_cons_zero, Option.some.injEq] at ha
  subst ha
  rcases List.mem_cons.1 hy with rfl | hy
  ·exact pa
  ·exact pw y (by simpa using hy)
namespace QSh1
theorem fB1 (x : a) (g : q) (h : a → q → p := by (intro x g; exact n1 (j x (j l_str.1 (j l_str.2.1 (j l_kids.1 (j l_kids.2.1 (j l_props.1 (j l_props.2.1 (j l_parts.1 (j l_parts.2.1 (j l_fns.1 (j l_fns.2.1 (j l_classes.1 (j l_classes.2.1 (j hTT hHH)))))))))))))) g)) : p := h x g
theorem kA1 (h : p := by
 first
 |(refine M_regj (lo := 8) rfl rfl rfl (fun R t0 H0 hTT hHH hR => M_reg.2 ?_) (fun c g n' => ?_) <;> (try refine fB1 hTT ?_) <;> exact Ae1)
 |(refine M_dregj (lo := 8) rfl rfl rfl (fun R t0 H0 hTT hHH hR => M_dreg.2 ?_) (fun c g n' => ?_) <;> (try refine fB1 hTT ?_) <;> exact Ae1)
 |fail) : p := h
theorem kB1 (h : p := by
 first
 |(refine MC_pure (s93 hx hm) pE dE1 ?_; exact kC1)
 |(refine MC_pure (s94 hx hm) pE dE1 ?_; exact kC1)
 |(refine MC_pure (s96 hx hm) pE dE1 ?_; exact kC1)
 |(refine MC_pure (s40 _) pE dE1 ?_; exact kD1)
 |(refine MC_pure (s34 _ _ ih ‹_›) pE dE1 ?_; exact kD1)
 |(refine MC_pure (s67 _ _ _ _ ih ‹_›) pE dE1 ?_; exact kD1)
 |(refine MC_pure (s95 _ ih ‹_›) pE dE1 ?_; exact kD1)
 |(refine MC_pure (s97 _ ih hx hm) pE dE1 ?_; exact kD1)
 |(refine MC_pure (ih.e ‹EZ _ _› _ _) pE dE1 ?_; exact kD1)
 |(refine MC_pure (s36 _ _ ih (‹FZ _ _› : FZ _ _).1 (‹FZ _ _› : FZ _ _).le) pE dE1 ?_; exact kD1)
 |(refine MC_pure (s37 _ ih (‹CZ _ _› : CZ _ _).1 (‹CZ _ _› : CZ _ _).le) pE dE1 ?_; exact kD1)
 |exact ⟨_, rfl, fun h => absurd h Bool.false_ne_true⟩
 |((refine ⟨_, rfl, fun hq => ?_⟩; (try simp only [decide_eq_true_eq] at hq); first | exact .mk _ _ _ _ _ _ _ _ _ _ _ _ _ (by unfold exK; omega) (by first | assumption | exact none_all (by omega) | exact two_all (by omega) (by assumption) (by assumption) (by assumption) (by assumption) | exact cons_all (by assumption) (by assumption) (by assumption) (by assumption)) (by intro h9; first | omega | assumption) (by intro h9; first | omega | assumption) (by intro h9; omega) (by intro h9; first | omega | exact all_one (by assumption) (by assumption) (by assumption)) | done | fail)) <;> exact Ae1
 |fail) : p := h
end QSh1
theorem s65 {m : Nat} {x : List PV} (here deep : Int) (ih : IHs X G m) (hx : ExprC x) (hm : SizeOf.sizeOf x ≤ m) : Pure Tab X G 65 [.agg x, .int .i64 here, .int .i64 deep] (OkR (OkE x)) := by
 have hx0 := hx
 obtain ⟨kind, op, ref, chain, flags, nn, str, text, kids, props, parts, fns, classes, rfl, hn, l_str, ht, l_kids, l_props, l_parts, l_fns, l_classes⟩ := hx0.open (hm)
 refine Fn_of T65 (by simp) ?_
 refine n1 (j l_str.1 (j l_str.2.1 (j l_kids.1 (j l_kids.2.1 (j l_props.1 (j l_props.2.1 (j l_parts.1 (j l_parts.2.1 (j l_fns.1 (j l_fns.2.1 (j l_classes.1 l_classes.2.1))))))))))) ?_
 open QSh1 in exact Ae1
end
end Go.Pi
end
