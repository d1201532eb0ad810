import Derived.Test.YtpnkedaceaodbaaGreatDoorP08
import Derived.Test.YtpnkedaceaodbaaGreatDoorP09
import Derived.Test.YtpnkedaceaodbaaGreatDoorP12
import Derived.Test.YtpnkedaceaodbaaGreatDoorP13A
import Derived.Test.YtpnkedaceaodbaaGreatDoorP13B
/- Part of the proof. -/
set_option linter.all false
set_option maxHeartbeats 0
set_option maxRecDepth 100000
section
open Go Go.Pi
namespace Go.Pi
variable {p q a : Prop}
section
variable {X : CallF} {G : Nat → PV}
namespace QSgH
theorem fB1 (x : a) (g : q) (h : a → q → p := by (intro x g; exact n1 (j x (j (j h0 (j h1 (j h2 (j h3 (j h4 (j h5 (j h6 (j h7 (j h8 (j h9 (j h10 (j h11 (j h12 (j h13 (j h14 (j h15 (j h16 (j h17 (j h18 (j h19 (j h20 h21))))))))))))))))))))) (j l_str.1 (j l_str.2.1 (j l_exprs.1 (j l_exprs.2.1 (j l_kids.1 (j l_kids.2.1 (j l_decls.1 (j l_decls.2.1 (j l_cases.1 (j l_cases.2.1 (j l_fns.1 (j l_fns.2.1 (j l_classes.1 (j l_classes.2.1 (j hTT hHH))))))))))))))))) g)) : p := h x g
theorem kB1 (h : p := by
 first
 |(refine MC_pure (s40 _) pE dE1 ?_; exact kD1)
 |(refine MC_pure (s34 _ _ ih ‹_›) pE dE1 ?_; exact kD1)
 |(refine MC_pure (s13 _ ih ‹_›) pE dE1 ?_; exact kD1)
 |(refine MC_pure (s35 _ _ _ ih ‹_›) pE dE1 ?_; exact kD1)
 |(refine MC_pure (s36 _ _ ih (‹FZ _ _› : FZ _ _).1 (‹FZ _ _› : FZ _ _).le) pE dE1 ?_; exact kD1)
 |(refine MC_pure (s37 _ ih (‹CZ _ _› : CZ _ _).1 (‹CZ _ _› : CZ _ _).le) pE dE1 ?_; exact kD1)
 |(refine MC_pure (s38 _ ih _ _ _ _ _ _ _ _ _ _ _ l_kids l_decls hx hm) pE dE1 ?_; exact kD1)
 |(refine MC_pure (s39 _ ih ‹_›) pE dE1 ?_; exact kD1)
 |exact ⟨_, rfl, fun h => absurd h Bool.false_ne_true⟩
 |((refine ⟨_, rfl, fun hq => ?_⟩; (try simp only [decide_eq_true_eq] at hq); first | exact .mk _ _ _ _ _ _ _ _ _ _ _ (by unfold stK; omega) (by assumption) (by assumption) (by intro h9; first | omega | assumption) (by intro h9; omega) (by intro h9; first | omega | exact all_fn (by assumption) (by assumption) (by omega)) (by intro h9; first | omega | exact all_one (by assumption) (by assumption) (by assumption)) (by intro h9; first | omega | exact all_fn (by assumption) (by assumption) (by omega)) (by intro h9; first | omega | exact all_one (by assumption) (by assumption) (by assumption)) (by intro h9; first | omega | assumption) (by intro h9; first | omega | exact ⟨hcp.1, hcp.2, hcq⟩) | done | fail)) <;> exact Ae1
 |fail) : p := h
end QSgH
theorem s20h {m : Nat} {x : List PV} (deep : Int) (ih : IHs X G m) (hx : StmtC x) (hm : SizeOf.sizeOf x ≤ m) (hk : kOf2 x < 0 ∨ 21 < kOf2 x) : Pure Tab X G 20 [.agg x, .int .i64 deep] (OkR (OkS x)) := by
 have hx0 := hx
 obtain ⟨kind, op, ref, flags, str, exprs, kids, decls, cases, fns, classes, rfl, l_str, l_exprs, l_kids, l_decls, l_cases, l_fns, l_classes⟩ := hx0.open (hm)
 simp only [kOf2] at hk
 obtain ⟨h0, h1, h2, h3, h4, h5, h6, h7, h8, h9, h10, h11, h12, h13, h14, h15, h16, h17, h18, h19, h20, h21⟩ : decide (kind = 0) = false ∧ decide (kind = 1) = false ∧ decide (kind = 2) = false ∧ decide (kind = 3) = false ∧ decide (kind = 4) = false ∧ decide (kind = 5) = false ∧ decide (kind = 6) = false ∧ decide (kind = 7) = false ∧ decide (kind = 8) = false ∧ decide (kind = 9) = false ∧ decide (kind = 10) = false ∧ decide (kind = 11) = false ∧ decide (kind = 12) = false ∧ decide (kind = 13) = false ∧ decide (kind = 14) = false ∧ decide (kind = 15) = false ∧ decide (kind = 16) = false ∧ decide (kind = 17) = false ∧ decide (kind = 18) = false ∧ decide (kind = 19) = false ∧ decide (kind = 20) = false ∧ decide (kind = 21) = false := by simp only [decide_eq_false_iff_not]; omega
 refine Fn_of T20 (by simp) ?_
 refine n1 (j l_str.1 (j l_str.2.1 (j l_exprs.1 (j l_exprs.2.1 (j l_kids.1 (j l_kids.2.1 (j l_decls.1 (j l_decls.2.1 (j l_cases.1 (j l_cases.2.1 (j l_fns.1 (j l_fns.2.1 (j l_classes.1 l_classes.2.1))))))))))))) ?_
 open QSgH in exact Ae1
end
end Go.Pi
end
section
open Go Go.Pi
namespace Go.Pi
section
variable {X : CallF} {G : Nat → PV}
theorem s20 {m : Nat} {x : List PV} (deep : Int) (ih : IHs X G m) (hx : StmtC x) (hm : SizeOf.sizeOf x ≤ m) : Pure Tab X G 20 [.agg x, .int .i64 deep] (OkR (OkS x)) := by
 by_cases h : kOf2 x < 0 ∨ 21 < kOf2 x
 ·exact s20h deep ih hx hm h
 have h2 : kOf2 x = 0 ∨ kOf2 x = 1 ∨ kOf2 x = 2 ∨ kOf2 x = 3 ∨ kOf2 x = 4 ∨ kOf2 x = 5 ∨ kOf2 x = 6 ∨ kOf2 x = 7 ∨ kOf2 x = 8 ∨ kOf2 x = 9 ∨ kOf2 x = 10 ∨ kOf2 x = 11 ∨ kOf2 x = 12 ∨ kOf2 x = 13 ∨ kOf2 x = 14 ∨ kOf2 x = 15 ∨ kOf2 x = 16 ∨ kOf2 x = 17 ∨ kOf2 x = 18 ∨ kOf2 x = 19 ∨ kOf2 x = 20 ∨ kOf2 x = 21 := by omega
 rcases h2 with h | h | h | h | h | h | h | h | h | h | h | h | h | h | h | h | h | h | h | h | h | h
 · exact s20_0 deep ih hx hm h
 · exact s20_1 deep ih hx hm h
 · exact s20_2 deep ih hx hm h
 · exact s20_3 deep ih hx hm h
 · exact s20_4 deep ih hx hm h
 · exact s20_5 deep ih hx hm h
 · exact s20_6 deep ih hx hm h
 · exact s20_7 deep ih hx hm h
 · exact s20_8 deep ih hx hm h
 · exact s20_9 deep ih hx hm h
 · exact s20_10 deep ih hx hm h
 · exact s20_11 deep ih hx hm h
 · exact s20_12 deep ih hx hm h
 · exact s20_13 deep ih hx hm h
 · exact s20_14 deep ih hx hm h
 · exact s20_15 deep ih hx hm h
 · exact s20_16 deep ih hx hm h
 · exact s20_17 deep ih hx hm h
 · exact s20_18 deep ih hx hm h
 · exact s20_19 deep ih hx hm h
 · exact s20_20 deep ih hx hm h
 · exact s20_21 deep ih hx hm h
end
end Go.Pi
end
section
open Go Go.Pi
namespace Go.Pi
variable {p q a : Prop}
section
variable {X : CallF} {G : Nat → PV}
theorem ihs : ∀ m, IHs X G m := by
 intro m
 induction m with
 |zero => exact ⟨fun h => absurd h.2 (Nat.not_lt_zero _), fun h => absurd h.2 (Nat.not_lt_zero _), fun h => absurd h.2 (Nat.not_lt_zero _)⟩
 |succ m ih => exact ⟨fun h _ _ => s65 _ _ ih h.1 (Nat.le_of_lt_succ h.2), fun h _ => s66 _ ih h.1 (Nat.le_of_lt_succ h.2), fun h _ => s20 _ ih h.1 (Nat.le_of_lt_succ h.2)⟩
namespace QSi1
theorem fB1 (x : a) (g : q) (h : a → q → p := by (intro x g; exact n1 (j x (j lv.1 (j lv.2.1 (j hTT hHH)))) g)) : p := h x g
theorem kB1 (h : p := by
 first
 |(refine MC_pure (s13 _ (ihs m) lv) pE dE1 ?_; rintro _ ⟨c, rfl, hc⟩; refine fB1 hTT ?_; exact Ae1)
 |exact ⟨_, rfl, hc⟩
 |fail) : p := h
end QSi1
theorem s5 {m : Nat} {v : PV} (lv : SlP (SZ m) v) : Pure Tab X G 5 [v] (OkR (∀ y, y ∈ els v → OkS y)) := by
 refine Fn_of T5 (by simp) ?_
 refine s0 ?_
 open QSi1 in exact Ae1
end
end Go.Pi
end
