import Derived.Test.YtpnkedaceaodbaaGreatDoorP06
import Derived.Test.YtpnkedaceaodbaaGreatDoorP07
import Derived.Test.YtpnkedaceaodbaaGreatDoorP08
import Derived.Test.YtpnkedaceaodbaaGreatDoorP09
import Derived.Test.YtpnkedaceaodbaaGreatDoorP10
/- Part of the proof. -/
set_option linter.all false
set_option maxHeartbeats 0
set_option maxRecDepth 100000
section
open Go Go.Pi
namespace Go.Pi
variable {p q a : Prop}
def IntR (r : PV) : Prop := ∃ n, r = .int .i64 n
section
variable {X : CallF} {G : Nat → PV}
def SE (X : CallF) (G : Nat → PV) (y : List PV) : Prop := ∀ here deep : Int, Pure Tab X G 65 [.agg y, .int .i64 here, .int .i64 deep] (OkR (OkE y))
def SB (X : CallF) (G : Nat → PV) (y : List PV) : Prop := ∀ deep : Int, Pure Tab X G 66 [.agg y, .int .i64 deep] (OkR (OkB y))
def SS (X : CallF) (G : Nat → PV) (y : List PV) : Prop := ∀ deep : Int, Pure Tab X G 20 [.agg y, .int .i64 deep] (OkR (OkS y))
structure IHs (X : CallF) (G : Nat → PV) (m : Nat) : Prop where
 e : ∀ {y}, EZ m y → SE X G y
 b : ∀ {y}, BZ m y → SB X G y
 s : ∀ {y}, SZ m y → SS X G y
theorem s118 (n : Nat) : Pure Tab X G 118 [.flt .f64 n] BoolR := by
 refine Fn_of T118 (by simp) ?_
 refine s0 ?_
 exact ⟨_, rfl⟩
namespace QSa1
theorem fB1 (x : a) (g : q) (h : a → q → p := by (intro x g; exact n1 (j x (j hTT hHH)) g)) : p := h x g
theorem kB1 (h : p := by
 first
 |exact ⟨_, rfl, fun h => absurd h Bool.false_ne_true⟩
 |((refine ⟨_, rfl, fun hq => ?_⟩; (try simp only [decide_eq_true_eq] at hq); first | exact ⟨by omega, by omega⟩ | done | fail)) <;> exact Ae1
 |fail) : p := h
end QSa1
theorem s40 (n : Int) : Pure Tab X G 40 [.int .i64 n] (OkR (0 ≤ n ∧ n < 1000)) := by
 refine Fn_of T40 (by simp) ?_
 refine s0 ?_
 open QSa1 in exact Ae1
namespace QSa2
theorem fB1 (x : a) (g : q) (h : a → q → p := by (intro x g; exact n1 (j x (j l_str.1 (j l_str.2.1 (j l_kids.1 (j l_kids.2.1 (j l_props.1 (j l_props.2.1 (j l_parts.1 (j l_parts.2.1 (j l_fns.1 (j l_fns.2.1 (j l_classes.1 (j l_classes.2.1 (j hTT hHH)))))))))))))) g)) : p := h x g
theorem kA1 (h : p := by
 first
 |exact kR1
 |fail) : p := h
end QSa2
theorem s119 {m : Nat} {x : List PV} (hx : ExprC x) (hm : SizeOf.sizeOf x ≤ m) : Pure Tab X G 119 [.agg x] IntR := by
 obtain ⟨kind, op, ref, chain, flags, nn, str, text, kids, props, parts, fns, classes, rfl, hn, l_str, ht, l_kids, l_props, l_parts, l_fns, l_classes⟩ := hx.open (hm)
 refine Fn_of T119 (by simp) ?_
 refine n1 (j l_str.1 (j l_str.2.1 (j l_kids.1 (j l_kids.2.1 (j l_props.1 (j l_props.2.1 (j l_parts.1 (j l_parts.2.1 (j l_fns.1 (j l_fns.2.1 (j l_classes.1 l_classes.2.1))))))))))) ?_
 open QSa2 in exact Ae1
namespace QSa3
theorem fB1 (x : a) (g : q) (h : a → q → p := by (intro x g; exact n1 (j x (j l_str.1 (j l_str.2.1 (j l_kids.1 (j l_kids.2.1 (j l_props.1 (j l_props.2.1 (j l_parts.1 (j l_parts.2.1 (j l_fns.1 (j l_fns.2.1 (j l_classes.1 (j l_classes.2.1 (j hTT hHH)))))))))))))) g)) : p := h x g
theorem kA1 (h : p := by
 first
 |exact kR1
 |fail) : p := h
end QSa3
theorem s94 {m : Nat} {x : List PV} (hx : ExprC x) (hm : SizeOf.sizeOf x ≤ m) : Pure Tab X G 94 [.agg x] BoolR := by
 obtain ⟨kind, op, ref, chain, flags, nn, str, text, kids, props, parts, fns, classes, rfl, hn, l_str, ht, l_kids, l_props, l_parts, l_fns, l_classes⟩ := hx.open (hm)
 refine Fn_of T94 (by simp) ?_
 refine n1 (j l_str.1 (j l_str.2.1 (j l_kids.1 (j l_kids.2.1 (j l_props.1 (j l_props.2.1 (j l_parts.1 (j l_parts.2.1 (j l_fns.1 (j l_fns.2.1 (j l_classes.1 l_classes.2.1))))))))))) ?_
 open QSa3 in exact Ae1
namespace QSa4
theorem fB1 (x : a) (g : q) (h : a → q → p := by (intro x g; exact n1 (j x (j l_str.1 (j l_str.2.1 (j l_kids.1 (j l_kids.2.1 (j l_props.1 (j l_props.2.1 (j l_parts.1 (j l_parts.2.1 (j l_fns.1 (j l_fns.2.1 (j l_classes.1 (j l_classes.2.1 (j hTT hHH)))))))))))))) g)) : p := h x g
theorem kA1 (h : p := by
 first
 |exact kR1
 |fail) : p := h
end QSa4
theorem s96 {m : Nat} {x : List PV} (hx : ExprC x) (hm : SizeOf.sizeOf x ≤ m) : Pure Tab X G 96 [.agg x] IntR := by
 obtain ⟨kind, op, ref, chain, flags, nn, str, text, kids, props, parts, fns, classes, rfl, hn, l_str, ht, l_kids, l_props, l_parts, l_fns, l_classes⟩ := hx.open (hm)
 refine Fn_of T96 (by simp) ?_
 refine n1 (j l_str.1 (j l_str.2.1 (j l_kids.1 (j l_kids.2.1 (j l_props.1 (j l_props.2.1 (j l_parts.1 (j l_parts.2.1 (j l_fns.1 (j l_fns.2.1 (j l_classes.1 l_classes.2.1))))))))))) ?_
 open QSa4 in exact Ae1
namespace QSa5
theorem fB1 (x : a) (g : q) (h : a → q → p := by (intro x g; exact n1 (j x (j l_str.1 (j l_str.2.1 (j l_kids.1 (j l_kids.2.1 (j l_props.1 (j l_props.2.1 (j l_parts.1 (j l_parts.2.1 (j l_fns.1 (j l_fns.2.1 (j l_classes.1 (j l_classes.2.1 (j hTT hHH)))))))))))))) g)) : p := h x g
theorem kA1 (h : p := by
 first
 |exact kR1
 |fail) : p := h
theorem kB1 (h : p := by
 first
 |(refine MC_pure (s118 _) pE dE1 ?_; exact kC1)
 |(refine MC_pure (s119 hx0 hm) pE dE1 ?_; exact kC1)
 |((generalize FloatKind.f64.format.sub nn nn = o; cases o <;> refine n1 (j l_str.1 (j l_str.2.1 (j l_kids.1 (j l_kids.2.1 (j l_props.1 (j l_props.2.1 (j l_parts.1 (j l_parts.2.1 (j l_fns.1 (j l_fns.2.1 (j l_classes.1 l_classes.2.1))))))))))) ?_)) <;> exact Ae1
 |fail) : p := h
end QSa5
theorem s93 {m : Nat} {x : List PV} (hx : ExprC x) (hm : SizeOf.sizeOf x ≤ m) : Pure Tab X G 93 [.agg x] BoolR := by
 have hx0 := hx
 obtain ⟨kind, op, ref, chain, flags, nn, str, text, kids, props, parts, fns, classes, rfl, hn, l_str, ht, l_kids, l_props, l_parts, l_fns, l_classes⟩ := hx.open (hm)
 refine Fn_of T93 (by simp) ?_
 refine n1 (j l_str.1 (j l_str.2.1 (j l_kids.1 (j l_kids.2.1 (j l_props.1 (j l_props.2.1 (j l_parts.1 (j l_parts.2.1 (j l_fns.1 (j l_fns.2.1 (j l_classes.1 l_classes.2.1))))))))))) ?_
 open QSa5 in exact Ae1
namespace QSa6
theorem fB1 (x : a) (g : q) (h : a → q → p := by (intro x g; exact n1 (j x (j h0 (j h1 (j h2 (j hI (j lv.1 (j hTT hHH))))))) g)) : p := h x g
theorem kA1 (h : p := by
 first
 |(refine next (n - 1) (by omega) _ ⟨i + 1, by omega, z1 h0, z1 h1, z1 h2, by refine s1 hI ?_; rw [wrap_i64 (by omega) (by omega)]; rfl, Upto.succ hU (by have h9 := ‹(els v)[((_ : Nat) : Int).toNat]? = some _›; simpa using h9) (by assumption)⟩)
 |fail) : p := h
theorem kB1 (h : p := by
 first
 |(refine MC_pure (ih.e ‹EZ m _› _ _) pE dE1 ?_; exact kD1)
 |exact ⟨_, rfl, fun h => absurd h Bool.false_ne_true⟩
 |((refine ⟨_, rfl, fun hq => ?_⟩; (try simp only [decide_eq_true_eq] at hq); first | exact hU.all (by omega) | done | fail)) <;> exact Ae1
 |fail) : p := h
end QSa6
theorem s34 {m : Nat} {v : PV} (here deep : Int) (ih : IHs X G m) (lv : SlP (EZ m) v) : Pure Tab X G 34 [v, .int .i64 here, .int .i64 deep] (OkR (∀ y, y ∈ els v → OkE y)) := by
 refine Fn_of T34 (by simp) ?_
 refine s0 ?_
 have hB := lv.1.len
 refine M_loop (fun n s => ∃ i : Nat, i + n = (els v).length ∧ s.t 0 = v ∧ s.t 1 = .int .i64 here ∧ s.t 2 = .int .i64 deep ∧ s.t 7 = .int .i64 i ∧ Upto OkE v i) ?_ (n := (els v).length) ⟨0, by simp, z0, z0, z0, z0, Upto.zero⟩
 rintro n ⟨t, H, k⟩ ⟨i, hi, h0, h1, h2, hI, hU⟩ next
 simp only at h0 h1 h2 hI
 refine n1 (j h0 (j h1 (j h2 (j hI lv.1)))) ?_
 open QSa6 in exact Ae1
namespace QSa7
theorem fB1 (x : a) (g : q) (h : a → q → p := by (intro x g; exact n1 (j x (j lv.1 (j lv.2.1 (j hTT hHH)))) g)) : p := h x g
theorem kB1 (h : p := by
 first
 |(refine MC_pure (s34 _ _ ih lv) pE dE1 ?_; exact kD1)
 |exact ⟨_, rfl, fun h => absurd h Bool.false_ne_true⟩
 |((refine ⟨_, rfl, fun hq => ?_⟩; (try simp only [decide_eq_true_eq] at hq); first | exact ⟨by omega, by omega, by assumption⟩ | done | fail)) <;> exact Ae1
 |fail) : p := h
end QSa7
theorem s67 {m : Nat} {v : PV} (least most here deep : Int) (ih : IHs X G m) (lv : SlP (EZ m) v) : Pure Tab X G 67 [v, .int .i64 least, .int .i64 most, .int .i64 here, .int .i64 deep] (OkR (least ≤ (els v).length ∧ (els v).length ≤ most ∧ ∀ y, y ∈ els v → OkE y)) := by
 refine Fn_of T67 (by simp) ?_
 refine s1 (j lv.1 lv.2.1) ?_
 open QSa7 in exact Ae1
namespace QSa8
theorem fB1 (x : a) (g : q) (h : a → q → p := by (intro x g; exact n1 (j x (j lv.1 (j lv.2.1 (j hTT hHH)))) g)) : p := h x g
theorem kB1 (h : p := by
 first
 |(refine MC_pure (s67 _ _ _ _ ih lv) pE dE1 ?_; exact kD1)
 |exact ⟨_, rfl, fun h => absurd h Bool.false_ne_true⟩
 |((refine ⟨_, rfl, fun hq => ?_⟩; (try simp only [decide_eq_true_eq] at hq); first | exact ⟨by omega, by assumption⟩ | done | fail)) <;> exact Ae1
 |fail) : p := h
end QSa8
theorem s68 {m : Nat} {v : PV} (flags here deep : Int) (ih : IHs X G m) (lv : SlP (EZ m) v) : Pure Tab X G 68 [v, .int .i64 flags, .int .i64 here, .int .i64 deep] (OkR ((els v).length = 1 ∧ ∀ y, y ∈ els v → OkE y)) := by
 refine Fn_of T68 (by simp) ?_
 refine n1 (j lv.1 lv.2.1) ?_
 open QSa8 in exact Ae1
namespace QSa9
theorem fB1 (x : a) (g : q) (h : a → q → p := by (intro x g; exact n1 (j x (j l_str.1 (j l_str.2.1 (j l_kids.1 (j l_kids.2.1 (j l_props.1 (j l_props.2.1 (j l_parts.1 (j l_parts.2.1 (j l_fns.1 (j l_fns.2.1 (j l_classes.1 (j l_classes.2.1 (j hTT hHH)))))))))))))) g)) : p := h x g
theorem kA1 (h : p := by
 first
 |exact kR1
 |fail) : p := h
end QSa9
theorem s69 {m : Nat} {x : List PV} (kind0 : Int) (hx : ExprC x) (hm : SizeOf.sizeOf x ≤ m) : Pure Tab X G 69 [.int .i64 kind0, .agg x] BoolR := by
 obtain ⟨kind, op, ref, chain, flags, nn, str, text, kids, props, parts, fns, classes, rfl, hn, l_str, ht, l_kids, l_props, l_parts, l_fns, l_classes⟩ := hx.open (hm)
 refine Fn_of T69 (by simp) ?_
 refine s1 (j l_str.1 (j l_str.2.1 (j l_kids.1 (j l_kids.2.1 (j l_props.1 (j l_props.2.1 (j l_parts.1 (j l_parts.2.1 (j l_fns.1 (j l_fns.2.1 (j l_classes.1 l_classes.2.1))))))))))) ?_
 open QSa9 in exact Ae1
namespace QSa10
theorem fB1 (x : a) (g : q) (h : a → q → p := by (intro x g; exact n1 (j x (j h1 (j h2 (j hI (j e1 (j l_str.1 (j l_str.2.1 (j l_kids.1 (j l_kids.2.1 (j l_props.1 (j l_props.2.1 (j l_parts.1 (j l_parts.2.1 (j l_fns.1 (j l_fns.2.1 (j l_classes.1 (j l_classes.2.1 (j hTT hHH)))))))))))))))))) g)) : p := h x g
theorem kA1 (h : p := by
 first
 |(refine next (n - 1) (by omega) _ ⟨i + 1, by omega, z1 h1, z1 h2, by refine s1 hI ?_; rw [wrap_i64 (by omega) (by omega)]; rfl, z1 e1, Upto.succ hU (by have h9 := ‹(els parts)[((_ : Nat) : Int).toNat]? = some _›; simpa using h9) (.mk _ _ _ (by omega) (by assumption))⟩)
 |fail) : p := h
theorem kB1 (h : p := by
 first
 |(refine MC_pure (s67 _ _ _ _ ih ‹_›) pE dE1 ?_; exact kD1)
 |exact ⟨_, rfl, fun h => absurd h Bool.false_ne_true⟩
 |((refine ⟨_, rfl, fun hq => ?_⟩; (try simp only [decide_eq_true_eq] at hq); first | exact (show ∀ y, y ∈ els parts → OkQ y from hU.all (by omega)) | done | fail)) <;> exact Ae1
 |fail) : p := h
end QSa10
theorem s97 {m : Nat} {x : List PV} (deep : Int) (ih : IHs X G m) (hx : ExprC x) (hm : SizeOf.sizeOf x ≤ m) : Pure Tab X G 97 [.agg x, .int .i64 deep] (OkR (∀ y, y ∈ els (x.getD 10 .undef) → OkQ y)) := by
 obtain ⟨kind, op, ref, chain, flags, nn, str, text, kids, props, parts, fns, classes, rfl, hn, l_str, ht, l_kids, l_props, l_parts, l_fns, l_classes⟩ := hx.open (hm)
 refine Fn_of T97 (by simp) ?_
 refine s1 (j l_str.1 (j l_str.2.1 (j l_kids.1 (j l_kids.2.1 (j l_props.1 (j l_props.2.1 (j l_parts.1 (j l_parts.2.1 (j l_fns.1 (j l_fns.2.1 (j l_classes.1 l_classes.2.1))))))))))) ?_
 have hB := l_parts.1.len
 refine M_loop (fun n s => ∃ i : Nat, i + n = (els parts).length ∧ s.t 1 = .int .i64 deep ∧ s.t 2 = .ptr 1 1 0 ∧ s.t 5 = .int .i64 i ∧ s.H 1 = some ⟨54, 1, [.int .i64 kind, .int .i64 op, .int .i64 ref, .int .i64 chain, .int .i64 flags, .flt .f64 nn, str, .str text, kids, props, parts, fns, classes], 0⟩ ∧ Upto OkQ parts i) ?_ (n := (els parts).length) ⟨0, by simp, z1 (j l_str.1 (j l_str.2.1 (j l_kids.1 (j l_kids.2.1 (j l_props.1 (j l_props.2.1 (j l_parts.1 (j l_parts.2.1 (j l_fns.1 (j l_fns.2.1 (j l_classes.1 l_classes.2.1))))))))))), z1 (j l_str.1 (j l_str.2.1 (j l_kids.1 (j l_kids.2.1 (j l_props.1 (j l_props.2.1 (j l_parts.1 (j l_parts.2.1 (j l_fns.1 (j l_fns.2.1 (j l_classes.1 l_classes.2.1))))))))))), z1 (j l_str.1 (j l_str.2.1 (j l_kids.1 (j l_kids.2.1 (j l_props.1 (j l_props.2.1 (j l_parts.1 (j l_parts.2.1 (j l_fns.1 (j l_fns.2.1 (j l_classes.1 l_classes.2.1))))))))))), z1 (j l_str.1 (j l_str.2.1 (j l_kids.1 (j l_kids.2.1 (j l_props.1 (j l_props.2.1 (j l_parts.1 (j l_parts.2.1 (j l_fns.1 (j l_fns.2.1 (j l_classes.1 l_classes.2.1))))))))))), Upto.zero⟩
 rintro n ⟨t, H, k⟩ ⟨i, hi, h1, h2, hI, e1, hU⟩ next
 simp only at h1 h2 hI e1
 refine n1 (j h1 (j h2 (j hI (j e1 (j l_str.1 (j l_str.2.1 (j l_kids.1 (j l_kids.2.1 (j l_props.1 (j l_props.2.1 (j l_parts.1 (j l_parts.2.1 (j l_fns.1 (j l_fns.2.1 (j l_classes.1 l_classes.2.1))))))))))))))) ?_
 open QSa10 in exact Ae1
end
end Go.Pi
end
section
open Go Go.Pi
namespace Go.Pi
variable {p q a : Prop}
section
variable {X : CallF} {G : Nat → PV}
namespace QSb1
theorem fB1 (x : a) (g : q) (h : a → q → p := by (intro x g; exact n1 (j x (j h0 (j h1 (j hI (j lv.1 (j hTT hHH)))))) g)) : p := h x g
theorem kA1 (h : p := by
 first
 |(refine next (n - 1) (by omega) _ ⟨i + 1, by omega, z1 h0, z1 h1, by refine s1 hI ?_; rw [wrap_i64 (by omega) (by omega)]; rfl, Upto.succ hU (by have h9 := ‹(els v)[((_ : Nat) : Int).toNat]? = some _›; simpa using h9) (.mk _ _ _ _ (by omega) (by omega) (by first | assumption | exact none_all (by omega)) (by assumption))⟩)
 |fail) : p := h
theorem kB1 (h : p := by
 first
 |(refine MC_pure (s67 _ _ _ _ ih ‹_›) pE dE1 ?_; exact kD1)
 |(refine MC_pure (s68 _ _ _ ih ‹_›) pE dE1 ?_; exact kD1)
 |(refine MC_pure (s69 _ (‹EZ _ _› : EZ _ _).1 (‹EZ _ _› : EZ _ _).le) pE dE1 ?_; exact kC1)
 |exact ⟨_, rfl, fun h => absurd h Bool.false_ne_true⟩
 |((refine ⟨_, rfl, fun hq => ?_⟩; (try simp only [decide_eq_true_eq] at hq); first | exact hU.all (by omega) | done | fail)) <;> exact Ae1
 |fail) : p := h
end QSb1
theorem s95 {m : Nat} {v : PV} (deep : Int) (ih : IHs X G m) (lv : SlP (PZ m) v) : Pure Tab X G 95 [v, .int .i64 deep] (OkR (∀ y, y ∈ els v → OkP y)) := by
 refine Fn_of T95 (by simp) ?_
 refine s0 ?_
 have hB := lv.1.len
 refine M_loop (fun n s => ∃ i : Nat, i + n = (els v).length ∧ s.t 0 = v ∧ s.t 1 = .int .i64 deep ∧ s.t 5 = .int .i64 i ∧ Upto OkP v i) ?_ (n := (els v).length) ⟨0, by simp, z0, z0, z0, Upto.zero⟩
 rintro n ⟨t, H, k⟩ ⟨i, hi, h0, h1, hI, hU⟩ next
 simp only at h0 h1 hI
 refine n1 (j h0 (j h1 (j hI lv.1))) ?_
 open QSb1 in exact Ae1
namespace QSb2
theorem fB1 (x : a) (g : q) (h : a → q → p := by (intro x g; exact n1 (j x (j h0 (j h1 (j hI (j lv.1 (j hTT hHH)))))) g)) : p := h x g
theorem kA1 (h : p := by
 first
 |(refine next (n - 1) (by omega) _ ⟨i + 1, by omega, z1 h0, z1 h1, by refine s1 hI ?_; rw [wrap_i64 (by omega) (by omega)]; rfl, Upto.succ hU (by have h9 := ‹(els v)[((_ : Nat) : Int).toNat]? = some _›; simpa using h9) (by assumption)⟩)
 |fail) : p := h
theorem kB1 (h : p := by
 first
 |(refine MC_pure (ih.s ‹SZ _ _› _) pE dE1 ?_; exact kD1)
 |exact ⟨_, rfl, fun h => absurd h Bool.false_ne_true⟩
 |((refine ⟨_, rfl, fun hq => ?_⟩; (try simp only [decide_eq_true_eq] at hq); first | exact hU.all (by omega) | done | fail)) <;> exact Ae1
 |fail) : p := h
end QSb2
theorem s13 {m : Nat} {v : PV} (deep : Int) (ih : IHs X G m) (lv : SlP (SZ m) v) : Pure Tab X G 13 [v, .int .i64 deep] (OkR (∀ y, y ∈ els v → OkS y)) := by
 refine Fn_of T13 (by simp) ?_
 refine s0 ?_
 have hB := lv.1.len
 refine M_loop (fun n s => ∃ i : Nat, i + n = (els v).length ∧ s.t 0 = v ∧ s.t 1 = .int .i64 deep ∧ s.t 5 = .int .i64 i ∧ Upto OkS v i) ?_ (n := (els v).length) ⟨0, by simp, z0, z0, z0, Upto.zero⟩
 rintro n ⟨t, H, k⟩ ⟨i, hi, h0, h1, hI, hU⟩ next
 simp only at h0 h1 hI
 refine n1 (j h0 (j h1 (j hI lv.1))) ?_
 open QSb2 in exact Ae1
namespace QSb3
theorem fB1 (x : a) (g : q) (h : a → q → p := by (intro x g; exact n1 (j x (j l_items.1 (j l_items.2.1 (j hTT hHH)))) g)) : p := h x g
theorem kB1 (h : p := by
 first
 |(refine MC_pure (s67 _ _ _ _ ih ‹_›) pE dE1 ?_; exact kD1)
 |(refine MC_pure (s68 _ _ _ ih ‹_›) pE dE1 ?_; exact kD1)
 |(refine MC_pure (ih.b ‹BZ _ _› _) pE dE1 ?_; exact kD1)
 |exact ⟨_, rfl, fun h => absurd h Bool.false_ne_true⟩
 |((refine ⟨_, rfl, fun hq => ?_⟩; (try simp only [decide_eq_true_eq] at hq); first | exact (by have h9 := ‹(els items)[_]? = some _›; intro y hy; have hy := h9.symm.trans hy; cases hy; exact .mk _ _ _ _ _ _ _ _ (by omega) (by omega) (by omega) (by intro _; first | assumption | exact none_all (by omega)) (by first | assumption | exact none_all (by omega)) (by first | assumption | exact .mk _ _ _ _ (by omega) (by omega) (by omega) (by omega))) | done | fail)) <;> exact Ae1
 |fail) : p := h
end QSb3
theorem s98 {m : Nat} {x : List PV} (i deep : Int) (ih : IHs X G m) (hx : BindC x) (hm : SizeOf.sizeOf x ≤ m) (hi : 0 ≤ i ∧ i < (els (x.getD 2 .undef)).length) (k : Int) (hk : x.getD 0 .undef = .int .i64 k) (hk2 : k = 2 ∨ k = 3) :
  Pure Tab X G 98 [.agg x, .int .i64 i, .int .i64 deep] (OkR (∀ y, (els (x.getD 2 .undef))[i.toNat]? = some y → OkI k y)) := by
 obtain ⟨kind, ref, items, rest, rfl, l_items⟩ := hx.open (hm)
 have hi : 0 ≤ i ∧ i < (els items).length := hi
 cases hk
 refine Fn_of T98 (by simp) ?_
 refine n1 (j l_items.1 l_items.2.1) ?_
 open QSb3 in exact Ae1
end
end Go.Pi
end
section
open Go Go.Pi
namespace Go.Pi
variable {p q a : Prop}
section
variable {X : CallF} {G : Nat → PV}
namespace QSc2
theorem fB2 (x : a) (g : q) (h : a → q → p := by (intro x g; exact n1 (j x (j h1 (j h2 (j hI (j e1 (j l_items.1 (j l_items.2.1 (j hTT hHH)))))))) g)) : p := h x g
theorem kA2 (h : p := by
 first
 |(refine next (n - 1) (by omega) _ ⟨i + 1, by omega, z1 h1, z1 h2, by refine s1 hI ?_; rw [wrap_i64 (by omega) (by omega)]; rfl, z1 e1, Upto.succ' hU (fun y hy => hc1 y (by simpa using hy))⟩)
 |exact kR2
 |fail) : p := h
theorem kB2 (h : p := by
 first
 |(refine MC_pure (s98 _ _ ih hx hm ⟨by omega, by (show _ < ((els items).length : Int)); omega⟩ 2 rfl (by omega)) pE dE2 ?_; exact kD2)
 |exact ⟨_, rfl, fun h => absurd h Bool.false_ne_true⟩
 |((refine ⟨_, rfl, fun hq => ?_⟩; (try simp only [decide_eq_true_eq] at hq); first | exact .mk _ _ _ _ (by omega) (by omega) (by omega) (fun _ => hU.all (by omega)) | done | fail)) <;> exact Ae2
 |fail) : p := h
end QSc2
namespace QSc1
theorem fB1 (x : a) (g : q) (h : a → q → p := by (intro x g; exact n1 (j x (j l_items.1 (j l_items.2.1 (j hTT hHH)))) g)) : p := h x g
theorem kA1 (h : p := by
 first
 |exact kR1
 |fail) : p := h
theorem kB1 (h : p := by
 first
 |(refine MC_pure (s40 _) pE dE1 ?_; rintro _ ⟨c, rfl, hc⟩; refine fB1 hTT ?_; exact Ae1)
 |exact ⟨_, rfl, fun h => absurd h Bool.false_ne_true⟩
 |((refine ⟨_, rfl, fun hq => ?_⟩; (try simp only [decide_eq_true_eq] at hq); first | exact .mk _ _ _ _ (by omega) (by omega) (by omega) (by omega) | done | fail)) <;> exact Ae1
 |fail) : p := h
theorem kZ1 (h : p := by
 first
 |skip
  have hB := l_items.1.len
  refine M_loop (fun n s => ∃ i : Nat, i + n = (els items).length ∧ s.t 1 = .int .i64 (IntKind.i64.wrap (deep - 1)) ∧ s.t 2 = .ptr 1 1 0 ∧ s.t 5 = .int .i64 i ∧ s.H 1 = some ⟨27, 1, [.int .i64 2, .int .i64 ref, items, .bool rest], 0⟩ ∧ Upto (OkI 2) items i) ?_ (n := (els items).length) ⟨0, by simp, z1 (j l_items.1 l_items.2.1), z1 (j l_items.1 l_items.2.1), z1 (j l_items.1 l_items.2.1), z1 (j l_items.1 l_items.2.1), Upto.zero⟩
  rintro n ⟨t, H, k⟩ ⟨i, hi, h1, h2, hI, e1, hU⟩ next
  simp only at h1 h2 hI e1
  refine n1 (j h1 (j h2 (j hI (j e1 (j l_items.1 l_items.2.1))))) ?_
  open QSc2 in exact Ae2
  done
 |fail) : p := h
end QSc1
namespace QSc4
theorem fB2 (x : a) (g : q) (h : a → q → p := by (intro x g; exact n1 (j x (j h1 (j h2 (j hI (j e1 (j l_items.1 (j l_items.2.1 (j hTT hHH)))))))) g)) : p := h x g
theorem kA2 (h : p := by
 first
 |(refine next (n - 1) (by omega) _ ⟨i + 1, by omega, z1 h1, z1 h2, by refine s1 hI ?_; rw [wrap_i64 (by omega) (by omega)]; rfl, z1 e1, Upto.succ' hU (fun y hy => hc1 y (by simpa using hy))⟩)
 |exact kR2
 |fail) : p := h
theorem kB2 (h : p := by
 first
 |(refine MC_pure (s98 _ _ ih hx hm ⟨by omega, by (show _ < ((els items).length : Int)); omega⟩ 3 rfl (by omega)) pE dE2 ?_; exact kD2)
 |exact ⟨_, rfl, fun h => absurd h Bool.false_ne_true⟩
 |((refine ⟨_, rfl, fun hq => ?_⟩; (try simp only [decide_eq_true_eq] at hq); first | exact .mk _ _ _ _ (by omega) (by omega) (by omega) (fun _ => hU.all (by omega)) | done | fail)) <;> exact Ae2
 |fail) : p := h
end QSc4
namespace QSc3
theorem fB1 (x : a) (g : q) (h : a → q → p := by (intro x g; exact n1 (j x (j l_items.1 (j l_items.2.1 (j hTT hHH)))) g)) : p := h x g
theorem kA1 (h : p := by
 first
 |exact kR1
 |fail) : p := h
theorem kB1 (h : p := by
 first
 |(refine MC_pure (s40 _) pE dE1 ?_; rintro _ ⟨c, rfl, hc⟩; refine fB1 hTT ?_; exact Ae1)
 |exact ⟨_, rfl, fun h => absurd h Bool.false_ne_true⟩
 |((refine ⟨_, rfl, fun hq => ?_⟩; (try simp only [decide_eq_true_eq] at hq); first | exact .mk _ _ _ _ (by omega) (by omega) (by omega) (by omega) | done | fail)) <;> exact Ae1
 |fail) : p := h
theorem kZ1 (h : p := by
 first
 |skip
  have hB := l_items.1.len
  refine M_loop (fun n s => ∃ i : Nat, i + n = (els items).length ∧ s.t 1 = .int .i64 (IntKind.i64.wrap (deep - 1)) ∧ s.t 2 = .ptr 1 1 0 ∧ s.t 5 = .int .i64 i ∧ s.H 1 = some ⟨27, 1, [.int .i64 3, .int .i64 ref, items, .bool rest], 0⟩ ∧ Upto (OkI 3) items i) ?_ (n := (els items).length) ⟨0, by simp, z1 (j l_items.1 l_items.2.1), z1 (j l_items.1 l_items.2.1), z1 (j l_items.1 l_items.2.1), z1 (j l_items.1 l_items.2.1), Upto.zero⟩
  rintro n ⟨t, H, k⟩ ⟨i, hi, h1, h2, hI, e1, hU⟩ next
  simp only at h1 h2 hI e1
  refine n1 (j h1 (j h2 (j hI (j e1 (j l_items.1 l_items.2.1))))) ?_
  open QSc4 in exact Ae2
  done
 |fail) : p := h
end QSc3
namespace QSc5
theorem fB1 (x : a) (g : q) (h : a → q → p := by (intro x g; exact n1 (j x (j l_items.1 (j l_items.2.1 (j h2 (j h3 (j hTT hHH)))))) g)) : p := h x g
theorem kB1 (h : p := by
 first
 |(refine MC_pure (s40 _) pE dE1 ?_; exact kD1)
 |exact ⟨_, rfl, fun h => absurd h Bool.false_ne_true⟩
 |((refine ⟨_, rfl, fun hq => ?_⟩; (try simp only [decide_eq_true_eq] at hq); first | exact .mk _ _ _ _ (by omega) (by omega) (by omega) (by omega) | done | fail)) <;> exact Ae1
 |fail) : p := h
end QSc5
theorem s66 {m : Nat} {x : List PV} (deep : Int) (ih : IHs X G m) (hx : BindC x) (hm : SizeOf.sizeOf x ≤ m) : Pure Tab X G 66 [.agg x, .int .i64 deep] (OkR (OkB x)) := by
 have hx0 := hx
 obtain ⟨kind, ref, items, rest, rfl, l_items⟩ := hx0.open (hm)
 by_cases h2 : kind = 2
 ·subst h2
  refine Fn_of T66 (by simp) ?_
  refine n1 (j l_items.1 l_items.2.1) ?_
  open QSc1 in exact Ae1
 ·by_cases h3 : kind = 3
  ·subst h3
   refine Fn_of T66 (by simp) ?_
   refine n1 (j l_items.1 l_items.2.1) ?_
   open QSc3 in exact Ae1
  ·refine Fn_of T66 (by simp) ?_
   refine n1 (j l_items.1 (j l_items.2.1 (j h2 h3))) ?_
   open QSc5 in exact Ae1
namespace QSc6
theorem fB1 (x : a) (g : q) (h : a → q → p := by (intro x g; exact n1 (j x (j h0 (j h1 (j h2 (j h3 (j hI (j lv.1 (j hTT hHH)))))))) g)) : p := h x g
theorem kA1 (h : p := by
 first
 |(refine next (n - 1) (by omega) _ ⟨i + 1, by omega, z1 h0, z1 h1, z1 h2, z1 h3, by refine s1 hI ?_; rw [wrap_i64 (by omega) (by omega)]; rfl, Upto.succ hU (by have h9 := ‹(els v)[((_ : Nat) : Int).toNat]? = some _›; simpa using h9) (.mk _ _ _ _ _ (by assumption) (by omega) (by assumption))⟩)
 |fail) : p := h
theorem kB1 (h : p := by
 first
 |(refine MC_pure (s67 _ _ _ _ ih ‹_›) pE dE1 ?_; exact kD1)
 |(refine MC_pure (ih.b ‹BZ _ _› _) pE dE1 ?_; exact kD1)
 |exact ⟨_, rfl, fun h => absurd h Bool.false_ne_true⟩
 |((refine ⟨_, rfl, fun hq => ?_⟩; (try simp only [decide_eq_true_eq] at hq); first | exact ⟨by omega, by omega, hU.all (by omega)⟩ | done | fail)) <;> exact Ae1
 |fail) : p := h
end QSc6
theorem s35 {m : Nat} {v : PV} (least most deep : Int) (ih : IHs X G m) (lv : SlP (DZ m) v) : Pure Tab X G 35 [v, .int .i64 least, .int .i64 most, .int .i64 deep] (OkR (least ≤ (els v).length ∧ (els v).length ≤ most ∧ ∀ y, y ∈ els v → OkD y)) := by
 refine Fn_of T35 (by simp) ?_
 refine s0 ?_
 have hB := lv.1.len
 refine M_loop (fun n s => ∃ i : Nat, i + n = (els v).length ∧ s.t 0 = v ∧ s.t 1 = .int .i64 least ∧ s.t 2 = .int .i64 most ∧ s.t 3 = .int .i64 deep ∧ s.t 9 = .int .i64 i ∧ Upto OkD v i) ?_ (n := (els v).length) ⟨0, by simp, z0, z0, z0, z0, z0, Upto.zero⟩
 rintro n ⟨t, H, k⟩ ⟨i, hi, h0, h1, h2, h3, hI, hU⟩ next
 simp only at h0 h1 h2 h3 hI
 refine n1 (j h0 (j h1 (j h2 (j h3 (j hI lv.1))))) ?_
 open QSc6 in exact Ae1
end
end Go.Pi
end
section
open Go Go.Pi
namespace Go.Pi
variable {p q a : Prop}
section
variable {X : CallF} {G : Nat → PV}
theorem wsum3 {a b c : Nat} (ha : a ≤ 1048576) (hb : b ≤ 1048576) (hc : c ≤ 1048576) (h : IntKind.i64.wrap (IntKind.i64.wrap ((a : Int) + (b : Int)) + (c : Int)) = 0) : a = 0 ∧ b = 0 ∧ c = 0 := by
 rw [wrap_i64 (n := (a : Int) + b) (by omega) (by omega), wrap_i64 (by omega) (by omega)] at h
 omega
namespace QSe2
theorem fB2 (x : a) (g : q) (h : a → q → p := by (intro x g; exact n1 (j x (j h1 (j h2 (j h3 (j hI (j e1 (j l_args.1 (j l_args.2.1 (j l_body.1 (j l_body.2.1 (j hTT hHH))))))))))) g)) : p := h x g
theorem kA2 (h : p := by
 first
 |(refine next (n - 1) (by omega) _ ⟨i + 1, by omega, z1 h1, z1 h2, z1 h3, by refine s1 hI ?_; rw [wrap_i64 (by omega) (by omega)]; rfl, z1 e1, Upto.succ hU (by have h9 := ‹(els args)[((_ : Nat) : Int).toNat]? = some _›; simpa using h9) (.mk _ _ _ _ _ (by assumption) (by omega) (by assumption))⟩)
 |fail) : p := h
theorem kB2 (h : p := by
 first
 |(refine MC_pure (s67 _ _ _ _ ih ‹_›) pE dE2 ?_; exact kD2)
 |(refine MC_pure (ih.b ‹BZ _ _› _) pE dE2 ?_; exact kD2)
 |(refine MC_pure (s13 _ ih l_body) pE dE2 ?_; exact kD2)
 |exact ⟨_, rfl, fun h => absurd h Bool.false_ne_true⟩
 |((refine ⟨_, rfl, fun hq => ?_⟩; (try simp only [decide_eq_true_eq] at hq); first | exact .mk _ _ _ _ (hU.all (by omega)) (by assumption) | done | fail)) <;> exact Ae2
 |fail) : p := h
end QSe2
namespace QSe1
theorem fB1 (x : a) (g : q) (h : a → q → p := by (intro x g; exact n1 (j x (j l_args.1 (j l_args.2.1 (j l_body.1 (j l_body.2.1 (j hTT hHH)))))) g)) : p := h x g
theorem kA1 (h : p := by
 first
 |exact kR1
 |fail) : p := h
theorem kB1 (h : p := by
 first
 |(refine MC_pure (s40 _) pE dE1 ?_; rintro _ ⟨c, rfl, hc⟩; refine fB1 hTT ?_; exact Ae1)
 |exact ⟨_, rfl, fun h => absurd h Bool.false_ne_true⟩
 |((refine ⟨_, rfl, fun hq => ?_⟩; (try simp only [decide_eq_true_eq] at hq); first | exact .mk _ _ _ _ (by assumption) (by assumption) | done | fail)) <;> exact Ae1
 |fail) : p := h
theorem kZ1 (h : p := by
 first
 |skip
  have hB := l_args.1.len
  refine M_loop (fun n s => ∃ i : Nat, i + n = (els args).length ∧ s.t 1 = .bool arrow ∧ s.t 2 = .int .i64 deep ∧ s.t 3 = .ptr 1 1 0 ∧ s.t 7 = .int .i64 i ∧ s.H 1 = some ⟨121, 1, [.int .i64 name, .int .i64 flags, args, body], 0⟩ ∧ Upto OkA args i) ?_ (n := (els args).length) ⟨0, by simp, z1 (j l_args.1 (j l_args.2.1 (j l_body.1 l_body.2.1))), z1 (j l_args.1 (j l_args.2.1 (j l_body.1 l_body.2.1))), z1 (j l_args.1 (j l_args.2.1 (j l_body.1 l_body.2.1))), z1 (j l_args.1 (j l_args.2.1 (j l_body.1 l_body.2.1))), z1 (j l_args.1 (j l_args.2.1 (j l_body.1 l_body.2.1))), Upto.zero⟩
  rintro n ⟨t, H, k⟩ ⟨i, hi, h1, h2, h3, hI, e1, hU⟩ next
  simp only at h1 h2 h3 hI e1
  refine n1 (j h1 (j h2 (j h3 (j hI (j e1 (j l_args.1 (j l_args.2.1 (j l_body.1 l_body.2.1)))))))) ?_
  open QSe2 in exact Ae2
  done
 |fail) : p := h
end QSe1
theorem s36 {m : Nat} {x : List PV} (arrow : Bool) (deep : Int) (ih : IHs X G m) (hx : FuncC x) (hm : SizeOf.sizeOf x ≤ m) : Pure Tab X G 36 [.agg x, .bool arrow, .int .i64 deep] (OkR (OkF x)) := by
 obtain ⟨name, flags, args, body, rfl, l_args, l_body⟩ := hx.open (hm)
 refine Fn_of T36 (by simp) ?_
 refine n1 (j l_args.1 (j l_args.2.1 (j l_body.1 l_body.2.1))) ?_
 open QSe1 in exact Ae1
namespace QSe3
theorem fB1 (x : a) (g : q) (h : a → q → p := by (intro x g; exact n1 (j x (j h0 (j h1 (j h5 (j hI (j lv.1 (j hTT hHH))))))) g)) : p := h x g
theorem kA1 (h : p := by
 first
 |(refine next (n - 1) (by omega) _ ⟨i + 1, by omega, z1 h0, z1 h1, by (refine s1 h5 ?_; exact ⟨_, rfl⟩), by refine s1 hI ?_; rw [wrap_i64 (by omega) (by omega)]; rfl, Upto.succ hU (by have h9 := ‹(els v)[((_ : Nat) : Int).toNat]? = some _›; simpa using h9) (.mk _ _ (by omega) (by assumption) (by assumption))⟩)
 |fail) : p := h
theorem kB1 (h : p := by
 first
 |(refine MC_pure (s67 _ _ _ _ ih ‹_›) pE dE1 ?_; exact kD1)
 |(refine MC_pure (s13 _ ih ‹_›) pE dE1 ?_; exact kD1)
 |exact ⟨_, rfl, fun h => absurd h Bool.false_ne_true⟩
 |((refine ⟨_, rfl, fun hq => ?_⟩; (try simp only [decide_eq_true_eq] at hq); first | exact hU.all (by omega) | done | fail)) <;> exact Ae1
 |fail) : p := h
end QSe3
theorem s39 {m : Nat} {v : PV} (deep : Int) (ih : IHs X G m) (lv : SlP (KZ m) v) : Pure Tab X G 39 [v, .int .i64 deep] (OkR (∀ y, y ∈ els v → OkK y)) := by
 refine Fn_of T39 (by simp) ?_
 refine s0 ?_
 have hB := lv.1.len
 refine M_loop (fun n s => ∃ i : Nat, i + n = (els v).length ∧ s.t 0 = v ∧ s.t 1 = .int .i64 deep ∧ (∃ z5, s.t 5 = .int .i64 z5) ∧ s.t 6 = .int .i64 i ∧ Upto OkK v i) ?_ (n := (els v).length) ⟨0, by simp, z0, z0, by (refine s0 ?_; exact ⟨_, rfl⟩), z0, Upto.zero⟩
 rintro n ⟨t, H, k⟩ ⟨i, hi, h0, h1, ⟨z5, h5⟩, hI, hU⟩ next
 simp only at h0 h1 h5 hI
 refine n1 (j h0 (j h1 (j h5 (j hI lv.1)))) ?_
 open QSe3 in exact Ae1
namespace QSe5
theorem fB2 (x : a) (g : q) (h : a → q → p := by (intro x g; exact n1 (j x (j h1 (j h2 (j hI (j e1 (j l_ext.1 (j l_ext.2.1 (j l_members.1 (j l_members.2.1 (j hTT hHH)))))))))) g)) : p := h x g
theorem kA2 (h : p := by
 first
 |(refine next (n - 1) (by omega) _ ⟨i + 1, by omega, z1 h1, z1 h2, by refine s1 hI ?_; rw [wrap_i64 (by omega) (by omega)]; rfl, z1 e1, Upto.succ hU (by have h9 := ‹(els members)[((_ : Nat) : Int).toNat]? = some _›; simpa using h9) (.mk _ _ _ _ _ _ (by first | omega | (have hws := wsum3 yl_key.1.len yl_value.1.len yl_init.1.len (by assumption); omega)) (by first | omega | (have hws := wsum3 yl_key.1.len yl_value.1.len yl_init.1.len (by assumption); omega)) (by first | omega | (have hws := wsum3 yl_key.1.len yl_value.1.len yl_init.1.len (by assumption); omega)) (by omega) (by first | assumption | exact none_all (by omega) | (have hws := wsum3 yl_key.1.len yl_value.1.len yl_init.1.len (by assumption); exact none_all (by omega))) (by first | assumption | exact none_all (by omega) | (have hws := wsum3 yl_key.1.len yl_value.1.len yl_init.1.len (by assumption); exact none_all (by omega))) (by first | assumption | exact none_all (by omega) | (have hws := wsum3 yl_key.1.len yl_value.1.len yl_init.1.len (by assumption); exact none_all (by omega))) (by intro hq; first | assumption | omega))⟩)
 |fail) : p := h
theorem kB2 (h : p := by
 first
 |(refine MC_pure (s67 _ _ _ _ ih ‹_›) pE dE2 ?_; exact kD2)
 |(refine MC_pure (s68 _ _ _ ih ‹_›) pE dE2 ?_; exact kD2)
 |(refine MC_pure (s13 _ ih ‹_›) pE dE2 ?_; exact kD2)
 |(refine MC_pure (s69 _ (‹EZ _ _› : EZ _ _).1 (‹EZ _ _› : EZ _ _).le) pE dE2 ?_; exact kC2)
 |exact ⟨_, rfl, fun h => absurd h Bool.false_ne_true⟩
 |((refine ⟨_, rfl, fun hq => ?_⟩; (try simp only [decide_eq_true_eq] at hq); first | exact .mk _ _ _ (by omega) (by assumption) (hU.all (by omega)) | done | fail)) <;> exact Ae2
 |fail) : p := h
end QSe5
namespace QSe4
theorem fB1 (x : a) (g : q) (h : a → q → p := by (intro x g; exact n1 (j x (j l_ext.1 (j l_ext.2.1 (j l_members.1 (j l_members.2.1 (j hTT hHH)))))) g)) : p := h x g
theorem kB1 (h : p := by
 first
 |(refine MC_pure (s40 _) pE dE1 ?_; exact kD1)
 |(refine MC_pure (s67 _ _ _ _ ih ‹_›) pE dE1 ?_; exact kD1)
 |exact ⟨_, rfl, fun h => absurd h Bool.false_ne_true⟩
 |((refine ⟨_, rfl, fun hq => ?_⟩; (try simp only [decide_eq_true_eq] at hq); first | exact .mk _ _ _ (by omega) (by assumption) (by assumption) | done | fail)) <;> exact Ae1
 |fail) : p := h
theorem kZ1 (h : p := by
 first
 |skip
  have hB := l_members.1.len
  refine M_loop (fun n s => ∃ i : Nat, i + n = (els members).length ∧ s.t 1 = .int .i64 (IntKind.i64.wrap (deep - 1)) ∧ s.t 2 = .ptr 1 1 0 ∧ s.t 5 = .int .i64 i ∧ s.H 1 = some ⟨125, 1, [.int .i64 (-1), ext, members], 0⟩ ∧ Upto OkM members i) ?_ (n := (els members).length) ⟨0, by simp, z1 (j l_ext.1 (j l_ext.2.1 (j l_members.1 l_members.2.1))), z1 (j l_ext.1 (j l_ext.2.1 (j l_members.1 l_members.2.1))), z1 (j l_ext.1 (j l_ext.2.1 (j l_members.1 l_members.2.1))), z1 (j l_ext.1 (j l_ext.2.1 (j l_members.1 l_members.2.1))), Upto.zero⟩
  rintro n ⟨t, H, k⟩ ⟨i, hi, h1, h2, hI, e1, hU⟩ next
  simp only at h1 h2 hI e1
  refine n1 (j h1 (j h2 (j hI (j e1 (j l_ext.1 (j l_ext.2.1 (j l_members.1 l_members.2.1))))))) ?_
  open QSe5 in exact Ae2
  done
 |fail) : p := h
end QSe4
namespace QSe7
theorem fB2 (x : a) (g : q) (h : a → q → p := by (intro x g; exact n1 (j x (j h1 (j h2 (j hI (j e1 (j l_ext.1 (j l_ext.2.1 (j l_members.1 (j l_members.2.1 (j hTT hHH)))))))))) g)) : p := h x g
theorem kA2 (h : p := by
 first
 |(refine next (n - 1) (by omega) _ ⟨i + 1, by omega, z1 h1, z1 h2, by refine s1 hI ?_; rw [wrap_i64 (by omega) (by omega)]; rfl, z1 e1, Upto.succ hU (by have h9 := ‹(els members)[((_ : Nat) : Int).toNat]? = some _›; simpa using h9) (.mk _ _ _ _ _ _ (by first | omega | (have hws := wsum3 yl_key.1.len yl_value.1.len yl_init.1.len (by assumption); omega)) (by first | omega | (have hws := wsum3 yl_key.1.len yl_value.1.len yl_init.1.len (by assumption); omega)) (by first | omega | (have hws := wsum3 yl_key.1.len yl_value.1.len yl_init.1.len (by assumption); omega)) (by omega) (by first | assumption | exact none_all (by omega) | (have hws := wsum3 yl_key.1.len yl_value.1.len yl_init.1.len (by assumption); exact none_all (by omega))) (by first | assumption | exact none_all (by omega) | (have hws := wsum3 yl_key.1.len yl_value.1.len yl_init.1.len (by assumption); exact none_all (by omega))) (by first | assumption | exact none_all (by omega) | (have hws := wsum3 yl_key.1.len yl_value.1.len yl_init.1.len (by assumption); exact none_all (by omega))) (by intro hq; first | assumption | omega))⟩)
 |fail) : p := h
theorem kB2 (h : p := by
 first
 |(refine MC_pure (s67 _ _ _ _ ih ‹_›) pE dE2 ?_; exact kD2)
 |(refine MC_pure (s68 _ _ _ ih ‹_›) pE dE2 ?_; exact kD2)
 |(refine MC_pure (s13 _ ih ‹_›) pE dE2 ?_; exact kD2)
 |(refine MC_pure (s69 _ (‹EZ _ _› : EZ _ _).1 (‹EZ _ _› : EZ _ _).le) pE dE2 ?_; exact kC2)
 |exact ⟨_, rfl, fun h => absurd h Bool.false_ne_true⟩
 |((refine ⟨_, rfl, fun hq => ?_⟩; (try simp only [decide_eq_true_eq] at hq); first | exact .mk _ _ _ (by omega) (by assumption) (hU.all (by omega)) | done | fail)) <;> exact Ae2
 |fail) : p := h
end QSe7
namespace QSe6
theorem fB1 (x : a) (g : q) (h : a → q → p := by (intro x g; exact n1 (j x (j l_ext.1 (j l_ext.2.1 (j l_members.1 (j l_members.2.1 (j hn1 (j hTT hHH))))))) g)) : p := h x g
theorem kB1 (h : p := by
 first
 |(refine MC_pure (s40 _) pE dE1 ?_; exact kD1)
 |(refine MC_pure (s67 _ _ _ _ ih ‹_›) pE dE1 ?_; exact kD1)
 |exact ⟨_, rfl, fun h => absurd h Bool.false_ne_true⟩
 |((refine ⟨_, rfl, fun hq => ?_⟩; (try simp only [decide_eq_true_eq] at hq); first | exact .mk _ _ _ (by omega) (by assumption) (by assumption) | done | fail)) <;> exact Ae1
 |fail) : p := h
theorem kZ1 (h : p := by
 first
 |skip
  have hB := l_members.1.len
  refine M_loop (fun n s => ∃ i : Nat, i + n = (els members).length ∧ s.t 1 = .int .i64 (IntKind.i64.wrap (deep - 1)) ∧ s.t 2 = .ptr 1 1 0 ∧ s.t 5 = .int .i64 i ∧ s.H 1 = some ⟨125, 1, [.int .i64 (name), ext, members], 0⟩ ∧ Upto OkM members i) ?_ (n := (els members).length) ⟨0, by simp, z1 (j l_ext.1 (j l_ext.2.1 (j l_members.1 l_members.2.1))), z1 (j l_ext.1 (j l_ext.2.1 (j l_members.1 l_members.2.1))), z1 (j l_ext.1 (j l_ext.2.1 (j l_members.1 l_members.2.1))), z1 (j l_ext.1 (j l_ext.2.1 (j l_members.1 l_members.2.1))), Upto.zero⟩
  rintro n ⟨t, H, k⟩ ⟨i, hi, h1, h2, hI, e1, hU⟩ next
  simp only at h1 h2 hI e1
  refine n1 (j h1 (j h2 (j hI (j e1 (j l_ext.1 (j l_ext.2.1 (j l_members.1 l_members.2.1))))))) ?_
  open QSe7 in exact Ae2
  done
 |fail) : p := h
end QSe6
theorem s37 {m : Nat} {x : List PV} (deep : Int) (ih : IHs X G m) (hx : ClassC x) (hm : SizeOf.sizeOf x ≤ m) : Pure Tab X G 37 [.agg x, .int .i64 deep] (OkR (OkC x)) := by
 obtain ⟨name, ext, members, rfl, l_ext, l_members⟩ := hx.open (hm)
 by_cases hn1 : name = -1
 ·subst hn1
  refine Fn_of T37 (by simp) ?_
  refine n1 (j l_ext.1 (j l_ext.2.1 (j l_members.1 l_members.2.1))) ?_
  open QSe4 in exact Ae1
 ·refine Fn_of T37 (by simp) ?_
  refine n1 (j l_ext.1 (j l_ext.2.1 (j l_members.1 (j l_members.2.1 hn1)))) ?_
  open QSe6 in exact Ae1
end
end Go.Pi
end
