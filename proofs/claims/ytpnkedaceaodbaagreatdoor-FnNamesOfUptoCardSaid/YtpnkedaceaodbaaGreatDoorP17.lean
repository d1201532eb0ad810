import Derived.Test.YtpnkedaceaodbaaGreatDoorP06
import Derived.Test.YtpnkedaceaodbaaGreatDoorP07
import Derived.Test.YtpnkedaceaodbaaGreatDoorP08
import Derived.Test.YtpnkedaceaodbaaGreatDoorP09
import Derived.Test.YtpnkedaceaodbaaGreatDoorP14
import Derived.Test.YtpnkedaceaodbaaGreatDoorP15
import Derived.Test.YtpnkedaceaodbaaGreatDoorP16
/- Part of the proof. -/
set_option linter.all false
set_option maxHeartbeats 0
set_option maxRecDepth 100000
section
open Go Go.Pi
namespace Go.Pi
variable {p q a : Prop}
section
variable {X : CallF} {G : Nat → PV}
namespace QFh2
theorem kA2 (h : p := by
 first
 |exact kFm
 |exact kH
 |fail) : p := h
theorem kB2 (h : p := by
 first
 |(refine MC_mt (h74 ‹MZ _ _›) cA dM hF ?_; exact kMN2)
 |(refine M_push (A := [2006, 8007]) (ys := ys) (v := v) (cA) (cA) (cA) (cA) (hgw.frame (by intro b hb; simp only [List.mem_cons, List.not_mem_nil, or_false] at hb; rcases hb with rfl | rfl <;> exact cA)) (by simp) (by simp) (by intro b hb; simp at hb ⊢; omega) (by intro z hz; simp only [List.mem_cons, List.not_mem_nil, or_false] at hz; first | (subst hz; exact ⟨rfl, cA⟩) | (rcases hz with rfl | rfl <;> exact ⟨rfl, cA⟩)) (by simp) (by simp only [List.length_cons, List.length_nil]; omega) (by decide) (by intro f1 f2 f3; first | rfl | simp [closeOk, push, feetOk, apartL]) (fun t' H' n' v' ht' hO' hgr hf => ?_); have e0_n := hf 0 (by simp) (by simp) (by decide); have e2_n := hf 2 (by simp) (by simp) (by decide); (try refine nA ?_)) <;> exact Am2
 |fail) : p := h
theorem kZ2 (h : p := by
 first
 |skip
  all_goals first
   |(have next := nx; unfold Hid at next; generalize hzs : ys ++ [_] = zs at hgr; refine next (n - 1) (by omega) _ ⟨i + 1, _, v', zs, by omega, cA, cA, cA, cA, cA, by refine nA ?_; rw [wrap_i64 (by omega) (by omega)]; first | rfl | (congr 1; omega), cA, cA, cA, hgr, ?_, by rw [← hzs]; simp [hyl], fun h => (show b = true → fine = true from hFh) (hF h)⟩)
   |skip
  all_goals first
   |(intro y hy; rw [← hzs] at hy; rcases List.mem_append.1 hy with hy | hy; (focus exact hys y hy); (simp only [List.mem_singleton] at hy; subst hy; exact hnc))
   |skip
  all_goals
   refine ⟨?_, _, rfl, hFh, NdX_agg.2 (Nd_mk ⟨g1, g2, by rw [g3]; omega, fun y hy => hys y (by rw [g3] at hy; exact hy), fun h => absurd h (by omega)⟩)⟩
   have h0 : ¬ 0 ∈ gi v := fun h => absurd (g4 0 h) (by simp)
   simpa using h0
  done
 |fail) : p := h
end QFh2
namespace QFh1
theorem kA1 (h : p := by
 first
 |exact kFm
 |exact kH
 |fail) : p := h
theorem kB1 (h : p := by
 first
 |(refine MC_mt (r30 _) cA dM hF ?_; rintro _ b1 ⟨rfl, hnd⟩ hmono hF; exact kT1)
 |(refine MC_mt (r48 B _) cA dM hF ?_; rintro _ b1 ⟨s, rfl, hs48⟩ hmono hF; exact kT1)
 |(refine MC_mt (ih.e ‹EZ _ _›) cA dM hF ?_; exact kMN1)
 |fail) : p := h
theorem kZ1 (h : p := by
 first
 |skip
  all_goals
   have hB := l_members.1.len
   have hFh : Hid (_ → fine = true) := hF
   clear hF
   refine M_loop (fun n s' => ∃ (i : Nat) (b : Bool) (v : PV) (ys : List (List PV)), i + n = (els members).length ∧ s'.t 0 = .ptr 0 0 0 ∧ s'.t 4 = .ptr 2 2 0 ∧ s'.t 5 = .ptr 2008 16 0 ∧ s'.t 35 = members ∧ s'.t 36 = .int .i64 (els members).length ∧ s'.t 37 = .int .i64 i ∧
    s'.H 0 = some ⟨e, 0, [.bool b], 0⟩ ∧ s'.H 2 = some ⟨45, 2, zN, 0⟩ ∧ s'.H 2008 = some ⟨45, 16, [.int .i64 43, .str s, .str (bs []), .int .u64 0, v, .int .i64 0], 0⟩ ∧
    Grow [2006, 8007] s'.H 45 6 v ys ∧ (∀ y, y ∈ ys → Nd y) ∧ ys.length = i + 1 ∧ (b = true → fine = true)) ?_ (n := (els members).length)
    ⟨0, _, .row 2006 14 1, [_], by simp, z0, z0, z0, z0, z0, z0, z0, z0, z0, Grow.row1 (by simp) (z0) rfl (by first | rfl | exact cA), by intro y hy; simp only [List.mem_singleton] at hy; subst hy; simp [Nd_cells, NdF_nils, NdF_sl, *], rfl, hFh⟩
   rintro n ⟨t, H, k⟩ ⟨i, b, v, ys, hi, h0, h4, h6, h38, h39, h40, e0, e2, e5, hgw, hys, hyl, hFb⟩ next
   simp only at h0 h4 h6 h38 h39 h40 e0 e2 e5 hgw
   clear hFh
   have hFh : Hid (b = true → fine = true) := hFb
   clear hFb
   have hF : b = true → b = true := id
   have hE := fun (n : Nat) (c : Option Chunk) => (Grow.settleE (n := n) (hgw.frame (H' := H.put 2 c) (by intro b hb; simp only [List.mem_cons, List.not_mem_nil, or_false] at hb; rcases hb with rfl | rfl <;> exact cA)))
   obtain ⟨g1, g2, g3, g4⟩ := hgw.gv
   refine n1 (j h0 (j h4 (j h6 (j h38 (j h39 (j h40 (j e0 (j e2 e5)))))))) ?_
   have nx : Hid _ := next
   clear next
   open QFh2 in exact Am2
  done
 |fail) : p := h
end QFh1
theorem r47 {F : Int → ByteArray} (B : Base X G F) {m : Nat} {x : List PV} (ih : IHf X G m) (h74 : ∀ {y}, MZ m y → Mt Tab X G 74 [.agg y] (fun _ => NdX)) (hx : ClassC x) (hm : SizeOf.sizeOf x ≤ m) : Mt Tab X G 47 [.agg x] (fun _ => NdX) := by
 intro e fine
 have hF : fine = true → fine = true := id
 obtain ⟨name, ext, members, rfl, l_ext, l_members⟩ := hx.open (hm)
 have := l_ext.1; have := l_ext.2.1; have := l_members.1; have := l_members.2.1
 refine Fn_of T47 (by simp) ?_
 refine nA ?_
 open QFh1 in exact Am1
namespace QFh3
theorem kA1 (h : p := by
 first
 |((refine ⟨_, rfl, ?_, ?_⟩; (first | exact hF | exact fun _ => trivial | exact fun h => absurd h Bool.false_ne_true); (simp [NdX_agg, Nd_cells, Nd_num, NdF_nils, NdF_sl, *]; first | done | fail))) <;> exact Am1
 |((refine ⟨_, rfl, ?_, ?_⟩; (first | exact hF | exact fun _ => trivial | exact fun h => absurd h Bool.false_ne_true); exact NdX_agg.2 (Nd_mk (NdF_of ⟨hS, hDp, hLn, hMem⟩ (by have := l_block.1.len; omega) (by omega))))) <;> exact Am1
 |exact kH
 |(refine M_regm (e := e) 11 rfl rfl hF (fun R t0 H0 hTT hHH hR => M_reg.2 ?_) (fun c g n' b1 hF => ?_) <;> (try refine nA ?_) <;> exact Am1)
 |fail) : p := h
theorem kB1 (h : p := by
 first
 |(refine MC_mt (r30 _) cA dM hF ?_; rintro _ b1 ⟨rfl, hnd⟩ hmono hF; exact kT1)
 |(refine MC_mt (r14 ih ‹_›) cA dM hF ?_; exact kML1)
 |(refine MC_mt (h55 (by assumption) (by assumption) _ _ _) cA dM hF ?_; exact kMN1)
 |(refine MC_mt (r83 B ih _ ‹EZ _ _›) cA dM hF ?_; exact kMN1)
 |(refine MC_mt (ih.e ‹EZ _ _›) cA dM hF ?_; exact kMN1)
 |fail) : p := h
end QFh3
theorem r74 {F : Int → ByteArray} (B : Base X G F) {m : Nat} {x : List PV} (ih : IHf X G m) (h55 : ∀ {k v}, EZ m k → EZ m v → ∀ (kind flags : Int) (static : Bool), Mt Tab X G 55 [.int .i64 kind, .int .i64 flags, .agg k, .agg v, .bool static] (fun _ => NdX)) (hx : MemberC x) (hm : SizeOf.sizeOf x ≤ m) : Mt Tab X G 74 [.agg x] (fun _ => NdX) := by
 intro e fine
 have hF : fine = true → fine = true := id
 obtain ⟨kind, flags, key, value, init, block, rfl, l_key, l_value, l_init, l_block⟩ := hx.open (hm)
 have := l_key.1; have := l_key.2.1; have := l_value.1; have := l_value.2.1; have := l_init.1; have := l_init.2.1; have := l_block.1; have := l_block.2.1
 refine Fn_of T74 (by simp) ?_
 refine nA ?_
 open QFh3 in exact Am1
end
end Go.Pi
end
section
open Go Go.Pi
namespace Go.Pi
variable {p q a : Prop}
section
variable {X : CallF} {G : Nat → PV}
namespace QFi1
theorem kA1 (h : p := by
 first
 |exact kFm
 |exact kH
 |fail) : p := h
theorem kB1 (h : p := by
 first
 |(refine MC_mt (r30 _) cA dM hF ?_; rintro _ b1 ⟨rfl, hnd⟩ hmono hF; exact kT1)
 |(refine MC_mt (h45 ‹SZ _ _›) cA dM hF ?_; exact kMN1)
 |(refine MC_mt (ih.s ‹SZ _ _›) cA dM hF ?_; exact kMN1)
 |(refine MC_mt (r44 ih ‹_›) cA dM hF ?_; exact kMN1)
 |(refine MC_mt (r102 ih ‹EZ _ _›) cA dM hF ?_; exact kMN1)
 |fail) : p := h
end QFi1
theorem r75 {F : Int → ByteArray} {m : Nat} {x : List PV} (ih : IHf X G m) (h45 : ∀ {y}, SZ m y → Mt Tab X G 45 [.agg y] (fun _ => NdX)) (hx : StmtC x) (hm : SizeOf.sizeOf x ≤ m) : Mt Tab X G 75 [.agg x] (fun _ => NdX) := by
 intro e fine
 have hF : fine = true → fine = true := id
 obtain ⟨kind, op, ref, flags, str, exprs, kids, decls, cases, fns, classes, rfl, l_str, l_exprs, l_kids, l_decls, l_cases, l_fns, l_classes⟩ := hx.open (hm)
 have := l_str.1; have := l_str.2.1; have := l_exprs.1; have := l_exprs.2.1; have := l_kids.1; have := l_kids.2.1; have := l_decls.1; have := l_decls.2.1; have := l_cases.1; have := l_cases.2.1; have := l_fns.1; have := l_fns.2.1; have := l_classes.1; have := l_classes.2.1
 refine Fn_of T75 (by simp) ?_
 refine nA ?_
 open QFi1 in exact Am1
namespace QFi2
theorem kA1 (h : p := by
 first
 |exact kFm
 |exact kH
 |fail) : p := h
theorem kB1 (h : p := by
 first
 |(refine MC_mt (r30 _) cA dM hF ?_; rintro _ b1 ⟨rfl, hnd⟩ hmono hF; exact kT1)
 |(refine MC_mt (h45 (by assumption)) cA dM hF ?_; exact kMN1)
 |(refine MC_mt (ih.s ‹SZ _ _›) cA dM hF ?_; exact kMN1)
 |(refine MC_mt (r44 ih ‹_›) cA dM hF ?_; exact kMN1)
 |fail) : p := h
end QFi2
theorem r76 {F : Int → ByteArray} {m : Nat} {x : List PV} (ih : IHf X G m) (h45 : ∀ {y}, SZ m y → Mt Tab X G 45 [.agg y] (fun _ => NdX)) (hx : StmtC x) (hm : SizeOf.sizeOf x ≤ m) : Mt Tab X G 76 [.agg x] (fun _ => NdX) := by
 intro e fine
 have hF : fine = true → fine = true := id
 obtain ⟨kind, op, ref, flags, str, exprs, kids, decls, cases, fns, classes, rfl, l_str, l_exprs, l_kids, l_decls, l_cases, l_fns, l_classes⟩ := hx.open (hm)
 have := l_str.1; have := l_str.2.1; have := l_exprs.1; have := l_exprs.2.1; have := l_kids.1; have := l_kids.2.1; have := l_decls.1; have := l_decls.2.1; have := l_cases.1; have := l_cases.2.1; have := l_fns.1; have := l_fns.2.1; have := l_classes.1; have := l_classes.2.1
 refine Fn_of T76 (by simp) ?_
 refine nA ?_
 open QFi2 in exact Am1
namespace QFi3
theorem kA1 (h : p := by
 first
 |((refine ⟨_, rfl, ?_, ?_⟩; (first | exact hF | exact fun _ => trivial | exact fun h => absurd h Bool.false_ne_true); (simp [NdX_agg, Nd_cells, Nd_num, NdF_nils, NdF_sl, *]; first | done | fail))) <;> exact Am1
 |((refine ⟨_, rfl, ?_, ?_⟩; (first | exact hF | exact fun _ => trivial | exact fun h => absurd h Bool.false_ne_true); exact NdX_agg.2 (Nd_mk (NdF_of ⟨hS, hDp, hLn, hMem⟩ (by have := l_kids.1.len; omega) (by omega))))) <;> exact Am1
 |exact kH
 |fail) : p := h
theorem kB1 (h : p := by
 first
 |(refine MC_mt (r30 _) cA dM hF ?_; rintro _ b1 ⟨rfl, hnd⟩ hmono hF; exact kT1)
 |(refine MC_mt (h45) cA dM hF ?_; exact kMN1)
 |(refine MC_mt (h49) cA dM hF ?_; exact kMN1)
 |(refine MC_mt (h46 ‹FZ _ _› _) cA dM hF ?_; exact kMN1)
 |(refine MC_mt (h47 ‹CZ _ _›) cA dM hF ?_; exact kMN1)
 |(refine MC_mt (r14 ih ‹_›) cA dM hF ?_; exact kML1)
 |(refine MC_mt (r44 ih ‹_›) cA dM hF ?_; exact kMN1)
 |(refine MC_mt (r48 B _) cA dM hF ?_; rintro _ b1 ⟨s, rfl, hs48⟩ hmono hF; exact kT1)
 |(refine MC_pure (B.h42 l_str) pE dM ?_; rintro _ ⟨s', rfl, hs'⟩; exact kT1)
 |(refine MC_pure (B.h41 _ (by assumption)) pE dM ?_; rintro _ ⟨s2, b2, rfl, hs2⟩; exact kT1)
 |(refine MC_pure (B.h43 _ (by assumption)) pE dM ?_; rintro _ ⟨b3, rfl⟩; exact kT1)
 |fail) : p := h
end QFi3
theorem r21 {F : Int → ByteArray} (B : Base X G F) {m : Nat} {x : List PV} (ih : IHf X G m) (h45 : Mt Tab X G 45 [.agg x] (fun _ => NdX)) (h46 : ∀ {y}, FZ m y → ∀ k, Mt Tab X G 46 [.agg y, .int .u64 k] (fun _ => NdX)) (h47 : ∀ {y}, CZ m y → Mt Tab X G 47 [.agg y] (fun _ => NdX)) (h49 : Mt Tab X G 49 [.agg x] (fun _ => NdX)) (hx : StmtC x) (hm : SizeOf.sizeOf x ≤ m) : Mt Tab X G 21 [.agg x] (fun _ => NdX) := by
 intro e fine
 have hF : fine = true → fine = true := id
 have hx0 := hx
 obtain ⟨kind, op, ref, flags, str, exprs, kids, decls, cases, fns, classes, rfl, l_str, l_exprs, l_kids, l_decls, l_cases, l_fns, l_classes⟩ := hx0.open (hm)
 have := l_str.1; have := l_str.2.1; have := l_exprs.1; have := l_exprs.2.1; have := l_kids.1; have := l_kids.2.1; have := l_decls.1; have := l_decls.2.1; have := l_cases.1; have := l_cases.2.1; have := l_fns.1; have := l_fns.2.1; have := l_classes.1; have := l_classes.2.1
 refine Fn_of T21 (by simp) ?_
 refine nA ?_
 open QFi3 in exact Am1
end
end Go.Pi
end
section
open Go Go.Pi
namespace Go.Pi
variable {p q a : Prop}
section
variable {X : CallF} {G : Nat → PV}
namespace QFj1
theorem kA1 (h : p := by
 first
 |exact kFm
 |exact kH
 |(refine M_regm (e := e) 72 rfl rfl hF (fun R t0 H0 hTT hHH hR => M_reg.2 ?_) (fun c g n' b1 hF => ?_) <;> (try refine nA ?_) <;> exact Am1)
 |(refine M_regm (e := e) 80 rfl rfl hF (fun R t0 H0 hTT hHH hR => M_reg.2 ?_) (fun c g n' b1 hF => ?_) <;> (try refine nA ?_) <;> exact Am1)
 |(refine M_regm (e := e) 97 rfl rfl hF (fun R t0 H0 hTT hHH hR => M_reg.2 ?_) (fun c g n' b1 hF => ?_) <;> (try refine nA ?_) <;> exact Am1)
 |fail) : p := h
theorem kB1 (h : p := by
 first
 |(refine MC_mt (r30 _) cA dM hF ?_; rintro _ b1 ⟨rfl, hnd⟩ hmono hF; exact kT1)
 |(refine MC_mt (r83 B ih _ hkx) cA dM hF ?_; exact kMN1)
 |(refine MC_mt (h46 hfz _) cA dM hF ?_; exact kMN1)
 |(refine MC_mt (h46 ‹FZ _ _› _) cA dM hF ?_; exact kMN1)
 |(refine MC_mt (h46 hy _) cA dM hF ?_; exact kMN1)
 |fail) : p := h
end QFj1
theorem r55 {F : Int → ByteArray} (B : Base X G F) {m : Nat} {kx vx : List PV} (ih : IHf X G m) (h46 : ∀ {y}, FZ m y → ∀ k, Mt Tab X G 46 [.agg y, .int .u64 k] (fun _ => NdX)) (hkx : EZ m kx) (hvx : EZ m vx) (kind0 flags0 : Int) (static : Bool) : Mt Tab X G 55 [.int .i64 kind0, .int .i64 flags0, .agg kx, .agg vx, .bool static] (fun _ => NdX) := by
 intro e fine
 have hF : fine = true → fine = true := id
 have hkx0 := hkx
 obtain ⟨hk1, hk2⟩ := hkx0
 obtain ⟨akind, aop, aref, achain, aflags, ann, astr, atext, akids, aprops, aparts, afns, aclasses, rfl, ahn, al_str, aht, al_kids, al_props, al_parts, al_fns, al_classes⟩ := hk1.open (Nat.le_of_lt hk2)
 have := al_str.2.1; have := al_kids.2.1; have := al_props.2.1; have := al_parts.2.1; have := al_fns.2.1; have := al_classes.2.1
 obtain ⟨hv1, hv2⟩ := hvx
 have hm := Nat.le_of_lt hv2
 obtain ⟨kind, op, ref, chain, flags, nn, str, text, kids, props, parts, fns, classes, rfl, hn, l_str, ht, l_kids, l_props, l_parts, l_fns, l_classes⟩ := hv1.open (hm)
 have := l_str.1; have := l_str.2.1; have := l_kids.1; have := l_kids.2.1; have := l_props.1; have := l_props.2.1; have := l_parts.1; have := l_parts.2.1; have := l_fns.1; have := l_fns.2.1; have := l_classes.1; have := l_classes.2.1
 have hfz : FZ m [.int .i64 (-1), .int .i64 0, .nils, .nils] := ⟨.mk _ _ _ _ (.inl rfl) (by simp [els]) (.inl rfl) (by simp [els]) rfl, by
  have h1 : SizeOf.sizeOf (-1 : Int) = 1 := rfl
  have h2 : SizeOf.sizeOf (0 : Int) = 1 := rfl
  have h3 : SizeOf.sizeOf IntKind.i64 = 1 := rfl
  simp only [List.cons.sizeOf_spec, List.nil.sizeOf_spec, PV.int.sizeOf_spec, PV.nils.sizeOf_spec, PV.flt.sizeOf_spec, PV.str.sizeOf_spec, h1, h2] at hv2 ⊢
  omega⟩
 refine Fn_of T55 (by simp) ?_
 refine nA ?_
 open QFj1 in exact Am1
end
end Go.Pi
end
section
open Go Go.Pi
namespace Go.Pi
variable {p q a : Prop}
section
variable {X : CallF} {G : Nat → PV}
namespace QFk2
theorem kA2 (h : p := by
 first
 |exact kFm
 |exact kH
 |fail) : p := h
theorem kB2 (h : p := by
 first
 |(refine MC_mt (r30 _) cA dM hF ?_; rintro _ b1 ⟨rfl, hnd⟩ hmono hF; exact kT2)
 |(refine MC_mt (ih.e ‹EZ _ _›) cA dM hF ?_; exact kMN2)
 |(refine MC_mt (r63 B _ _ (by assumption) (by assumption)) cA dM hF ?_; exact kMN2)
 |(refine MC_pure (r58 (‹EZ _ _› : EZ _ _).1 (‹EZ _ _› : EZ _ _).le) pE dM ?_; rintro _ ⟨c, rfl⟩; exact kT2)
 |(refine MC_pure (r60 ‹Nd _›) pE dM ?_; rintro _ ⟨c, rfl⟩; exact kT2)
 |(refine MC_pure (r59 ‹Nd _›) pE dM ?_; exact kPN2)
 |(refine M_push (A := [3008, 9017]) (ys := ys) (v := v) (cA) (cA) (cA) (cA) (hgw.frame (by intro b hb; simp only [List.mem_cons, List.not_mem_nil, or_false] at hb; rcases hb with rfl | rfl <;> exact cA)) (by simp) (by simp) (by intro b hb; simp at hb ⊢; omega) (by intro z hz; simp only [List.mem_cons, List.not_mem_nil, or_false] at hz; first | (subst hz; exact ⟨rfl, cA⟩) | (rcases hz with rfl | rfl <;> exact ⟨rfl, cA⟩)) (by simp) (by simp only [List.length_cons, List.length_nil]; omega) (by decide) (by intro f1 f2 f3; first | rfl | simp [closeOk, push, feetOk, apartL]) (fun t' H' n' v' ht' hO' hgr hf => ?_); have e0_n := hf 0 (by simp) (by simp) (by decide); have e1_n := hf 1 (by simp) (by simp) (by decide); have e2_n := hf 2 (by simp) (by simp) (by decide); (try refine nA ?_)) <;> exact Am2
 |fail) : p := h
theorem kZ2 (h : p := by
 first
 |skip
  all_goals first
   |(have next := nx; unfold Hid at next; generalize hzs : ys ++ _ = zs at hgr; refine next (n - 1) (by omega) _ ⟨i + 1, _, v', zs, so, by omega, cA, cA, cA, cA, cA, cA, cA, by refine nA ?_; rw [wrap_i64 (by omega) (by omega)]; first | rfl | (congr 1; omega), cA, cA, cA, cA, hgr, ?_, by rw [← hzs]; simp [hyl]; omega, ?_⟩)
   |(refine ⟨?_, _, rfl, ?_, ?_⟩)
   |skip
  all_goals first
   |(intro y hy; rw [← hzs] at hy; rcases List.mem_append.1 hy with hy | hy; (focus exact hys y hy); (simp only [List.mem_cons, List.not_mem_nil, or_false] at hy; rcases hy with rfl | rfl <;> assumption))
   |skip
  all_goals first
   |exact fun h => absurd h Bool.false_ne_true
   |exact fun h => (show b = true → fine = true from hFh) (hF h)
   |(simpa using fun h : 0 ∈ gi v => absurd (g4 0 h) (by simp))
   |(have h108 : Nd [.int .i64 108, .str (bs []), .str (bs []), .int .u64 0, gv v ys, .int .i64 0] := Nd_mk ⟨g1, g2, by rw [g3]; omega, fun y hy => hys y (by rw [g3] at hy; exact hy), fun h => absurd h (by omega)⟩ (by intro h; omega) (by intro h; omega); simp [NdX_agg, h108]; done)
   |(have h108 : Nd [.int .i64 108, .str (bs []), .str (bs []), .int .u64 0, gv v ys, .int .i64 0] := Nd_mk ⟨g1, g2, by rw [g3]; omega, fun y hy => hys y (by rw [g3] at hy; exact hy), fun h => absurd h (by omega)⟩ (by intro h; omega) (by intro h; omega); clear hE; refine NdX_agg.2 (Nd_mk (NdF_sl.2 ?_) (by intro h; omega) (by intro h; omega)); simp [*]; done)
  done
 |fail) : p := h
end QFk2
namespace QFk1
theorem kA1 (h : p := by
 first
 |exact kFm
 |exact kH
 |fail) : p := h
theorem kB1 (h : p := by
 first
 |(refine MC_mt (r30 _) cA dM hF ?_; rintro _ b1 ⟨rfl, hnd⟩ hmono hF; exact kT1)
 |(refine MC_mt (r63 B _ _ ht l_str) cA dM hF ?_; exact kMN1)
 |fail) : p := h
theorem kZ1 (h : p := by
 first
 |skip
  have hB := l_parts.1.len
  have hFh : Hid (_ → fine = true) := hF
  clear hF
  refine M_loop (fun n s' => ∃ (i : Nat) (b : Bool) (v : PV) (ys : List (List PV)) (so : Nat), i + n = (els parts).length ∧ s'.t 0 = .ptr 0 0 0 ∧ s'.t 3 = .ptr 1 1 0 ∧ s'.t 4 = .ptr 2 2 0 ∧ s'.t 5 = .bool true ∧ s'.t 6 = .ptr 3010 so 0 ∧ s'.t 30 = parts ∧ s'.t 31 = .int .i64 (els parts).length ∧ s'.t 32 = .int .i64 i ∧
   s'.H 0 = some ⟨e, 0, [.bool b], 0⟩ ∧ s'.H 1 = some ⟨54, 1, [.int .i64 kind, .int .i64 op, .int .i64 ref, .int .i64 chain, .int .i64 flags, .flt .f64 ff, str, .str text, kids, props, parts, fns, classes], 0⟩ ∧ s'.H 2 = some ⟨45, 2, zN, 0⟩ ∧ s'.H 3010 = some ⟨45, so, [.int .i64 108, .str (bs []), .str (bs []), .int .u64 0, v, .int .i64 0], 0⟩ ∧
   Grow [3008, 9017] s'.H 45 6 v ys ∧ (∀ y, y ∈ ys → Nd y) ∧ ys.length = 2 * i + 1 ∧ (b = true → fine = true)) ?_ (n := (els parts).length)
   ⟨0, _, _, [_], _, by simp, z0, z0, z0, by first | (exact z0) | (exact zA) | (exact zA), z0, z0, z0, z0, z0, z0, z0, z0, Grow.row1 (by simp) (z0) rfl (by first | rfl | exact cA), by intro y hy; simp only [List.mem_singleton] at hy; subst hy; assumption, rfl, hFh⟩
  rintro n ⟨t, H, k⟩ ⟨i, b, v, ys, so, hi, h0, h3, h4, h5, h6, h30, h31, h32, e0, e1, e2, e3010, hgw, hys, hyl, hFb⟩ next
  simp only at h0 h3 h4 h5 h6 h30 h31 h32 e0 e1 e2 e3010 hgw
  clear hFh
  have hFh : Hid (b = true → fine = true) := hFb
  clear hFb
  have hF : b = true → b = true := id
  have hE := fun (n : Nat) (H' : Heap) (q1 : H' 3008 = H 3008) (q2 : H' 9017 = H 9017) => (Grow.settleE (n := n) (hgw.frame (H' := H') (by intro b hb; simp only [List.mem_cons, List.not_mem_nil, or_false] at hb; rcases hb with rfl | rfl; exact q1; exact q2)))
  obtain ⟨g1, g2, g3, g4⟩ := hgw.gv
  refine n1 (j h0 (j h3 (j h4 (j h5 (j h6 (j h30 (j h31 (j h32 (j e0 (j e1 (j e2 e3010))))))))))) ?_
  have nx : Hid _ := next
  clear next
  open QFk2 in exact Am2
  done
 |fail) : p := h
end QFk1
namespace QFk4
theorem kA2 (h : p := by
 first
 |exact kFm
 |exact kH
 |fail) : p := h
theorem kB2 (h : p := by
 first
 |(refine MC_mt (r30 _) cA dM hF ?_; rintro _ b1 ⟨rfl, hnd⟩ hmono hF; exact kT2)
 |(refine MC_mt (ih.e ‹EZ _ _›) cA dM hF ?_; exact kMN2)
 |(refine MC_mt (r63 B _ _ (by assumption) (by assumption)) cA dM hF ?_; exact kMN2)
 |(refine MC_pure (r58 (‹EZ _ _› : EZ _ _).1 (‹EZ _ _› : EZ _ _).le) pE dM ?_; rintro _ ⟨c, rfl⟩; exact kT2)
 |(refine MC_pure (r60 ‹Nd _›) pE dM ?_; rintro _ ⟨c, rfl⟩; exact kT2)
 |(refine MC_pure (r59 ‹Nd _›) pE dM ?_; exact kPN2)
 |(refine M_push (A := [3008, 9017]) (ys := ys) (v := v) (cA) (cA) (cA) (cA) (hgw.frame (by intro b hb; simp only [List.mem_cons, List.not_mem_nil, or_false] at hb; rcases hb with rfl | rfl <;> exact cA)) (by simp) (by simp) (by intro b hb; simp at hb ⊢; omega) (by intro z hz; simp only [List.mem_cons, List.not_mem_nil, or_false] at hz; first | (subst hz; exact ⟨rfl, cA⟩) | (rcases hz with rfl | rfl <;> exact ⟨rfl, cA⟩)) (by simp) (by simp only [List.length_cons, List.length_nil]; omega) (by decide) (by intro f1 f2 f3; first | rfl | simp [closeOk, push, feetOk, apartL]) (fun t' H' n' v' ht' hO' hgr hf => ?_); have e0_n := hf 0 (by simp) (by simp) (by decide); have e1_n := hf 1 (by simp) (by simp) (by decide); have e2_n := hf 2 (by simp) (by simp) (by decide); (try refine nA ?_)) <;> exact Am2
 |fail) : p := h
theorem kZ2 (h : p := by
 first
 |skip
  all_goals first
   |(have next := nx; unfold Hid at next; generalize hzs : ys ++ _ = zs at hgr; refine next (n - 1) (by omega) _ ⟨i + 1, _, v', zs, so, by omega, cA, cA, cA, cA, cA, cA, cA, by refine nA ?_; rw [wrap_i64 (by omega) (by omega)]; first | rfl | (congr 1; omega), cA, cA, cA, cA, hgr, ?_, by rw [← hzs]; simp [hyl]; omega, ?_⟩)
   |(refine ⟨?_, _, rfl, ?_, ?_⟩)
   |skip
  all_goals first
   |(intro y hy; rw [← hzs] at hy; rcases List.mem_append.1 hy with hy | hy; (focus exact hys y hy); (simp only [List.mem_cons, List.not_mem_nil, or_false] at hy; rcases hy with rfl | rfl <;> assumption))
   |skip
  all_goals first
   |exact fun h => absurd h Bool.false_ne_true
   |exact fun h => (show b = true → fine = true from hFh) (hF h)
   |(simpa using fun h : 0 ∈ gi v => absurd (g4 0 h) (by simp))
   |(have h108 : Nd [.int .i64 108, .str (bs []), .str (bs []), .int .u64 0, gv v ys, .int .i64 0] := Nd_mk ⟨g1, g2, by rw [g3]; omega, fun y hy => hys y (by rw [g3] at hy; exact hy), fun h => absurd h (by omega)⟩ (by intro h; omega) (by intro h; omega); simp [NdX_agg, h108]; done)
   |(have h108 : Nd [.int .i64 108, .str (bs []), .str (bs []), .int .u64 0, gv v ys, .int .i64 0] := Nd_mk ⟨g1, g2, by rw [g3]; omega, fun y hy => hys y (by rw [g3] at hy; exact hy), fun h => absurd h (by omega)⟩ (by intro h; omega) (by intro h; omega); clear hE; refine NdX_agg.2 (Nd_mk (NdF_sl.2 ?_) (by intro h; omega) (by intro h; omega)); simp [*]; done)
  done
 |fail) : p := h
end QFk4
namespace QFk3
theorem kA1 (h : p := by
 first
 |exact kFm
 |exact kH
 |fail) : p := h
theorem kB1 (h : p := by
 first
 |(refine MC_mt (r30 _) cA dM hF ?_; rintro _ b1 ⟨rfl, hnd⟩ hmono hF; exact kT1)
 |(refine MC_mt (r63 B _ _ ht l_str) cA dM hF ?_; exact kMN1)
 |fail) : p := h
theorem kZ1 (h : p := by
 first
 |skip
  have hB := l_parts.1.len
  have hFh : Hid (_ → fine = true) := hF
  clear hF
  refine M_loop (fun n s' => ∃ (i : Nat) (b : Bool) (v : PV) (ys : List (List PV)) (so : Nat), i + n = (els parts).length ∧ s'.t 0 = .ptr 0 0 0 ∧ s'.t 3 = .ptr 1 1 0 ∧ s'.t 4 = .ptr 2 2 0 ∧ s'.t 5 = .bool false ∧ s'.t 6 = .ptr 3010 so 0 ∧ s'.t 30 = parts ∧ s'.t 31 = .int .i64 (els parts).length ∧ s'.t 32 = .int .i64 i ∧
   s'.H 0 = some ⟨e, 0, [.bool b], 0⟩ ∧ s'.H 1 = some ⟨54, 1, [.int .i64 kind, .int .i64 op, .int .i64 ref, .int .i64 chain, .int .i64 flags, .flt .f64 ff, str, .str text, kids, props, parts, fns, classes], 0⟩ ∧ s'.H 2 = some ⟨45, 2, zN, 0⟩ ∧ s'.H 3010 = some ⟨45, so, [.int .i64 108, .str (bs []), .str (bs []), .int .u64 0, v, .int .i64 0], 0⟩ ∧
   Grow [3008, 9017] s'.H 45 6 v ys ∧ (∀ y, y ∈ ys → Nd y) ∧ ys.length = 2 * i + 1 ∧ (b = true → fine = true)) ?_ (n := (els parts).length)
   ⟨0, _, _, [_], _, by simp, z0, z0, z0, by first | (exact z0) | (exact zA) | (exact zA), z0, z0, z0, z0, z0, z0, z0, z0, Grow.row1 (by simp) (z0) rfl (by first | rfl | exact cA), by intro y hy; simp only [List.mem_singleton] at hy; subst hy; assumption, rfl, hFh⟩
  rintro n ⟨t, H, k⟩ ⟨i, b, v, ys, so, hi, h0, h3, h4, h5, h6, h30, h31, h32, e0, e1, e2, e3010, hgw, hys, hyl, hFb⟩ next
  simp only at h0 h3 h4 h5 h6 h30 h31 h32 e0 e1 e2 e3010 hgw
  clear hFh
  have hFh : Hid (b = true → fine = true) := hFb
  clear hFb
  have hF : b = true → b = true := id
  have hE := fun (n : Nat) (H' : Heap) (q1 : H' 3008 = H 3008) (q2 : H' 9017 = H 9017) => (Grow.settleE (n := n) (hgw.frame (H' := H') (by intro b hb; simp only [List.mem_cons, List.not_mem_nil, or_false] at hb; rcases hb with rfl | rfl; exact q1; exact q2)))
  obtain ⟨g1, g2, g3, g4⟩ := hgw.gv
  refine n1 (j h0 (j h3 (j h4 (j h5 (j h6 (j h30 (j h31 (j h32 (j e0 (j e1 (j e2 e3010))))))))))) ?_
  have nx : Hid _ := next
  clear next
  open QFk4 in exact Am2
  done
 |fail) : p := h
end QFk3
theorem r31 {F : Int → ByteArray} (B : Base X G F) {m : Nat} {x : List PV} (ih : IHf X G m) (hx : ExprC x) (hm : SizeOf.sizeOf x ≤ m) : Mt Tab X G 31 [.agg x] (fun _ => NdX) := by
 intro e fine
 have hF : fine = true → fine = true := id
 obtain ⟨kind, op, ref, chain, flags, nn, str, text, kids, props, parts, fns, classes, rfl, hn, l_str, ht, l_kids, l_props, l_parts, l_fns, l_classes⟩ := hx.open (hm)
 rename Nat => ff
 have := l_str.1; have := l_str.2.1; have := l_kids.1; have := l_kids.2.1; have := l_props.1; have := l_props.2.1; have := l_parts.1; have := l_parts.2.1; have := l_fns.1; have := l_fns.2.1; have := l_classes.1; have := l_classes.2.1
 by_cases hk1 : ((els kids).length : Int) = 1
 ·refine Fn_of T31 (by simp) ?_
  refine nA ?_
  open QFk1 in exact Am1
 ·refine Fn_of T31 (by simp) ?_
  refine nA ?_
  open QFk3 in exact Am1
end
end Go.Pi
end
section
open Go Go.Pi
namespace Go.Pi
variable {p q a : Prop}
section
variable {X : CallF} {G : Nat → PV}
namespace QFl2
theorem kA2 (h : p := by
 first
 |exact kFm
 |exact kH
 |fail) : p := h
theorem kB2 (h : p := by
 first
 |(refine MC_mt (r30 _) cA dM hF ?_; rintro _ b1 ⟨rfl, hnd⟩ hmono hF; exact kT2)
 |(refine MC_mt (ih.s (by assumption)) cA dM hF ?_; exact kMN2)
 |(refine MC_mt (ihb (by assumption)) cA dM hF ?_; rintro _ b1 ⟨_, rfl, hnc0, hnm⟩ hmono hF; exact kT2)
 |(obtain ⟨k0, x0, m0, n0, kk0, a0, rfl, hN0⟩ := hnc0.open; have hS0 := hN0.1; have hDp0 := hN0.2.1; refine nA ?_) <;> exact Am2
 |fail) : p := h
theorem kZ2 (h : p := by
 first
 |skip
  all_goals first
   |(have next := nx; unfold Hid at next; refine next (n - 1) (by omega) _ ⟨i + 1, _, by omega, cA, cA, cA, cA, cA, cA, cA, cA, by refine nA ?_; rw [wrap_i64 (by omega) (by omega)]; first | rfl | (congr 1; omega), cA, cA, cA, fun h => (show b = true → fine = true from hFh) (hF h)⟩)
   |skip
  done
 |fail) : p := h
end QFl2
namespace QFl3
theorem kA2 (h : p := by
 first
 |exact kFm
 |exact kH
 |fail) : p := h
theorem kB2 (h : p := by
 first
 |(refine MC_mt (r30 _) cA dM hF ?_; rintro _ b1 ⟨rfl, hnd⟩ hmono hF; exact kT2)
 |(refine MC_mt (ih.s (by assumption)) cA dM hF ?_; exact kMN2)
 |(refine MC_mt (ihb (by assumption)) cA dM hF ?_; rintro _ b1 ⟨_, rfl, hnc0, hnm⟩ hmono hF; exact kT2)
 |(obtain ⟨k0, x0, m0, n0, kk0, a0, rfl, hN0⟩ := hnc0.open; have hS0 := hN0.1; have hDp0 := hN0.2.1; refine nA ?_) <;> exact Am2
 |fail) : p := h
theorem kZ2 (h : p := by
 first
 |skip
  all_goals first
   |(have next := nx; unfold Hid at next; refine next (n - 1) (by omega) _ ⟨i + 1, _, by omega, cA, cA, cA, cA, cA, cA, cA, cA, by refine nA ?_; rw [wrap_i64 (by omega) (by omega)]; first | rfl | (congr 1; omega), cA, cA, cA, fun h => (show b = true → fine = true from hFh) (hF h)⟩)
   |skip
  done
 |fail) : p := h
end QFl3
namespace QFl4
theorem kA2 (h : p := by
 first
 |exact kFm
 |exact kH
 |fail) : p := h
theorem kB2 (h : p := by
 first
 |(refine MC_mt (r30 _) cA dM hF ?_; rintro _ b1 ⟨rfl, hnd⟩ hmono hF; exact kT2)
 |(refine MC_mt (ih.s (by assumption)) cA dM hF ?_; exact kMN2)
 |(refine MC_mt (ihb (by assumption)) cA dM hF ?_; rintro _ b1 ⟨_, rfl, hnc0, hnm⟩ hmono hF; exact kT2)
 |(obtain ⟨k0, x0, m0, n0, kk0, a0, rfl, hN0⟩ := hnc0.open; have hS0 := hN0.1; have hDp0 := hN0.2.1; refine nA ?_) <;> exact Am2
 |fail) : p := h
theorem kZ2 (h : p := by
 first
 |skip
  all_goals first
   |(have next := nx; unfold Hid at next; refine next (n - 1) (by omega) _ ⟨i + 1, _, by omega, cA, cA, cA, cA, cA, cA, cA, cA, by refine nA ?_; rw [wrap_i64 (by omega) (by omega)]; first | rfl | (congr 1; omega), cA, cA, cA, fun h => (show b = true → fine = true from hFh) (hF h)⟩)
   |skip
  done
 |fail) : p := h
end QFl4
namespace QFl1
theorem kA1 (h : p := by
 first
 |exact kFm
 |exact kH
 |fail) : p := h
theorem kB1 (h : p := by
 first
 |(refine MC_mt (r30 _) cA dM hF ?_; rintro _ b1 ⟨rfl, hnd⟩ hmono hF; exact kT1)
 |fail) : p := h
theorem y1_0 (h : p := by
 first
 |skip
  skip
  have hB := l_kids.1.len
  have hFh : Hid (_ → fine = true) := hF
  clear hF
  refine M_loop (fun n s' => ∃ (i : Nat) (b : Bool), i + n = (els kids).length ∧ s'.t 0 = .ptr 0 0 0 ∧ s'.t 3 = .ptr 1 1 0 ∧ s'.t 4 = .ptr 2 2 0 ∧ s'.t 5 = .bool false ∧ s'.t 6 = .bool true ∧ s'.t 7 = .int .i64 2 ∧ s'.t 46 = kids ∧ s'.t 47 = .int .i64 (els kids).length ∧ s'.t 48 = .int .i64 i ∧
   s'.H 0 = some ⟨e, 0, [.bool b], 0⟩ ∧ s'.H 1 = some ⟨37, 1, [.int .i64 kind, .int .i64 op, .int .i64 ref, .int .i64 flags, str, exprs, kids, decls, cases, fns, classes], 0⟩ ∧ s'.H 2 = some ⟨45, 2, zN, 0⟩ ∧ (b = true → fine = true)) ?_ (n := (els kids).length)
   ⟨0, _, by simp, z0, z0, z0, by first | (exact z0) | (exact zA) | (exact zA), by first | (exact z0) | (exact zA) | (exact zA), by first | (exact z0) | (exact zA) | (exact zA), z0, by first | (exact z0) | (refine s0 ?_; congr 1; omega), z0, z0, z0, z0, hFh⟩
  rintro n ⟨t, H, k⟩ ⟨i, b, hi, h0, h3, h4, h5, h6, h7, h46, h47, h48, e0, e1, e2, hFb⟩ next
  simp only at h0 h3 h4 h5 h6 h7 h46 h47 h48 e0 e1 e2
  clear hFh
  have hFh : Hid (b = true → fine = true) := hFb
  clear hFb
  have hF : b = true → b = true := id
  refine n1 (j h0 (j h3 (j h4 (j h5 (j h6 (j h7 (j h46 (j h47 (j h48 (j e0 (j e1 e2))))))))))) ?_
  have nx : Hid _ := next
  clear next
  open QFl2 in exact Am2
  done
 |fail) : p := h
theorem y1_1 (h : p := by
 first
 |skip
  skip
  have hB := l_kids.1.len
  have hFh : Hid (_ → fine = true) := hF
  clear hF
  refine M_loop (fun n s' => ∃ (i : Nat) (b : Bool), i + n = (els kids).length ∧ s'.t 0 = .ptr 0 0 0 ∧ s'.t 3 = .ptr 1 1 0 ∧ s'.t 4 = .ptr 2 2 0 ∧ s'.t 5 = .bool true ∧ s'.t 6 = .bool false ∧ s'.t 7 = .int .i64 2 ∧ s'.t 46 = kids ∧ s'.t 47 = .int .i64 (els kids).length ∧ s'.t 48 = .int .i64 i ∧
   s'.H 0 = some ⟨e, 0, [.bool b], 0⟩ ∧ s'.H 1 = some ⟨37, 1, [.int .i64 kind, .int .i64 op, .int .i64 ref, .int .i64 flags, str, exprs, kids, decls, cases, fns, classes], 0⟩ ∧ s'.H 2 = some ⟨45, 2, zN, 0⟩ ∧ (b = true → fine = true)) ?_ (n := (els kids).length)
   ⟨0, _, by simp, z0, z0, z0, by first | (exact z0) | (exact zA) | (exact zA), by first | (exact z0) | (exact zA) | (exact zA), by first | (exact z0) | (exact zA) | (exact zA), z0, by first | (exact z0) | (refine s0 ?_; congr 1; omega), z0, z0, z0, z0, hFh⟩
  rintro n ⟨t, H, k⟩ ⟨i, b, hi, h0, h3, h4, h5, h6, h7, h46, h47, h48, e0, e1, e2, hFb⟩ next
  simp only at h0 h3 h4 h5 h6 h7 h46 h47 h48 e0 e1 e2
  clear hFh
  have hFh : Hid (b = true → fine = true) := hFb
  clear hFb
  have hF : b = true → b = true := id
  refine n1 (j h0 (j h3 (j h4 (j h5 (j h6 (j h7 (j h46 (j h47 (j h48 (j e0 (j e1 e2))))))))))) ?_
  have nx : Hid _ := next
  clear next
  open QFl3 in exact Am2
  done
 |fail) : p := h
theorem y1_2 (h : p := by
 first
 |skip
  skip
  have hB := l_kids.1.len
  have hFh : Hid (_ → fine = true) := hF
  clear hF
  refine M_loop (fun n s' => ∃ (i : Nat) (b : Bool), i + n = (els kids).length ∧ s'.t 0 = .ptr 0 0 0 ∧ s'.t 3 = .ptr 1 1 0 ∧ s'.t 4 = .ptr 2 2 0 ∧ s'.t 5 = .bool true ∧ s'.t 6 = .bool true ∧ s'.t 7 = .int .i64 3 ∧ s'.t 46 = kids ∧ s'.t 47 = .int .i64 (els kids).length ∧ s'.t 48 = .int .i64 i ∧
   s'.H 0 = some ⟨e, 0, [.bool b], 0⟩ ∧ s'.H 1 = some ⟨37, 1, [.int .i64 kind, .int .i64 op, .int .i64 ref, .int .i64 flags, str, exprs, kids, decls, cases, fns, classes], 0⟩ ∧ s'.H 2 = some ⟨45, 2, zN, 0⟩ ∧ (b = true → fine = true)) ?_ (n := (els kids).length)
   ⟨0, _, by simp, z0, z0, z0, by first | (exact z0) | (exact zA) | (exact zA), by first | (exact z0) | (exact zA) | (exact zA), by first | (exact z0) | (exact zA) | (exact zA), z0, by first | (exact z0) | (refine s0 ?_; congr 1; omega), z0, z0, z0, z0, hFh⟩
  rintro n ⟨t, H, k⟩ ⟨i, b, hi, h0, h3, h4, h5, h6, h7, h46, h47, h48, e0, e1, e2, hFb⟩ next
  simp only at h0 h3 h4 h5 h6 h7 h46 h47 h48 e0 e1 e2
  clear hFh
  have hFh : Hid (b = true → fine = true) := hFb
  clear hFb
  have hF : b = true → b = true := id
  refine n1 (j h0 (j h3 (j h4 (j h5 (j h6 (j h7 (j h46 (j h47 (j h48 (j e0 (j e1 e2))))))))))) ?_
  have nx : Hid _ := next
  clear next
  open QFl4 in exact Am2
  done
 |fail) : p := h
theorem kZ1 (h : p := by
 first
 |skip
  all_goals first
  |exact y1_0
  |exact y1_1
  |exact y1_2
  |fail
  done
 |fail) : p := h
end QFl1
theorem r77 {F : Int → ByteArray} {m : Nat} {x : List PV} (ih : IHf X G m) (ihb : ∀ {y}, BZ m y → Mt Tab X G 72 [.agg y] (NdN F y)) (hx : StmtC x) (hm : SizeOf.sizeOf x ≤ m) : Mt Tab X G 77 [.agg x] (fun _ => NdX) := by
 intro e fine
 have hF : fine = true → fine = true := id
 obtain ⟨kind, op, ref, flags, str, exprs, kids, decls, cases, fns, classes, rfl, l_str, l_exprs, l_kids, l_decls, l_cases, l_fns, l_classes⟩ := hx.open (hm)
 have := l_str.1; have := l_str.2.1; have := l_exprs.1; have := l_exprs.2.1; have := l_kids.1; have := l_kids.2.1; have := l_decls.1; have := l_decls.2.1; have := l_cases.1; have := l_cases.2.1; have := l_fns.1; have := l_fns.2.1; have := l_classes.1; have := l_classes.2.1
 refine Fn_of T77 (by simp) ?_
 have hw1 : IntKind.i64.wrap (1 + 1) = 2 := by decide
 have hw3 : IntKind.i64.wrap (2 - 1) = 1 := by decide
 have hw4 : IntKind.i64.wrap (3 - 1) = 2 := by decide
 have hw2 : IntKind.i64.wrap (2 + 1) = 3 := by decide
 refine nA ?_
 open QFl1 in exact Am1
end
end Go.Pi
end
