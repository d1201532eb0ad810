import Derived.Test.YtpnkedaceaodbaaGreatDoorP06
import Derived.Test.YtpnkedaceaodbaaGreatDoorP07
import Derived.Test.YtpnkedaceaodbaaGreatDoorP08
import Derived.Test.YtpnkedaceaodbaaGreatDoorP09
import Derived.Test.YtpnkedaceaodbaaGreatDoorP23
/- Part of the proof. -/
set_option linter.all false
set_option maxHeartbeats 0
set_option maxRecDepth 100000
section
open Go Go.Pi
namespace Go.Pi
variable {p q a : Prop}
section
variable {kind op ref chain flags : Int} {num str text kids props parts fns classes : PV}
theorem OkE.xk (h : OkE [.int .i64 kind, .int .i64 op, .int .i64 ref, .int .i64 chain, .int .i64 flags, num, str, text, kids, props, parts, fns, classes]) : exK kind (els kids).length ref := by cases h; assumption
theorem OkE.cls (h : OkE [.int .i64 kind, .int .i64 op, .int .i64 ref, .int .i64 chain, .int .i64 flags, num, str, text, kids, props, parts, fns, classes]) (hk : kind = 30) : (els classes).length = 1 ∧ ∀ y, y ∈ els classes → OkC y := by
 cases h with
 |mk _ _ _ _ _ _ _ _ _ _ _ _ _ hx hk' hp hq hc1 hc => exact ⟨hc1 hk, hc hk⟩
theorem OkE.prs (h : OkE [.int .i64 kind, .int .i64 op, .int .i64 ref, .int .i64 chain, .int .i64 flags, num, str, text, kids, props, parts, fns, classes]) (hk : kind = 12) : ∀ y, y ∈ els props → OkP y := by
 cases h with
 |mk _ _ _ _ _ _ _ _ _ _ _ _ _ hx hk' hp hq hc1 hc => exact hp hk
theorem OkE.pts (h : OkE [.int .i64 kind, .int .i64 op, .int .i64 ref, .int .i64 chain, .int .i64 flags, num, str, text, kids, props, parts, fns, classes]) (hk : kind = 20) : ∀ y, y ∈ els parts → OkQ y := by
 cases h with
 |mk _ _ _ _ _ _ _ _ _ _ _ _ _ hx hk' hp hq hc1 hc => exact hq hk
theorem OkE.kds (h : OkE [.int .i64 kind, .int .i64 op, .int .i64 ref, .int .i64 chain, .int .i64 flags, num, str, text, kids, props, parts, fns, classes]) : ∀ y, y ∈ els kids → OkE y := by
 cases h with
 |mk _ _ _ _ _ _ _ _ _ _ _ _ _ hx hk' hp hq hc1 hc => exact hk'
end
section
variable {X : CallF} {G : Nat → PV}
namespace QIi1
theorem kA1 (h : p := by
 first
 |((exact IvR.yes (by first | rfl | (simp only [deepB, deepL, deepLL, Bool.and_true, Bool.true_and, *]; done)))) <;> exact Am1
 |((refine IvR.no ?_; rintro ⟨h1, h2⟩; have hx := OkE.xk h1; simp only [kOf_mk] at h2; first | omega | (simp [exK] at hx; omega) | (have := (OkE.cls h1 rfl).1; omega))) <;> exact Am1
 |exact kH
 |fail) : p := h
theorem kB1 (h : p := by
 first
 |(refine MC_pure (i112 _ hxx (Nat.le_refl _)) pE dM ?_; rintro _ ⟨c, rfl⟩; exact kT1)
 |(refine MC_pure (i32 _) pE dM ?_; rintro _ rfl; exact kT1)
 |(refine MIX_S (P := Ev) Ev.len lv (by omega) (by omega) (fun y hy hmem2 hg2 => ?_); obtain ⟨dde, zze, rfl, hdie, hddde⟩ := hy; have hcde := cellsOf_iv hdie; have hsde := fun (n : Nat) (H : Heap) => settle_deep (n := n) (H := H) hddde; refine nA ?_) <;> exact Am1
 |(refine MC_pure (h113 ‹CZ _ _›) (by intro b g r h; cases h) (cA) ?_; rintro _ ⟨nm, dc, zc, ps, bc, rfl, hnm, hdc, hddc, hSp, hDp, hPc⟩; have hcnm := Nm.cells hnm; have hdnm := Nm.deep hnm; have hsnm := fun (n : Nat) (H : Heap) => settle_deep (n := n) (H := H) hdnm; have hcdc := cellsOf_iv hdc; have hsdc := fun (n : Nat) (H : Heap) => settle_deep (n := n) (H := H) hddc; have hcps := cellsOf_sls hSp; have hsps := fun (n : Nat) (H : Heap) => settle_deep (n := n) (H := H) hDp; refine nA ?_) <;> exact Am1
 |(refine MC_pure (h114 ‹FZ _ _›) (by intro b g r h; cases h) (cA) ?_; rintro _ ⟨nm, ar, bd, r1, r2, b1, b2, b3, b4, b5, bf, rfl, hcnm, hdnm, hSa, hDa, hSb, hDb, hPf, hnf⟩; have hsnm := fun (n : Nat) (H : Heap) => settle_deep (n := n) (H := H) hdnm; have hcar := cellsOf_sls hSa; have hsar := fun (n : Nat) (H : Heap) => settle_deep (n := n) (H := H) hDa; have hcbd := cellsOf_sls hSb; have hsbd := fun (n : Nat) (H : Heap) => settle_deep (n := n) (H := H) hDb; refine nA ?_) <;> exact Am1
 |(refine MC_pure (h115 ‹FZ _ _›) (by intro b g r h; cases h) (cA) ?_; rintro _ ⟨da, ba, rfl, hda, hdda, _⟩; have hsda := fun (n : Nat) (H : Heap) => settle_deep (n := n) (H := H) hdda; refine nA ?_) <;> exact Am1
 |fail) : p := h
theorem y1_0 (h : p := by
 first
 |skip
  exact ⟨_, _, rfl, .inr ⟨_, _, rfl⟩, by simp [deepB, deepL, *], fun h => hPc ((OkE.cls h.1 rfl).2 _ hmem)⟩
  done
 |fail) : p := h
theorem y1_1 (h : p := by
 first
 |skip
  refine ⟨_, _, rfl, .inr ⟨_, _, rfl⟩, by simp [deepB, deepL, *], fun h => ?_⟩
  have hx := OkE.xk h.1
  simp [exK] at hx
  simp only [decide_eq_true_eq]
  omega
  done
 |fail) : p := h
theorem y1_2 (h : p := by
 first
 |skip
  refine ⟨_, _, rfl, .inr ⟨_, _, rfl⟩, by simp [deepB, deepL, *], fun h => ?_⟩
  have h2 := h.2
  simp only [kOf_mk] at h2
  omega
  done
 |fail) : p := h
theorem y1_3 (h : p := by
 first
 |skip
  refine ⟨_, _, rfl, by assumption, by assumption, fun h => ?_⟩
  have h2 := h.2
  simp only [kOf_mk] at h2
  omega
  done
 |fail) : p := h
theorem kZ1 (h : p := by
 first
 |skip
  all_goals first
  |exact y1_0
  |exact y1_1
  |exact y1_2
  |exact y1_3
  |fail
  done
 |fail) : p := h
end QIi1
theorem i88 {m : Nat} {x : List PV} {v : PV} (h113 : ∀ {y}, CZ m y → Pure Tab X G 113 [.agg y] (ClR (kOf y) (OkC y))) (h114 : ∀ {y}, FZ m y → Pure Tab X G 114 [.agg y] (FnR (kOf y) (OkF y))) (h115 : ∀ {y}, FZ m y → Pure Tab X G 115 [.agg y] (IvR False))
  (hx : ExprC x) (hm : SizeOf.sizeOf x ≤ m) (lv : SlP Ev v) (hnk : (els v).length = (els (x.getD 8 .undef)).length) : Pure Tab X G 88 [.agg x, v] (IvR (OkE x ∧ (kOf x = 28 ∨ kOf x = 29 ∨ kOf x = 30 ∨ kOf x = 31 ∨ kOf x = 32))) := by
 obtain ⟨kind, op, ref, chain, flags, nn, str, text, kids, props, parts, fns, classes, rfl, hn, l_str, ht, l_kids, l_props, l_parts, l_fns, l_classes⟩ := hx.open (hm)
 have hxx : ExprC [PV.int .i64 kind, .int .i64 op, .int .i64 ref, .int .i64 chain, .int .i64 flags, .flt .f64 nn, str, .str text, kids, props, parts, fns, classes] := hx
 have := l_str.1; have := l_str.2.1; have := l_kids.1; have := l_kids.2.1; have := l_props.1; have := l_props.2.1; have := l_parts.1; have := l_parts.2.1; have := l_fns.1; have := l_fns.2.1; have := l_classes.1; have := l_classes.2.1
 have hnk : (els v).length = (els kids).length := hnk
 have hvl := lv.1
 have hvd := lv.2.1
 have hB := lv.1.len
 refine Fn_of T88 (by simp) ?_
 refine nA ?_
 open QIi1 in exact Am1
namespace QIi4
theorem kA3 (h : p := by
 first
 |exact kFm
 |exact kH
 |fail) : p := h
theorem kB3 (h : p := by
 first
 |(refine MIX_S (P := Ev) Ev.len lv (by omega) (by omega) (fun y hy hmem2 hg2 => ?_); obtain ⟨dde, zze, rfl, hdie, hddde⟩ := hy; have hcde := cellsOf_iv hdie; have hsde := fun (n : Nat) (H : Heap) => settle_deep (n := n) (H := H) hddde; refine nA ?_) <;> exact Am3
 |fail) : p := h
theorem kZ3 (h : p := by
 first
 |skip
  all_goals exact ⟨by simpa using fun h : 0 ∈ gi v' => absurd (g4 0 h) (by simp), _, _, rfl, .inr ⟨_, _, rfl⟩, by simp [deepB, deepL, *], fun h => hPq (OkE.pts h.1 rfl)⟩
  done
 |fail) : p := h
end QIi4
namespace QIi3
theorem kA2 (h : p := by
 first
 |exact kFm
 |exact kH
 |fail) : p := h
theorem kB2 (h : p := by
 first
 |(refine MC_pure (i112 _ hxx (Nat.le_refl _)) pE dM ?_; rintro _ ⟨c, rfl⟩; exact kT2)
 |(refine MIX_S (P := Ev) Ev.len lv (by omega) (by omega) (fun y hy hmem2 hg2 => ?_); obtain ⟨dde, zze, rfl, hdie, hddde⟩ := hy; have hcde := cellsOf_iv hdie; have hsde := fun (n : Nat) (H : Heap) => settle_deep (n := n) (H := H) hddde; refine nA ?_) <;> exact Am2
 |fail) : p := h
theorem kZ2 (h : p := by
 first
 |skip
  refine ⟨by simp only [Bool.and_eq_true, Bool.not_eq_true', List.contains_eq_mem, decide_eq_false_iff_not, List.all_eq_true]; exact ⟨fun h => (by have := hzz _ h; simp at this), fun y hy => (by have := hzz y hy; simp at this ⊢; omega)⟩, ?_⟩
  open QIi4 in exact Am3
  done
 |fail) : p := h
end QIi3
namespace QIi2
theorem kA1 (h : p := by
 first
 |((exact IvR.yes (by first | rfl | (simp only [deepB, deepL, deepLL, Bool.and_true, Bool.true_and, *]; done)))) <;> exact Am1
 |((refine IvR.no ?_; rintro ⟨h1, h2⟩; have hx := OkE.xk h1; simp only [kOf_mk] at h2; first | omega | (simp [exK] at hx; omega))) <;> exact Am1
 |exact kH
 |fail) : p := h
theorem kB1 (h : p := by
 first
 |(refine MC_pure (i112 _ hxx (Nat.le_refl _)) pE dM ?_; rintro _ ⟨c, rfl⟩; exact kT1)
 |(refine MIX_S (P := Ev) Ev.len lv (by omega) (by omega) (fun y hy hmem2 hg2 => ?_); obtain ⟨dde, zze, rfl, hdie, hddde⟩ := hy; have hcde := cellsOf_iv hdie; have hsde := fun (n : Nat) (H : Heap) => settle_deep (n := n) (H := H) hddde; refine nA ?_) <;> exact Am1
 |(refine MC_pure (i116 l_props h64) (by intro b g r h; cases h; exact (‹SlP _ (PV.ptr _ _ _)›).not_ptr) (cA) ?_; rintro _ ⟨rp, bp, rfl, hSp, hDp, hLp, hPp⟩; have hcsp := cellsOf_sls hSp; have hsdp := fun (n : Nat) (H : Heap) => settle_deep (n := n) (H := H) hDp; refine nA ?_) <;> exact Am1
 |(refine MC_pure (i117 l_parts h64) (by intro b g r h; cases h; exact (‹SlP _ (PV.ptr _ _ _)›).not_ptr) (cA) ?_; rintro _ ⟨rq, bq, rfl, hSq, hDq, hLq, hPq⟩; have hcsq := cellsOf_sls hSq; have hsdq := fun (n : Nat) (H : Heap) => settle_deep (n := n) (H := H) hDq; refine nA ?_) <;> exact Am1
 |fail) : p := h
theorem y1_0 (h : p := by
 first
 |skip
  exact ⟨_, _, rfl, .inr ⟨_, _, rfl⟩, by simp [deepB, deepL, *], fun h => hPp (OkE.prs h.1 rfl)⟩
  done
 |fail) : p := h
theorem y1_1 (h : p := by
 first
 |skip
  refine M_apps (A := [8003, 8006]) (ys := []) (r := str) (c0) (l_str.1.imp id (fun ⟨xs, h, _⟩ => ⟨xs, h⟩)) l_str.2.1 (fun c hc => by obtain ⟨n, rfl, _⟩ := l_str.2.2 c hc; rfl) (by refine nA ?_; exact Grow.row0 (by simp) (c0)) (by simp) (by have := l_str.1.len; simp only [List.length_nil]; omega) (fun v' H' tr' hgr hf htr hz => ?_)
  obtain ⟨zz, rfl, hzz⟩ := hz _ _ rfl
  have e1 := hf 1 (by simp)
  simp only [go_sem, Nat.reduceEqDiff, Nat.reduceAdd, Nat.reduceLeDiff, Nat.reduceLT, Nat.reduceMul, Nat.reduceSub, reduceIte, reduceCtorEq, Int.reduceEq, Int.reduceLT, Int.reduceLE, Nat.reduceBEq, Int.reduceToNat, M_block] at e1
  have hcv' := cellsOf_grow hgr
  have hE := fun (n : Nat) (H'' : Heap) (q1 : H'' 8003 = H' 8003) (q2 : H'' 8006 = H' 8006) => (Grow.settleE (n := n) (hgr.frame (H' := H'') (by intro b hb; simp only [List.mem_cons, List.not_mem_nil, or_false] at hb; rcases hb with rfl | rfl <;> assumption)))
  obtain ⟨g1, g2, g3, g4⟩ := hgr.gv
  rw [List.nil_append] at g2
  refine nA ?_
  open QIi3 in exact Am2
  done
 |fail) : p := h
theorem kZ1 (h : p := by
 first
 |skip
  all_goals first
  |exact y1_0
  |exact y1_1
  |fail
  done
 |fail) : p := h
end QIi2
theorem i92 {m : Nat} {x : List PV} {v : PV} (h64 : ∀ {y}, EZ m y → Pure Tab X G 64 [.agg y] (EvR (OkE y))) (hx : ExprC x) (hm : SizeOf.sizeOf x ≤ m) (lv : SlP Ev v) (hnk : (els v).length = (els (x.getD 8 .undef)).length) : Pure Tab X G 92 [.agg x, v] (IvR (OkE x ∧ (kOf x = 11 ∨ kOf x = 12 ∨ kOf x = 20))) := by
 obtain ⟨kind, op, ref, chain, flags, nn, str, text, kids, props, parts, fns, classes, rfl, hn, l_str, ht, l_kids, l_props, l_parts, l_fns, l_classes⟩ := hx.open (hm)
 have hxx : ExprC [PV.int .i64 kind, .int .i64 op, .int .i64 ref, .int .i64 chain, .int .i64 flags, .flt .f64 nn, str, .str text, kids, props, parts, fns, classes] := hx
 have := l_str.1; have := l_str.2.1; have := l_kids.1; have := l_kids.2.1; have := l_props.1; have := l_props.2.1; have := l_parts.1; have := l_parts.2.1; have := l_fns.1; have := l_fns.2.1; have := l_classes.1; have := l_classes.2.1
 have hnk : (els v).length = (els kids).length := hnk
 have hvl := lv.1
 have hvd := lv.2.1
 have hsv := fun (n : Nat) (H : Heap) => settle_deep (n := n) (H := H) hvd
 have hcv := cellsOf_sls (hvl.imp id fun ⟨xs, h, _⟩ => ⟨xs, h⟩)
 have hB := lv.1.len
 refine Fn_of T92 (by simp) ?_
 refine nA ?_
 open QIi2 in exact Am1
namespace QIi5
theorem kA1 (h : p := by
 first
 |exact kFm
 |exact kH
 |fail) : p := h
theorem kB1 (h : p := by
 first
 |(refine MC_pure (i33 l_kids h64) (by intro b g r h; cases h; exact (‹SlP _ (PV.ptr _ _ _)›).not_ptr) (cA) ?_; rintro _ ⟨v, bk, rfl, hSv, hDv, hEv, hl1, hl2, hPk⟩; have lv := EvsR.slp hSv hDv hEv hl1 l_kids.1.len; have hIv := lv.1; have hcsv := cellsOf_sls hSv; have hsdv := fun (n : Nat) (H : Heap) => settle_deep (n := n) (H := H) hDv; refine nA ?_) <;> exact Am1
 |(refine MC_pure (i88 h113 h114 h115 hxx hm lv (hl2 (by first | rfl | assumption))) (by intro b g r h; cases h) (cA) ?_; rintro _ ⟨df, bf, rfl, hdf, hddf, hPf⟩; have hcdf := cellsOf_iv hdf; have hsdf := fun (n : Nat) (H : Heap) => settle_deep (n := n) (H := H) hddf; refine nA ?_) <;> exact Am1
 |(refine MC_pure (i89 hxx hm) (by intro b g r h; cases h) (cA) ?_; rintro _ ⟨dl, bl, rfl, hdl, hddl, hPl⟩; have hcdl := cellsOf_iv hdl; have hsdl := fun (n : Nat) (H : Heap) => settle_deep (n := n) (H := H) hddl; refine nA ?_) <;> exact Am1
 |(refine MC_pure (i90 hxx hm lv) (by intro b g r h; cases h) (cA) ?_; rintro _ ⟨db, bb, rfl, hdb, hddb, hPb⟩; have hcdb := cellsOf_iv hdb; have hsdb := fun (n : Nat) (H : Heap) => settle_deep (n := n) (H := H) hddb; refine nA ?_) <;> exact Am1
 |(refine MC_pure (i91 hxx hm lv) (by intro b g r h; cases h) (cA) ?_; rintro _ ⟨da, ba, rfl, hda, hdda, hPa⟩; have hcda := cellsOf_iv hda; have hsda := fun (n : Nat) (H : Heap) => settle_deep (n := n) (H := H) hdda; refine nA ?_) <;> exact Am1
 |(refine MC_pure (i92 h64 hxx hm lv (hl2 (by first | rfl | assumption))) (by intro b g r h; cases h) (cA) ?_; rintro _ ⟨dw, bw, rfl, hdw, hddw, hPw⟩; have hcdw := cellsOf_iv hdw; have hsdw := fun (n : Nat) (H : Heap) => settle_deep (n := n) (H := H) hddw; refine nA ?_) <;> exact Am1
 |fail) : p := h
theorem y1_0 (h : p := by
 first
 |skip
  exact ⟨_, _, rfl, ⟨_, _, rfl, hdf, hddf⟩, fun _ => rfl⟩
  done
 |fail) : p := h
theorem y1_1 (h : p := by
 first
 |skip
  exact ⟨_, _, rfl, ⟨_, _, rfl, hdl, hddl⟩, fun _ => rfl⟩
  done
 |fail) : p := h
theorem y1_2 (h : p := by
 first
 |skip
  exact ⟨_, _, rfl, ⟨_, _, rfl, hdb, hddb⟩, fun _ => rfl⟩
  done
 |fail) : p := h
theorem y1_3 (h : p := by
 first
 |skip
  exact ⟨_, _, rfl, ⟨_, _, rfl, hda, hdda⟩, fun _ => rfl⟩
  done
 |fail) : p := h
theorem y1_4 (h : p := by
 first
 |skip
  refine ⟨_, _, rfl, ⟨_, _, rfl, hdw, hddw⟩, fun h => ?_⟩
  obtain ⟨x1, x2, x3, x4, x5, x6, x7, x8, x9, x10, x11⟩ := OkE.xk h
  have hln := hl2 rfl
  simp only [kOf_mk] at hPf hPl hPb hPa hPw
  by_cases k1 : kind = 28 ∨ kind = 29 ∨ kind = 30 ∨ kind = 31 ∨ kind = 32
  ·exact absurd (hPf ⟨h, k1⟩) (by decide)
  by_cases k2 : (kind ≤ 9 ∨ kind = 21 ∨ kind = 22 ∨ kind = 25 ∨ kind = 26) ∧ 0 ≤ kind
  ·exact absurd (hPl k2) (by decide)
  by_cases k3 : kind = 10 ∨ kind = 13
  ·exact absurd (hPb (.inl ⟨k3, by have := x2 (by omega); omega⟩)) (by decide)
  by_cases k4 : kind = 14
  ·exact absurd (hPb (.inr (.inl ⟨k4, by have := x4 (by omega); omega⟩))) (by decide)
  by_cases k5 : kind = 15
  ·exact absurd (hPb (.inr (.inr ⟨k5, by have := x5 (by omega); omega⟩))) (by decide)
  by_cases k6 : kind = 16
  ·exact absurd (hPa (.inl ⟨k6, by have := x2 (by omega); omega⟩)) (by decide)
  by_cases k7 : kind = 17
  ·exact absurd (hPa (.inr (.inl ⟨k7, by have := x4 (by omega); omega⟩))) (by decide)
  by_cases k8 : kind = 18 ∨ kind = 19
  ·exact absurd (hPa (.inr (.inr ⟨k8, by have := x6 (by omega); omega⟩))) (by decide)
  exact hPw ⟨h, by omega⟩
  done
 |fail) : p := h
theorem y1_5 (h : p := by
 first
 |skip
  exact ⟨_, _, rfl, ⟨_, _, rfl, .inl rfl, rfl⟩, fun h => hPk (OkE.kds h)⟩
  done
 |fail) : p := h
theorem kZ1 (h : p := by
 first
 |skip
  all_goals first
  |exact y1_0
  |exact y1_1
  |exact y1_2
  |exact y1_3
  |exact y1_4
  |exact y1_5
  |fail
  done
 |fail) : p := h
end QIi5
theorem i64 {m : Nat} {x : List PV} (h64 : ∀ {y}, EZ m y → Pure Tab X G 64 [.agg y] (EvR (OkE y))) (h113 : ∀ {y}, CZ m y → Pure Tab X G 113 [.agg y] (ClR (kOf y) (OkC y))) (h114 : ∀ {y}, FZ m y → Pure Tab X G 114 [.agg y] (FnR (kOf y) (OkF y))) (h115 : ∀ {y}, FZ m y → Pure Tab X G 115 [.agg y] (IvR False))
  (hx : ExprC x) (hm : SizeOf.sizeOf x ≤ m) : Pure Tab X G 64 [.agg x] (EvR (OkE x)) := by
 obtain ⟨kind, op, ref, chain, flags, nn, str, text, kids, props, parts, fns, classes, rfl, hn, l_str, ht, l_kids, l_props, l_parts, l_fns, l_classes⟩ := hx.open (hm)
 have hxx : ExprC [PV.int .i64 kind, .int .i64 op, .int .i64 ref, .int .i64 chain, .int .i64 flags, .flt .f64 nn, str, .str text, kids, props, parts, fns, classes] := hx
 have := l_str.1; have := l_str.2.1; have := l_kids.1; have := l_kids.2.1; have := l_props.1; have := l_props.2.1; have := l_parts.1; have := l_parts.2.1; have := l_fns.1; have := l_fns.2.1; have := l_classes.1; have := l_classes.2.1
 refine Fn_of T64 (by simp) ?_
 refine nA ?_
 open QIi5 in exact Am1
end
end Go.Pi
end
section
open Go Go.Pi
namespace Go.Pi
variable {p q a : Prop}
theorem StR.no {k : Int} {P : Prop} (h : ¬ P) : StR k P (.tup [.nili, .bool false]) := ⟨_, _, rfl, .inl rfl, rfl, fun v h => (by cases h), fun p => absurd p h, fun h => (by cases h)⟩
theorem StR.may {k : Int} {P : Prop} {t : Nat} {v : PV} {b : Bool} (ht : t ≠ 425) (hk : k ≠ 7) (h : deepB v = true) (hb : P → b = true) : StR k P (.tup [.ifc t v, .bool b]) :=
 ⟨_, _, rfl, .inr ⟨_, _, rfl⟩, h, fun v h => (by cases h; exact absurd rfl ht), hb, fun _ h => absurd h hk⟩
theorem StR.yes {k : Int} {P : Prop} {t : Nat} {v : PV} (ht : t ≠ 425) (hk : k ≠ 7) (h : deepB v = true) : StR k P (.tup [.ifc t v, .bool true]) := StR.may ht hk h fun _ => rfl
section
variable {kind op ref flags : Int} {str exprs kids decls cases fns classes : PV}
theorem OkS.xk (h : OkS [PV.int .i64 kind, .int .i64 op, .int .i64 ref, .int .i64 flags, str, exprs, kids, decls, cases, fns, classes]) : stK kind (els exprs).length (els kids).length ref := by cases h; assumption
theorem OkS.ex (h : OkS [PV.int .i64 kind, .int .i64 op, .int .i64 ref, .int .i64 flags, str, exprs, kids, decls, cases, fns, classes]) : ∀ y, y ∈ els exprs → OkE y := by cases h; assumption
theorem OkS.kd (h : OkS [PV.int .i64 kind, .int .i64 op, .int .i64 ref, .int .i64 flags, str, exprs, kids, decls, cases, fns, classes]) : ∀ y, y ∈ els kids → OkS y := by cases h; assumption
theorem OkS.dc (h : OkS [PV.int .i64 kind, .int .i64 op, .int .i64 ref, .int .i64 flags, str, exprs, kids, decls, cases, fns, classes]) (hk : kind = 4) : (∀ y, y ∈ els decls → OkD y) ∧ 1 ≤ (els decls).length := by
 cases h with
 |mk _ _ _ _ _ _ _ _ _ _ _ hx he hk' hd hd1 hf1 hf hc1 hc hw ht => exact ⟨hd (.inl hk), hd1 hk⟩
theorem OkS.fs (h : OkS [PV.int .i64 kind, .int .i64 op, .int .i64 ref, .int .i64 flags, str, exprs, kids, decls, cases, fns, classes]) (hk : kind = 5) : (els fns).length = 1 ∧ ∀ y, y ∈ els fns → OkF y ∧ 0 ≤ kOf y := by
 cases h with
 |mk _ _ _ _ _ _ _ _ _ _ _ hx he hk' hd hd1 hf1 hf hc1 hc hw ht => exact ⟨(hf1 hk).1, fun y hy => ⟨hf hk y hy, by obtain ⟨n, l, rfl, h⟩ := (hf1 hk).2 y hy; exact h⟩⟩
theorem OkS.cs (h : OkS [PV.int .i64 kind, .int .i64 op, .int .i64 ref, .int .i64 flags, str, exprs, kids, decls, cases, fns, classes]) (hk : kind = 6) : (els classes).length = 1 ∧ ∀ y, y ∈ els classes → OkC y ∧ 0 ≤ kOf y := by
 cases h with
 |mk _ _ _ _ _ _ _ _ _ _ _ hx he hk' hd hd1 hf1 hf hc1 hc hw ht => exact ⟨(hc1 hk).1, fun y hy => ⟨hc hk y hy, by obtain ⟨n, l, rfl, h⟩ := (hc1 hk).2 y hy; exact h⟩⟩
theorem OkS.sw (h : OkS [PV.int .i64 kind, .int .i64 op, .int .i64 ref, .int .i64 flags, str, exprs, kids, decls, cases, fns, classes]) (hk : kind = 16) : ∀ y, y ∈ els cases → OkK y := by
 cases h with
 |mk _ _ _ _ _ _ _ _ _ _ _ hx he hk' hd hd1 hf1 hf hc1 hc hw ht => exact hw hk
theorem OkS.tr (h : OkS [PV.int .i64 kind, .int .i64 op, .int .i64 ref, .int .i64 flags, str, exprs, kids, decls, cases, fns, classes]) (hk : kind = 15) : tryK (bits .and .i64 flags 4) (bits .and .i64 flags 8) (els kids).length (els decls).length ∧ (∀ y, y ∈ els kids → kOf y = 7) ∧ ∀ y, y ∈ els decls → OkD y ∧ (els (y.getD 4 .undef)).length = 0 := by
 cases h with
 |mk _ _ _ _ _ _ _ _ _ _ _ hx he hk' hd hd1 hf1 hf hc1 hc hw ht => exact ⟨(ht hk).1, fun y hy => (by obtain ⟨l, rfl⟩ := (ht hk).2.1 y hy; rfl), fun y hy => ⟨hd (.inr hk) y hy, by obtain ⟨_, _, _, _, _, rfl, h⟩ := (ht hk).2.2 y hy; exact h⟩⟩
end
section
variable {X : CallF} {G : Nat → PV}
namespace QIj2
theorem kA2 (h : p := by
 first
 |exact kFm
 |exact kH
 |fail) : p := h
theorem kZ2 (h : p := by
 first
 |skip
  exact ⟨by simpa using fun h : 0 ∈ gi v' => absurd (g4 0 h) (by simp), StR.yes (by decide) (by simp [kOf_mk]) (by simp [deepB, deepL, *])⟩
  done
 |fail) : p := h
end QIj2
namespace QIj1
theorem kA1 (h : p := by
 first
 |((exact StR.yes (by decide) (by simp [kOf_mk]) (by first | rfl | (simp only [deepB, deepL, deepLL, Bool.and_true, Bool.true_and, *]; done)))) <;> exact Am1
 |((refine StR.no ?_; rintro ⟨h1, h2⟩; have hx := OkS.xk h1; simp only [kOf_mk] at h2; first | omega | (simp [stK] at hx; omega))) <;> exact Am1
 |exact kH
 |fail) : p := h
theorem kB1 (h : p := by
 first
 |(refine MIX_S (P := Ev) Ev.len lv (by omega) (by omega) (fun y hy hmem2 hg2 => ?_); obtain ⟨dde, zze, rfl, hdie, hddde⟩ := hy; have hcde := cellsOf_iv hdie; have hsde := fun (n : Nat) (H : Heap) => settle_deep (n := n) (H := H) hddde; refine nA ?_) <;> exact Am1
 |(refine MC_pure (i145 _) (by intro b g r h; cases h) (cA) ?_; rintro nm hnm; have hcnm := Nm.cells hnm; have hdnm := Nm.deep hnm; have hsnm := fun (n : Nat) (H : Heap) => settle_deep (n := n) (H := H) hdnm; refine nA ?_) <;> exact Am1
 |fail) : p := h
theorem y1_0 (h : p := by
 first
 |skip
  refine M_apps (A := [6001, 6004]) (ys := []) (r := str) (c0) (l_str.1.imp id (fun ⟨xs, h, _⟩ => ⟨xs, h⟩)) l_str.2.1 (fun c hc => by obtain ⟨n, rfl, _⟩ := l_str.2.2 c hc; rfl) (by refine nA ?_; exact Grow.row0 (by simp) (c0)) (by simp) (by have := l_str.1.len; simp only [List.length_nil]; omega) (fun v' H' tr' hgr hf htr hz => ?_)
  have := htr rfl
  subst this
  have hcv' := cellsOf_grow hgr
  have hE := fun (n : Nat) (H'' : Heap) (q1 : H'' 6001 = H' 6001) (q2 : H'' 6004 = H' 6004) => (Grow.settleE (n := n) (hgr.frame (H' := H'') (by intro b hb; simp only [List.mem_cons, List.not_mem_nil, or_false] at hb; rcases hb with rfl | rfl <;> assumption)))
  obtain ⟨g1, g2, g3, g4⟩ := hgr.gv
  rw [List.nil_append] at g2
  clear hz
  refine nA ?_
  open QIj2 in exact Am2
  done
 |fail) : p := h
theorem kZ1 (h : p := by
 first
 |skip
  all_goals first
  |exact y1_0
  |fail
  done
 |fail) : p := h
end QIj1
theorem i169 {m : Nat} {x : List PV} {v : PV} (hx : StmtC x) (hm : SizeOf.sizeOf x ≤ m) (lv : SlP Ev v) (hnv : (els v).length = (els (x.getD 5 .undef)).length) : Pure Tab X G 169 [.agg x, v] (StR (kOf x) (OkS x ∧ (kOf x ≤ 3 ∨ 18 ≤ kOf x))) := by
 obtain ⟨kind, op, ref, flags, str, exprs, kids, decls, cases, fns, classes, rfl, l_str, l_exprs, l_kids, l_decls, l_cases, l_fns, l_classes⟩ := hx.open (hm)
 have hxx : StmtC [PV.int .i64 kind, .int .i64 op, .int .i64 ref, .int .i64 flags, str, exprs, kids, decls, cases, fns, classes] := hx
 have := l_str.1; have := l_str.2.1; have := l_exprs.1; have := l_exprs.2.1; have := l_kids.1; have := l_kids.2.1; have := l_decls.1; have := l_decls.2.1; have := l_cases.1; have := l_cases.2.1; have := l_fns.1; have := l_fns.2.1; have := l_classes.1; have := l_classes.2.1
 have hnv : (els v).length = (els exprs).length := hnv
 have hvl := lv.1
 have hvd := lv.2.1
 have hsv := fun (n : Nat) (H : Heap) => settle_deep (n := n) (H := H) hvd
 have hcv := cellsOf_sls (hvl.imp id fun ⟨xs, h, _⟩ => ⟨xs, h⟩)
 have hB := lv.1.len
 refine Fn_of T169 (by simp) ?_
 refine nA ?_
 open QIj1 in exact Am1
namespace QIj4
theorem kA2 (h : p := by
 first
 |((exact StR.yes (by decide) (by simp [kOf_mk]) (by first | rfl | (simp only [deepB, deepL, deepLL, Bool.and_true, Bool.true_and, *]; done)))) <;> exact Am2
 |((refine StR.no ?_; rintro ⟨h1, h2⟩; have hx := OkS.xk h1; simp only [kOf_mk] at h2; first | omega | (simp [stK] at hx; omega))) <;> exact Am2
 |exact kH
 |fail) : p := h
end QIj4
namespace QIj5
theorem kA2 (h : p := by
 first
 |((exact StR.yes (by decide) (by simp [kOf_mk]) (by first | rfl | (simp only [deepB, deepL, deepLL, Bool.and_true, Bool.true_and, *]; done)))) <;> exact Am2
 |((refine StR.no ?_; rintro ⟨h1, h2⟩; have hx := OkS.xk h1; simp only [kOf_mk] at h2; first | omega | (simp [stK] at hx; omega))) <;> exact Am2
 |exact kH
 |fail) : p := h
end QIj5
namespace QIj6
theorem kA2 (h : p := by
 first
 |((exact StR.yes (by decide) (by simp [kOf_mk]) (by first | rfl | (simp only [deepB, deepL, deepLL, Bool.and_true, Bool.true_and, *]; done)))) <;> exact Am2
 |((refine StR.no ?_; rintro ⟨h1, h2⟩; have hx := OkS.xk h1; simp only [kOf_mk] at h2; first | omega | (simp [stK] at hx; omega))) <;> exact Am2
 |exact kH
 |fail) : p := h
end QIj6
namespace QIj3
theorem kA1 (h : p := by
 first
 |((exact StR.yes (by decide) (by simp [kOf_mk]) (by first | rfl | (simp only [deepB, deepL, deepLL, Bool.and_true, Bool.true_and, *]; done)))) <;> exact Am1
 |((refine StR.no ?_; rintro ⟨h1, h2⟩; have hx := OkS.xk h1; simp only [kOf_mk] at h2; first | omega | (simp [stK] at hx; omega))) <;> exact Am1
 |exact kH
 |fail) : p := h
theorem kB1 (h : p := by
 first
 |(refine MIX_S (P := Ev) Ev.len lv (by omega) (by omega) (fun y hy hmem2 hg2 => ?_); obtain ⟨dde, zze, rfl, hdie, hddde⟩ := hy; have hcde := cellsOf_iv hdie; have hsde := fun (n : Nat) (H : Heap) => settle_deep (n := n) (H := H) hddde; refine nA ?_) <;> exact Am1
 |(refine MIX_S (P := Sv) Sv.len lu (by omega) (by omega) (fun y hy hmem2 hg2 => ?_); obtain ⟨dss, rfl, hsis, hsdds, hsbs⟩ := hy; have hcss := cellsOf_iv hsis; have hsss := fun (n : Nat) (H : Heap) => settle_deep (n := n) (H := H) hsdds; refine nA ?_) <;> exact Am1
 |(refine MC_pure (i173 ⟨_, _, rfl, ‹Iv _›, ‹deepB _ = true›⟩) (by intro b g r h; cases h) (cA) ?_; rintro _ ⟨_, rfl, dq, zq, rfl, hdq, hddq⟩; have hcdq := cellsOf_iv hdq; have hsdq := fun (n : Nat) (H : Heap) => settle_deep (n := n) (H := H) hddq; refine nA ?_) <;> exact Am1
 |fail) : p := h
theorem kZ1 (h : p := by
 first
 |skip
  rcases hsis with rfl | ⟨uu, ww, rfl⟩
  ·refine nA ?_
   open QIj4 in exact Am2
  ·by_cases hu : uu = 378
   ·subst hu
    refine nA ?_
    open QIj5 in exact Am2
   ·refine nA ?_
    open QIj6 in exact Am2
  done
 |fail) : p := h
end QIj3
theorem i171 {m : Nat} {x : List PV} {u v : PV} (hx : StmtC x) (hm : SizeOf.sizeOf x ≤ m) (lv : SlP Ev v) (hnv : (els v).length = (els (x.getD 5 .undef)).length) (lu : SlP Sv u) (hnu : (els u).length = (els (x.getD 6 .undef)).length) : Pure Tab X G 171 [.agg x, v, u] (StR (kOf x) (OkS x ∧ 9 ≤ kOf x ∧ kOf x ≤ 13)) := by
 obtain ⟨kind, op, ref, flags, str, exprs, kids, decls, cases, fns, classes, rfl, l_str, l_exprs, l_kids, l_decls, l_cases, l_fns, l_classes⟩ := hx.open (hm)
 have hxx : StmtC [PV.int .i64 kind, .int .i64 op, .int .i64 ref, .int .i64 flags, str, exprs, kids, decls, cases, fns, classes] := hx
 have := l_str.1; have := l_str.2.1; have := l_exprs.1; have := l_exprs.2.1; have := l_kids.1; have := l_kids.2.1; have := l_decls.1; have := l_decls.2.1; have := l_cases.1; have := l_cases.2.1; have := l_fns.1; have := l_fns.2.1; have := l_classes.1; have := l_classes.2.1
 have hnv : (els v).length = (els exprs).length := hnv
 have hvl := lv.1
 have hvd := lv.2.1
 have hsv := fun (n : Nat) (H : Heap) => settle_deep (n := n) (H := H) hvd
 have hcv := cellsOf_sls (hvl.imp id fun ⟨xs, h, _⟩ => ⟨xs, h⟩)
 have hB := lv.1.len
 have hnu : (els u).length = (els kids).length := hnu
 have hul := lu.1
 have hud := lu.2.1
 have hsu := fun (n : Nat) (H : Heap) => settle_deep (n := n) (H := H) hud
 have hcu := cellsOf_sls (hul.imp id fun ⟨xs, h, _⟩ => ⟨xs, h⟩)
 have hBu := lu.1.len
 refine Fn_of T171 (by simp) ?_
 refine nA ?_
 open QIj3 in exact Am1
end
end Go.Pi
end
section
open Go Go.Pi
namespace Go.Pi
variable {p q a : Prop}
theorem nat_and_pow (n j : Nat) : n &&& 2 ^ j = (n.testBit j).toNat * 2 ^ j := by
 apply Nat.eq_of_testBit_eq
 intro i
 rw [Nat.testBit_and, Nat.testBit_two_pow]
 by_cases h : j = i
 ·subst h
  cases hb : n.testBit j <;> simp
 ·cases hb : n.testBit j <;> simp [h]
theorem and_pow (x c : Int) (j : Nat) (hc : BitVec.ofInt 64 c = BitVec.ofNat 64 (2 ^ j)) (hj : j < 62) (hcj : c = ((2 ^ j : Nat) : Int)) : bits .and .i64 x c = 0 ∨ bits .and .i64 x c = c := by
 have hb : (2 : Nat) ^ j < 2 ^ 62 := Nat.pow_lt_pow_right (by omega) hj
 have e : (BitVec.ofInt 64 x &&& BitVec.ofInt 64 c).toNat = ((BitVec.ofInt 64 x).toNat.testBit j).toNat * 2 ^ j := by
  rw [hc, BitVec.toNat_and, BitVec.toNat_ofNat, Nat.mod_eq_of_lt (by omega), nat_and_pow]
 have h : bits .and .i64 x c = IntKind.i64.wrap ((((BitVec.ofInt 64 x).toNat.testBit j).toNat * 2 ^ j : Nat) : Int) := by
  show IntKind.i64.wrap _ = _
  rw [← e]
  rfl
 rw [h, hcj]
 clear h e hcj hc
 generalize 2 ^ j = p at hb
 cases (BitVec.ofInt 64 x).toNat.testBit j with
 |false => left; simp; decide
 |true =>
  right
  simp only [Bool.toNat_true, Nat.one_mul]
  rw [Go.Pi.wrap_i64 (by omega) (by omega)]
theorem and4 (x : Int) : bits .and .i64 x 4 = 0 ∨ bits .and .i64 x 4 = 4 := and_pow x 4 2 (by decide) (by decide) (by decide)
theorem and8 (x : Int) : bits .and .i64 x 8 = 0 ∨ bits .and .i64 x 8 = 8 := and_pow x 8 3 (by decide) (by decide) (by decide)
section
variable {X : CallF} {G : Nat → PV}
namespace QIk1
theorem kA1 (h : p := by
 first
 |((refine StR.no ?_; rintro ⟨h1, h2⟩; simp only [kOf_mk] at h2; first | omega | (have := OkS.dc h1 rfl; omega) | (have := (OkS.fs h1 rfl).1; omega) | (have := (OkS.cs h1 rfl).1; omega))) <;> exact Am1
 |exact kH
 |fail) : p := h
theorem kB1 (h : p := by
 first
 |(refine MC_pure (i10 l_decls h64 h17) (by intro b g r h; cases h; exact (‹SlP _ (PV.ptr _ _ _)›).not_ptr) (cA) ?_; rintro _ ⟨rd, bdd, rfl, hSd, hDd, hPd, _, _⟩; have hcsd := cellsOf_sls hSd; have hsdd := fun (n : Nat) (H : Heap) => settle_deep (n := n) (H := H) hDd; refine nA ?_) <;> exact Am1
 |(refine MC_pure (h113 ‹CZ _ _›) (by intro b g r h; cases h) (cA) ?_; rintro _ ⟨nm, dc, zc, ps, bc, rfl, hnm, hdc, hddc, hSp, hDp, hPc⟩; have hcdc := cellsOf_iv hdc; have hsdc := fun (n : Nat) (H : Heap) => settle_deep (n := n) (H := H) hddc; have hcps := cellsOf_sls hSp; have hsps := fun (n : Nat) (H : Heap) => settle_deep (n := n) (H := H) hDp; rcases hnm with ⟨rfl, hneg⟩ | ⟨hge, cn, rfl, hcl, hdcn⟩; all_goals (try (have hscn := fun (n : Nat) (H : Heap) => settle_deep (n := n) (H := H) (show deepB (.fp cn) = true by simpa [deepB] using hdcn))); all_goals refine nA ?_) <;> exact Am1
 |(refine MC_pure (h114 ‹FZ _ _›) (by intro b g r h; cases h) (cA) ?_; rintro _ ⟨nm, ar, bd, r1, r2, b1, b2, b3, b4, b5, bf, rfl, hcnm, hdnm, hSa, hDa, hSb, hDb, hPf, hnf⟩; have hsnm := fun (n : Nat) (H : Heap) => settle_deep (n := n) (H := H) hdnm; have hcar := cellsOf_sls hSa; have hsar := fun (n : Nat) (H : Heap) => settle_deep (n := n) (H := H) hDa; have hcbd := cellsOf_sls hSb; have hsbd := fun (n : Nat) (H : Heap) => settle_deep (n := n) (H := H) hDb; cases bf; all_goals (try (rcases hnf rfl with ⟨rfl, hneg⟩ | ⟨hge, cn, rfl, hcl, hdcn⟩)); all_goals (try clear hnf); all_goals refine nA ?_) <;> exact Am1
 |fail) : p := h
theorem kZ1 (h : p := by
 first
 |skip
  all_goals refine StR.may (by decide) (by simp [kOf_mk]) (by simp [deepB, deepL, *]) fun h => ?_
  all_goals first
   |rfl
   |exact hPd (OkS.dc h.1 rfl).1
   |exact hPf ((OkS.fs h.1 rfl).2 _ hmem).1
   |exact hPc ((OkS.cs h.1 rfl).2 _ hmem).1
   |(have := ((OkS.fs h.1 rfl).2 _ hmem).2; omega)
   |(have := ((OkS.cs h.1 rfl).2 _ hmem).2; omega)
  done
 |fail) : p := h
end QIk1
theorem i170 {m : Nat} {x : List PV} (h64 : ∀ {y}, EZ m y → Pure Tab X G 64 [.agg y] (EvR (OkE y))) (h17 : ∀ {y}, BZ m y → Pure Tab X G 17 [.agg y] (BvR y (OkB y))) (h113 : ∀ {y}, CZ m y → Pure Tab X G 113 [.agg y] (ClR (kOf y) (OkC y))) (h114 : ∀ {y}, FZ m y → Pure Tab X G 114 [.agg y] (FnR (kOf y) (OkF y))) (hx : StmtC x) (hm : SizeOf.sizeOf x ≤ m) : Pure Tab X G 170 [.agg x] (StR (kOf x) (OkS x ∧ 4 ≤ kOf x ∧ kOf x ≤ 6)) := by
 obtain ⟨kind, op, ref, flags, str, exprs, kids, decls, cases, fns, classes, rfl, l_str, l_exprs, l_kids, l_decls, l_cases, l_fns, l_classes⟩ := hx.open (hm)
 have hxx : StmtC [PV.int .i64 kind, .int .i64 op, .int .i64 ref, .int .i64 flags, str, exprs, kids, decls, cases, fns, classes] := hx
 have := l_str.1; have := l_str.2.1; have := l_exprs.1; have := l_exprs.2.1; have := l_kids.1; have := l_kids.2.1; have := l_decls.1; have := l_decls.2.1; have := l_cases.1; have := l_cases.2.1; have := l_fns.1; have := l_fns.2.1; have := l_classes.1; have := l_classes.2.1
 refine Fn_of T170 (by simp) ?_
 refine nA ?_
 open QIk1 in exact Am1
def Bk (c : List PV) : Prop := ∃ s z, c = [s, .int .i32 z] ∧ Sls s ∧ deepB s = true
theorem Bk.len {c : List PV} (h : Bk c) : c.length = 2 := by obtain ⟨d, z, rfl, _⟩ := h; rfl
namespace QIk4
theorem kA3 (h : p := by
 first
 |((refine StR.no ?_; intro h1; have hub := hubH; unfold Hid at hub; obtain ⟨_, _, hb⟩ := hub (OkS.tr h1 rfl).2.1 _ hmem2; cases hb)) <;> exact Am3
 |exact kH
 |fail) : p := h
end QIk4
namespace QIk5
theorem kA3 (h : p := by
 first
 |exact kFm
 |exact kH
 |fail) : p := h
theorem kZ3 (h : p := by
 first
 |skip
  refine M_app_slT (A := [8006]) (ys := ys) (zs := [[s1, .int .i32 z1]]) (ids := [8005]) (cA) (by refine nA ?_; exact hgw.frame (by intro b hb; simp only [List.mem_singleton] at hb; subst hb; exact c0)) (by simp) (by simp) (by intro y hy; simp only [List.mem_singleton] at hy; subst hy; exact ⟨rfl, by simp [deepL, deepB, *]⟩) (by simp) (by simp only [List.length_cons, List.length_nil]; omega) (fun v' H' z' hgr hf => ?_)
  have f1 := hf 1 (by simp) (by simp)
  simp only [e1, go_sem, Nat.reduceEqDiff, Nat.reduceAdd, Nat.reduceLeDiff, Nat.reduceLT, Nat.reduceMul, Nat.reduceSub, reduceIte, reduceCtorEq, Int.reduceEq, Int.reduceLT, Int.reduceLE, Nat.reduceBEq, Int.reduceToNat, M_block] at f1
  clear hE hf
  simp only [push]
  refine nA ?_
  simp only [M_reg]
  refine nA ?_
  have next := nx
  unfold Hid at next
  refine next (n - 1) (by omega) _ ⟨i + 1, _, by omega, cA, cA, cA, by refine nA ?_; rw [wrap_i64 (by omega) (by omega)]; first | rfl | (congr 1; omega), cA, by refine nA ?_; exact hgr, by simp [hyl], ?_⟩
  intro c hc
  rcases List.mem_append.1 hc with hc | hc
  ·exact hys c hc
  ·simp only [List.mem_singleton] at hc; subst hc; exact ⟨_, _, rfl, hs1, hds1⟩
  done
 |fail) : p := h
end QIk5
namespace QIk6
theorem kA3 (h : p := by
 first
 |((refine StR.no ?_; intro h1; have hub := hubH; unfold Hid at hub; obtain ⟨_, _, hb⟩ := hub (OkS.tr h1 rfl).2.1 _ hmem2; cases hb; exact hu rfl)) <;> exact Am3
 |exact kH
 |fail) : p := h
end QIk6
namespace QIk7
theorem kA3 (h : p := by
 first
 |((refine StR.no ?_; intro h1; have hT := (OkS.tr h1 rfl).1; unfold tryK at hT; rw [c4, c8] at hT; omega)) <;> exact Am3
 |exact kH
 |fail) : p := h
end QIk7
namespace QIk8
theorem kA3 (h : p := by
 first
 |((exact StR.yes (by decide) (by decide) (by first | rfl | (simp only [deepB, deepL, deepLL, Bool.and_true, Bool.true_and, *]; done)))) <;> exact Am3
 |((refine StR.no ?_; intro h1; have hT := (OkS.tr h1 rfl).1; unfold tryK at hT; rw [c4, c8] at hT; omega)) <;> exact Am3
 |exact kH
 |fail) : p := h
theorem kB3 (h : p := by
 first
 |(refine MC_pure (h17 (by assumption)) (by intro b g r h; cases h) (cA) ?_; rintro _ ⟨_, bb, rfl, ⟨d, z, rfl, hd, hdd⟩, hbP, hbv⟩; have hcd := cellsOf_iv hd; have hsd := fun (n : Nat) (H : Heap) => settle_deep (n := n) (H := H) hdd; refine nA ?_) <;> exact Am3
 |fail) : p := h
theorem kZ3 (h : p := by
 first
 |skip
  all_goals
   refine StR.no ?_
   intro h1
   obtain ⟨hT1, hT2⟩ := (OkS.tr h1 rfl).2.2 _ hmem
   first
    |(simp only [List.getD_cons_succ, List.getD_cons_zero] at hT2; omega)
    |(obtain ⟨_, _, _, _, _, q1, q2, q3⟩ := hT1; have := hbP q1; subst this; cases hb)
  done
 |fail) : p := h
end QIk8
namespace QIk9
theorem kA3 (h : p := by
 first
 |((refine StR.no ?_; intro h1; have hT := (OkS.tr h1 rfl).1; unfold tryK at hT; rw [c4, c8] at hT; omega)) <;> exact Am3
 |((exfalso; omega)) <;> exact Am3
 |exact kH
 |fail) : p := h
end QIk9
namespace QIk10
theorem kA3 (h : p := by
 first
 |((exact StR.yes (by decide) (by decide) (by first | rfl | (simp only [deepB, deepL, deepLL, Bool.and_true, Bool.true_and, *]; done)))) <;> exact Am3
 |((refine StR.no ?_; intro h1; have hT := (OkS.tr h1 rfl).1; unfold tryK at hT; rw [c4, c8] at hT; omega)) <;> exact Am3
 |exact kH
 |fail) : p := h
theorem kB3 (h : p := by
 first
 |(refine MC_pure (h17 (by assumption)) (by intro b g r h; cases h) (cA) ?_; rintro _ ⟨_, bb, rfl, ⟨d, z, rfl, hd, hdd⟩, hbP, hbv⟩; have hcd := cellsOf_iv hd; have hsd := fun (n : Nat) (H : Heap) => settle_deep (n := n) (H := H) hdd; refine nA ?_) <;> exact Am3
 |fail) : p := h
theorem kZ3 (h : p := by
 first
 |skip
  all_goals
   refine StR.no ?_
   intro h1
   obtain ⟨hT1, hT2⟩ := (OkS.tr h1 rfl).2.2 _ hmem
   first
    |(simp only [List.getD_cons_succ, List.getD_cons_zero] at hT2; omega)
    |(obtain ⟨_, _, _, _, _, q1, q2, q3⟩ := hT1; have := hbP q1; subst this; cases hb)
  done
 |fail) : p := h
end QIk10
namespace QIk11
theorem kA3 (h : p := by
 first
 |((refine StR.no ?_; intro h1; have hT := (OkS.tr h1 rfl).1; unfold tryK at hT; rw [c4, c8] at hT; omega)) <;> exact Am3
 |((exfalso; omega)) <;> exact Am3
 |exact kH
 |fail) : p := h
end QIk11
namespace QIk12
theorem kA3 (h : p := by
 first
 |((exact StR.yes (by decide) (by decide) (by first | rfl | (simp only [deepB, deepL, deepLL, Bool.and_true, Bool.true_and, *]; done)))) <;> exact Am3
 |((refine StR.no ?_; intro h1; have hT := (OkS.tr h1 rfl).1; unfold tryK at hT; rw [c4, c8] at hT; omega)) <;> exact Am3
 |exact kH
 |fail) : p := h
theorem kB3 (h : p := by
 first
 |(refine MC_pure (h17 (by assumption)) (by intro b g r h; cases h) (cA) ?_; rintro _ ⟨_, bb, rfl, ⟨d, z, rfl, hd, hdd⟩, hbP, hbv⟩; have hcd := cellsOf_iv hd; have hsd := fun (n : Nat) (H : Heap) => settle_deep (n := n) (H := H) hdd; refine nA ?_) <;> exact Am3
 |fail) : p := h
theorem kZ3 (h : p := by
 first
 |skip
  all_goals
   refine StR.no ?_
   intro h1
   obtain ⟨hT1, hT2⟩ := (OkS.tr h1 rfl).2.2 _ hmem
   first
    |(simp only [List.getD_cons_succ, List.getD_cons_zero] at hT2; omega)
    |(obtain ⟨_, _, _, _, _, q1, q2, q3⟩ := hT1; have := hbP q1; subst this; cases hb)
  done
 |fail) : p := h
end QIk12
namespace QIk13
theorem kA3 (h : p := by
 first
 |((refine StR.no ?_; intro h1; have hT := (OkS.tr h1 rfl).1; unfold tryK at hT; rw [c4, c8] at hT; omega)) <;> exact Am3
 |((exfalso; omega)) <;> exact Am3
 |exact kH
 |fail) : p := h
end QIk13
namespace QIk14
theorem kA3 (h : p := by
 first
 |((exact StR.yes (by decide) (by decide) (by first | rfl | (simp only [deepB, deepL, deepLL, Bool.and_true, Bool.true_and, *]; done)))) <;> exact Am3
 |((refine StR.no ?_; intro h1; have hT := (OkS.tr h1 rfl).1; unfold tryK at hT; rw [c4, c8] at hT; omega)) <;> exact Am3
 |exact kH
 |fail) : p := h
theorem kB3 (h : p := by
 first
 |(refine MC_pure (h17 (by assumption)) (by intro b g r h; cases h) (cA) ?_; rintro _ ⟨_, bb, rfl, ⟨d, z, rfl, hd, hdd⟩, hbP, hbv⟩; have hcd := cellsOf_iv hd; have hsd := fun (n : Nat) (H : Heap) => settle_deep (n := n) (H := H) hdd; refine nA ?_) <;> exact Am3
 |fail) : p := h
theorem kZ3 (h : p := by
 first
 |skip
  all_goals
   refine StR.no ?_
   intro h1
   obtain ⟨hT1, hT2⟩ := (OkS.tr h1 rfl).2.2 _ hmem
   first
    |(simp only [List.getD_cons_succ, List.getD_cons_zero] at hT2; omega)
    |(obtain ⟨_, _, _, _, _, q1, q2, q3⟩ := hT1; have := hbP q1; subst this; cases hb)
  done
 |fail) : p := h
end QIk14
namespace QIk15
theorem kA3 (h : p := by
 first
 |((refine StR.no ?_; intro h1; have hT := (OkS.tr h1 rfl).1; unfold tryK at hT; rw [c4, c8] at hT; omega)) <;> exact Am3
 |((exfalso; omega)) <;> exact Am3
 |exact kH
 |fail) : p := h
end QIk15
namespace QIk3
theorem kA2 (h : p := by
 first
 |exact kFm
 |exact kH
 |fail) : p := h
theorem kB2 (h : p := by
 first
 |(refine MIX_S (P := Sv) Sv.len lu (by omega) (by omega) (fun y hy hmem2 hg2 => ?_); obtain ⟨dss, rfl, hsis, hsdds, hsbs⟩ := hy; have hcss := cellsOf_iv hsis; have hsss := fun (n : Nat) (H : Heap) => settle_deep (n := n) (H := H) hsdds; refine nA ?_) <;> exact Am2
 |fail) : p := h
theorem y2_0 (h : p := by
 first
 |skip
  rcases hsis with rfl | ⟨uu, ww, rfl⟩
  ·refine nA ?_
   open QIk4 in exact Am3
  ·by_cases hu : uu = 425
   ·subst hu
    obtain ⟨s1, z1, rfl, hs1⟩ := hsbs _ rfl
    have hcs1 := cellsOf_sls hs1
    have hds1 : deepB s1 = true := by simpa [deepB, deepL] using hsdds
    refine nA ?_
    open QIk5 in exact Am3
   ·refine nA ?_
    open QIk6 in exact Am3
  done
 |fail) : p := h
theorem y2_1 (h : p := by
 first
 |skip
  have hik : i = (els kids).length := by omega
  have q0 : IntKind.i64.wrap (Int.tdiv 0 4) = 0 := by decide
  have q1 : IntKind.i64.wrap (Int.tdiv 4 4) = 1 := by decide
  have q2 : IntKind.i64.wrap (Int.tdiv 0 8) = 0 := by decide
  have q3 : IntKind.i64.wrap (Int.tdiv 8 8) = 1 := by decide
  have w1 : IntKind.i64.wrap (1 + 0) = 1 := by decide
  have w2 : IntKind.i64.wrap (1 + 1) = 2 := by decide
  have w3 : IntKind.i64.wrap (2 + 0) = 2 := by decide
  have w4 : IntKind.i64.wrap (2 + 1) = 3 := by decide
  have w5 : IntKind.i64.wrap (2 - 1) = 1 := by decide
  have w6 : IntKind.i64.wrap (3 - 1) = 2 := by decide
  have w7 : IntKind.i64.wrap (1 - 1) = 0 := by decide
  clear nx hE
  rcases hgw.2 with ⟨rfl, ht6⟩ | ⟨rid, st, hA, ht6, hH6⟩
  ·have hz : (els kids).length = 0 := by rw [← hik, ← hyl]; rfl
   rcases and4 flags with c4 | c4 <;> rcases and8 flags with c8 | c8 <;> refine nA ?_
   all_goals
    open QIk7 in exact Am3
  ·simp only [List.mem_singleton] at hA
   subst hA
   rcases and4 flags with c4 | c4 <;> rcases and8 flags with c8 | c8
   ·by_cases hl : ys.length = 1
    ·obtain ⟨a, rfl⟩ : ∃ a, ys = [a] := by match ys, hl with | [a], _ => exact ⟨_, rfl⟩
     obtain ⟨sa, za, rfl, hsa, hda⟩ := hys a (by simp)
     have hca := cellsOf_sls hsa
     have hsda := fun (n : Nat) (H : Heap) => settle_deep (n := n) (H := H) hda
     simp only [List.flatten_cons, List.flatten_nil, List.cons_append, List.nil_append, List.length_cons, List.length_nil] at hH6 ht6 hl hyl
     have hnl : (els kids).length = 1 := by omega
     refine nA ?_
     open QIk8 in exact Am3
    ·refine nA ?_
     open QIk9 in exact Am3
   ·by_cases hl : ys.length = 2
    ·obtain ⟨a, b, rfl⟩ : ∃ a b, ys = [a, b] := by match ys, hl with | [a, b], _ => exact ⟨_, _, rfl⟩
     obtain ⟨sa, za, rfl, hsa, hda⟩ := hys a (by simp)
     have hca := cellsOf_sls hsa
     have hsda := fun (n : Nat) (H : Heap) => settle_deep (n := n) (H := H) hda
     obtain ⟨sb, zb, rfl, hsb, hdb⟩ := hys b (by simp)
     have hcb := cellsOf_sls hsb
     have hsdb := fun (n : Nat) (H : Heap) => settle_deep (n := n) (H := H) hdb
     simp only [List.flatten_cons, List.flatten_nil, List.cons_append, List.nil_append, List.length_cons, List.length_nil] at hH6 ht6 hl hyl
     have hnl : (els kids).length = 2 := by omega
     refine nA ?_
     open QIk10 in exact Am3
    ·refine nA ?_
     open QIk11 in exact Am3
   ·by_cases hl : ys.length = 2
    ·obtain ⟨a, b, rfl⟩ : ∃ a b, ys = [a, b] := by match ys, hl with | [a, b], _ => exact ⟨_, _, rfl⟩
     obtain ⟨sa, za, rfl, hsa, hda⟩ := hys a (by simp)
     have hca := cellsOf_sls hsa
     have hsda := fun (n : Nat) (H : Heap) => settle_deep (n := n) (H := H) hda
     obtain ⟨sb, zb, rfl, hsb, hdb⟩ := hys b (by simp)
     have hcb := cellsOf_sls hsb
     have hsdb := fun (n : Nat) (H : Heap) => settle_deep (n := n) (H := H) hdb
     simp only [List.flatten_cons, List.flatten_nil, List.cons_append, List.nil_append, List.length_cons, List.length_nil] at hH6 ht6 hl hyl
     have hnl : (els kids).length = 2 := by omega
     refine nA ?_
     open QIk12 in exact Am3
    ·refine nA ?_
     open QIk13 in exact Am3
   ·by_cases hl : ys.length = 3
    ·obtain ⟨a, b, c, rfl⟩ : ∃ a b c, ys = [a, b, c] := by match ys, hl with | [a, b, c], _ => exact ⟨_, _, _, rfl⟩
     obtain ⟨sa, za, rfl, hsa, hda⟩ := hys a (by simp)
     have hca := cellsOf_sls hsa
     have hsda := fun (n : Nat) (H : Heap) => settle_deep (n := n) (H := H) hda
     obtain ⟨sb, zb, rfl, hsb, hdb⟩ := hys b (by simp)
     have hcb := cellsOf_sls hsb
     have hsdb := fun (n : Nat) (H : Heap) => settle_deep (n := n) (H := H) hdb
     obtain ⟨sc, zc, rfl, hsc, hdc⟩ := hys c (by simp)
     have hcc := cellsOf_sls hsc
     have hsdc := fun (n : Nat) (H : Heap) => settle_deep (n := n) (H := H) hdc
     simp only [List.flatten_cons, List.flatten_nil, List.cons_append, List.nil_append, List.length_cons, List.length_nil] at hH6 ht6 hl hyl
     have hnl : (els kids).length = 3 := by omega
     refine nA ?_
     open QIk14 in exact Am3
    ·refine nA ?_
     open QIk15 in exact Am3
  done
 |fail) : p := h
theorem kZ2 (h : p := by
 first
 |skip
  all_goals first
  |exact y2_0
  |exact y2_1
  |fail
  done
 |fail) : p := h
end QIk3
namespace QIk2
theorem kA1 (h : p := by
 first
 |exact kFm
 |exact kH
 |fail) : p := h
theorem kZ1 (h : p := by
 first
 |skip
  refine M_loop (fun n s' => ∃ (i : Nat) (ys : List (List PV)), i + n = (els kids).length ∧ s'.t 2 = .ptr 1 1 0 ∧ s'.t 14 = u ∧ s'.t 15 = .int .i64 (els kids).length ∧ s'.t 16 = .int .i64 i ∧ s'.H 1 = some ⟨37, 1, [PV.int .i64 15, .int .i64 op, .int .i64 ref, .int .i64 flags, str, exprs, kids, decls, cases, fns, classes], 0⟩ ∧ Grow [8006] s'.H 226 2 (s'.t 6) ys ∧ ys.length = i ∧ (∀ c, c ∈ ys → Bk c)) ?_ (n := (els kids).length)
    ⟨0, [], by simp, z0, z0, z1 hnu, z0, z0, by refine s0 ?_; exact Grow.nil, rfl, by simp⟩
  rintro n ⟨t, H, k⟩ ⟨i, ys, hi, h2, h11, h12, h13, e1, hgw, hyl, hys⟩ next
  simp only at h2 h11 h12 h13 e1 hgw
  have hE := fun (n : Nat) (H' : Heap) (q1 : H' 8006 = H 8006) => (Grow.settleE (n := n) (hgw.frame (H' := H') (by intro b hb; simp only [List.mem_cons, List.not_mem_nil, or_false] at hb; rcases hb with rfl; exact q1)))
  obtain ⟨g1, g2, g3, g4⟩ := hgw.gv
  refine n1 (j h2 (j h11 (j h12 (j h13 e1)))) ?_
  have nx : Hid _ := next
  clear next
  open QIk3 in exact Am2
  done
 |fail) : p := h
end QIk2
theorem i174 {m : Nat} {x : List PV} {u : PV} (h17 : ∀ {y}, BZ m y → Pure Tab X G 17 [.agg y] (BvR y (OkB y))) (hx : StmtC x) (hm : SizeOf.sizeOf x ≤ m) (lu : SlP Sv u) (hnu : (els u).length = (els (x.getD 6 .undef)).length) (hub : (∀ y, y ∈ els (x.getD 6 .undef) → kOf y = 7) → ∀ c, c ∈ els u → IsB c) (hk15 : kOf x = 15) : Pure Tab X G 174 [.agg x, u] (StR 15 (OkS x)) := by
 obtain ⟨kind, op, ref, flags, str, exprs, kids, decls, cases, fns, classes, rfl, l_str, l_exprs, l_kids, l_decls, l_cases, l_fns, l_classes⟩ := hx.open (hm)
 have hxx : StmtC [PV.int .i64 kind, .int .i64 op, .int .i64 ref, .int .i64 flags, str, exprs, kids, decls, cases, fns, classes] := hx
 have := l_str.1; have := l_str.2.1; have := l_exprs.1; have := l_exprs.2.1; have := l_kids.1; have := l_kids.2.1; have := l_decls.1; have := l_decls.2.1; have := l_cases.1; have := l_cases.2.1; have := l_fns.1; have := l_fns.2.1; have := l_classes.1; have := l_classes.2.1
 have hnu : (els u).length = (els kids).length := hnu
 have hul := lu.1
 have hud := lu.2.1
 have hsu := fun (n : Nat) (H : Heap) => settle_deep (n := n) (H := H) hud
 have hcu := cellsOf_sls (hul.imp id fun ⟨xs, h, _⟩ => ⟨xs, h⟩)
 have hBu := lu.1.len
 have hub : (∀ y, y ∈ els kids → kOf y = 7) → ∀ c, c ∈ els u → IsB c := hub
 have hk15 : kind = 15 := hk15
 subst hk15
 have hubH : Hid _ := hub
 clear hub
 refine Fn_of T174 (by simp) ?_
 refine nA ?_
 open QIk2 in exact Am1
end
end Go.Pi
end
section
open Go Go.Pi
namespace Go.Pi
variable {p q a : Prop}
theorem SvsR.slp {n : Nat} {v : PV} (h1 : Sls v) (h2 : deepB v = true) (h3 : ∀ c, c ∈ els v → Sv c) (h4 : (els v).length ≤ n) (h5 : n ≤ 1048576) : SlP Sv v :=
 ⟨h1.imp id (fun ⟨xs, h⟩ => ⟨xs, h, by subst h; simp only [els] at h4; omega⟩), h2, h3⟩
section
variable {X : CallF} {G : Nat → PV}
namespace QIl1
theorem kA1 (h : p := by
 first
 |((exfalso; omega)) <;> exact Am1
 |exact kH
 |fail) : p := h
theorem kB1 (h : p := by
 first
 |(refine MC_pure (i32 _) pE dM ?_; rintro _ rfl; exact kT1)
 |fail) : p := h
theorem kZ1 (h : p := by
 first
 |skip
  exact ⟨_, rfl⟩
  done
 |fail) : p := h
end QIl1
theorem i145x (n : Int) (h0 : 0 ≤ n) : Pure Tab X G 145 [.int .i64 n] (fun r => ∃ w, r = .fp [.int .i32 0, .int .u32 0, .int .u32 w]) := by
 refine Fn_of T145 (by simp) ?_
 refine n0 ?_
 open QIl1 in exact Am1
namespace QIl3
theorem kA2 (h : p := by
 first
 |((refine StR.no ?_; rintro ⟨h1, h2⟩; have h := OkS.sw h1 rfl _ hmem; obtain ⟨_, _, q1, q2, q3⟩ := h; have a1 := hPk ⟨q1, q2⟩; have a2 := hPs q3; first | (cases a1; done) | (cases a2; done) | (subst a1; contradiction) | (subst a2; contradiction))) <;> exact Am2
 |exact kH
 |fail) : p := h
theorem kB2 (h : p := by
 first
 |(refine MC_pure (i18 yl_value h64) (by intro b g r h; cases h; exact (‹SlP _ (PV.ptr _ _ _)›).not_ptr) (cA) ?_; rintro _ ⟨_, bk, rfl, ⟨dk, zk, rfl, hdk, hddk⟩, hPk⟩; have hcdk := cellsOf_iv hdk; refine nA ?_) <;> exact Am2
 |(refine MC_pure (h147 ‹SlP (SZ _) _›) (by intro b g r h; cases h; exact (‹SlP _ (PV.ptr _ _ _)›).not_ptr) (cA) ?_; rintro _ ⟨rs, bs, rfl, hSs, hDs, hEs, hLs, hL2s, hPs⟩; have hcss := cellsOf_sls hSs; have hsds := fun (n : Nat) (H : Heap) => settle_deep (n := n) (H := H) hDs; refine nA ?_) <;> exact Am2
 |fail) : p := h
theorem y2_0 (h : p := by
 first
 |skip
  refine M_app_slT (A := [22010]) (ys := ys) (zs := [[dk, .int .i32 zk, rs, .int .i32 0]]) (ids := [22009]) (cA) (by refine nA ?_; exact hgw.frame (by intro b hb; simp only [List.mem_singleton] at hb; subst hb; exact c0)) (by simp) (by simp) (by intro y hy; simp only [List.mem_singleton] at hy; subst hy; exact ⟨rfl, by simp [deepL, deepB, *]⟩) (by simp) (by simp only [List.length_cons, List.length_nil]; omega) (fun v2 H' z' hgr hf => ?_)
  have f14 := hf 14005 (by simp) (by simp)
  simp only [e14, go_sem, Nat.reduceEqDiff, Nat.reduceAdd, Nat.reduceLeDiff, Nat.reduceLT, Nat.reduceMul, Nat.reduceSub, reduceIte, reduceCtorEq, Int.reduceEq, Int.reduceLT, Int.reduceLE, Nat.reduceBEq, Int.reduceToNat, M_block] at f14
  have hcv2 := cellsOf_grow hgr
  clear hE hf
  simp only [push]
  refine nA ?_
  simp only [M_reg]
  refine nA ?_
  have next := nx
  unfold Hid at next
  exact next (n - 1) (by omega) _ ⟨i + 1, v2, _, so, by omega, cA, cA, cA, by refine nA ?_; rw [wrap_i64 (by omega) (by omega)]; first | rfl | (congr 1; omega), cA, hgr.frame (by intro b hb; simp only [List.mem_singleton] at hb; subst hb; exact c0), by simp [hyl]⟩
  done
 |fail) : p := h
theorem y2_1 (h : p := by
 first
 |skip
  exact ⟨by simpa using fun h : 0 ∈ gi v' => absurd (g4 0 h) (by simp), StR.yes (by decide) (by simp [kOf_mk]) (by simp [deepB, deepL, *])⟩
  done
 |fail) : p := h
theorem kZ2 (h : p := by
 first
 |skip
  all_goals first
  |exact y2_0
  |exact y2_1
  |fail
  done
 |fail) : p := h
end QIl3
namespace QIl2
theorem kA1 (h : p := by
 first
 |((refine ⟨_, _, rfl, ‹Iv _›, ‹deepB _ = true›, ‹Blk _›, fun h => hbP h.1, fun _ h => absurd h (by simp [kOf_mk])⟩)) <;> exact Am1
 |((refine ⟨.ifc 425 _, _, rfl, .inr ⟨_, _, rfl⟩, by simp only [deepB, deepL, Bool.and_true, Bool.true_and, *], fun v h => ?_, fun _ => rfl, fun _ _ => ⟨_, rfl⟩⟩; cases h; exact ⟨_, _, rfl, hul.imp id fun ⟨xs, h, _⟩ => ⟨xs, h⟩⟩)) <;> exact Am1
 |((exact StR.yes (by decide) (by simp [kOf_mk]) (by first | rfl | (simp only [deepB, deepL, deepLL, Bool.and_true, Bool.true_and, *]; done)))) <;> exact Am1
 |((refine StR.no ?_; rintro ⟨h1, h2⟩; have hx := OkS.xk h1; simp only [kOf_mk] at h2; first | omega | (simp [stK] at hx; omega))) <;> exact Am1
 |exact kH
 |fail) : p := h
theorem kB1 (h : p := by
 first
 |(refine MIX_S (P := Ev) Ev.len lv (by omega) (by omega) (fun y hy hmem2 hg2 => ?_); obtain ⟨dde, zze, rfl, hdie, hddde⟩ := hy; have hcde := cellsOf_iv hdie; have hsde := fun (n : Nat) (H : Heap) => settle_deep (n := n) (H := H) hddde; refine nA ?_) <;> exact Am1
 |(refine MIX_S (P := Sv) Sv.len lu (by omega) (by omega) (fun y hy hmem2 hg2 => ?_); obtain ⟨dss, rfl, hsis, hsdds, hsbs⟩ := hy; have hcss := cellsOf_iv hsis; have hsss := fun (n : Nat) (H : Heap) => settle_deep (n := n) (H := H) hsdds; refine nA ?_) <;> exact Am1
 |(refine MC_pure (i174 h17 hxx hm lu hnu hub0 rfl) (by intro b g r h; cases h) (cA) ?_; rintro _ ⟨dt, bt, rfl, hdt, hddt, hbt, hbP, _⟩; have hcdt := cellsOf_iv hdt; have hsdt := fun (n : Nat) (H : Heap) => settle_deep (n := n) (H := H) hddt; refine nA ?_) <;> exact Am1
 |(refine MC_pure (i145x _ (by omega)) (by intro b g r h; cases h) (cA) ?_; rintro _ ⟨wl, rfl⟩; refine nA ?_) <;> exact Am1
 |fail) : p := h
theorem kZ1 (h : p := by
 first
 |skip
  have hBc := l_cases.1.len
  refine M_loop (fun n s' => ∃ (i : Nat) (v' : PV) (ys : List (List PV)) (so : Nat), i + n = (els cases).length ∧ s'.t 8 = .ptr 14005 so 0 ∧ s'.t 144 = cases ∧ s'.t 145 = .int .i64 (els cases).length ∧ s'.t 146 = .int .i64 i ∧
    s'.H 14005 = some ⟨439, so, [dde, .int .i32 zze, v', .int .i32 0, .int .i32 0], 0⟩ ∧ Grow [22010] s'.H 441 4 v' ys ∧ ys.length = i) ?_ (n := (els cases).length)
    ⟨0, _, [], _, by simp, z0, z0, z0, z0, z0, Grow.nil, rfl⟩
  rintro n ⟨t, H, k⟩ ⟨i, v', ys, so, hi, h8, h11, h12, h13, e14, hgw, hyl⟩ next
  simp only at h8 h11 h12 h13 e14 hgw
  have hE := fun (n : Nat) (H' : Heap) (q1 : H' 22010 = H 22010) => (Grow.settleE (n := n) (hgw.frame (H' := H') (by intro b hb; simp only [List.mem_cons, List.not_mem_nil, or_false] at hb; rcases hb with rfl; exact q1)))
  have hcv' := cellsOf_grow hgw
  obtain ⟨g1, g2, g3, g4⟩ := hgw.gv
  refine n1 (j h8 (j h11 (j h12 (j h13 e14)))) ?_
  have nx : Hid _ := next
  clear next
  open QIl3 in exact Am2
  done
 |fail) : p := h
end QIl2
theorem i172 {m : Nat} {x : List PV} {u v : PV} (h64 : ∀ {y}, EZ m y → Pure Tab X G 64 [.agg y] (EvR (OkE y))) (h17 : ∀ {y}, BZ m y → Pure Tab X G 17 [.agg y] (BvR y (OkB y))) (h147 : ∀ {v1}, SlP (SZ m) v1 → Pure Tab X G 147 [v1] (SvsR v1 (∀ y, y ∈ els v1 → OkS y))) (hx : StmtC x) (hm : SizeOf.sizeOf x ≤ m) (lv : SlP Ev v) (hnv : (els v).length = (els (x.getD 5 .undef)).length) (lu : SlP Sv u) (hnu : (els u).length = (els (x.getD 6 .undef)).length) (hub : (∀ y, y ∈ els (x.getD 6 .undef) → kOf y = 7) → ∀ c, c ∈ els u → IsB c) : Pure Tab X G 172 [.agg x, v, u] (StR (kOf x) (OkS x ∧ (kOf x = 7 ∨ kOf x = 8 ∨ 14 ≤ kOf x ∧ kOf x ≤ 17))) := by
 obtain ⟨kind, op, ref, flags, str, exprs, kids, decls, cases, fns, classes, rfl, l_str, l_exprs, l_kids, l_decls, l_cases, l_fns, l_classes⟩ := hx.open (hm)
 have hxx : StmtC [PV.int .i64 kind, .int .i64 op, .int .i64 ref, .int .i64 flags, str, exprs, kids, decls, cases, fns, classes] := hx
 have := l_str.1; have := l_str.2.1; have := l_exprs.1; have := l_exprs.2.1; have := l_kids.1; have := l_kids.2.1; have := l_decls.1; have := l_decls.2.1; have := l_cases.1; have := l_cases.2.1; have := l_fns.1; have := l_fns.2.1; have := l_classes.1; have := l_classes.2.1
 have hnv : (els v).length = (els exprs).length := hnv
 have hvl := lv.1
 have hvd := lv.2.1
 have hsv := fun (n : Nat) (H : Heap) => settle_deep (n := n) (H := H) hvd
 have hcv := cellsOf_sls (hvl.imp id fun ⟨xs, h, _⟩ => ⟨xs, h⟩)
 have hB := lv.1.len
 have hnu : (els u).length = (els kids).length := hnu
 have hul := lu.1
 have hud := lu.2.1
 have hsu := fun (n : Nat) (H : Heap) => settle_deep (n := n) (H := H) hud
 have hcu := cellsOf_sls (hul.imp id fun ⟨xs, h, _⟩ => ⟨xs, h⟩)
 have hBu := lu.1.len
 have hub0 : Hid ((∀ y, y ∈ els kids → kOf y = 7) → ∀ c, c ∈ els u → IsB c) := hub
 clear hub
 refine Fn_of T172 (by simp) ?_
 refine nA ?_
 open QIl2 in exact Am1
namespace QIl4
theorem kA1 (h : p := by
 first
 |exact kFm
 |exact kH
 |fail) : p := h
theorem kB1 (h : p := by
 first
 |(refine MC_pure (i33 l_exprs h64) (by intro b g r h; cases h; exact (‹SlP _ (PV.ptr _ _ _)›).not_ptr) (cA) ?_; rintro _ ⟨v, bk, rfl, hSv, hDv, hEv, hl1, hl2, hPk⟩; have lv := EvsR.slp hSv hDv hEv hl1 l_exprs.1.len; have hIv := lv.1; have hcsv := cellsOf_sls hSv; have hsdv := fun (n : Nat) (H : Heap) => settle_deep (n := n) (H := H) hDv; refine nA ?_) <;> exact Am1
 |(refine MC_pure (h147 l_kids) (by intro b g r h; cases h; exact (‹SlP _ (PV.ptr _ _ _)›).not_ptr) (cA) ?_; rintro _ ⟨u, bu, rfl, hSu, hDu, hEu, hu1, hu2, hPu⟩; have lu := SvsR.slp hSu hDu hEu hu1 l_kids.1.len; have hIu := lu.1; have hcsu := cellsOf_sls hSu; have hsdu := fun (n : Nat) (H : Heap) => settle_deep (n := n) (H := H) hDu; refine nA ?_) <;> exact Am1
 |(refine MC_pure (i169 hxx hm lv (hl2 (by simpa using ‹(!bk) = false›))) (by intro b g r h; cases h) (cA) ?_; rintro _ ⟨da, ba, rfl, hda, hdda, hbla, hPa, hBa⟩; have hcda := cellsOf_iv hda; have hsda := fun (n : Nat) (H : Heap) => settle_deep (n := n) (H := H) hdda; refine nA ?_) <;> exact Am1
 |(refine MC_pure (i170 h64 h17 h113 h114 hxx hm) (by intro b g r h; cases h) (cA) ?_; rintro _ ⟨db, bb, rfl, hdb, hddb, hblb, hPb, hBb⟩; have hcdb := cellsOf_iv hdb; have hsdb := fun (n : Nat) (H : Heap) => settle_deep (n := n) (H := H) hddb; refine nA ?_) <;> exact Am1
 |(refine MC_pure (i171 hxx hm lv (hl2 (by simpa using ‹(!bk) = false›)) lu (hu2 rfl).1) (by intro b g r h; cases h) (cA) ?_; rintro _ ⟨dc, bc, rfl, hdc, hddc, hblc, hPc, hBc⟩; have hcdc := cellsOf_iv hdc; have hsdc := fun (n : Nat) (H : Heap) => settle_deep (n := n) (H := H) hddc; refine nA ?_) <;> exact Am1
 |(refine MC_pure (i172 h64 h17 h147 hxx hm lv (hl2 (by simpa using ‹(!bk) = false›)) lu (hu2 rfl).1 (hu2 rfl).2) (by intro b g r h; cases h) (cA) ?_; rintro _ ⟨dd, bd, rfl, hdd, hddd, hbld, hPd, hBd⟩; have hcdd := cellsOf_iv hdd; have hsdd := fun (n : Nat) (H : Heap) => settle_deep (n := n) (H := H) hddd; refine nA ?_) <;> exact Am1
 |fail) : p := h
theorem y1_0 (h : p := by
 first
 |skip
  refine StR.no fun h => ?_
  have := hPk (OkS.ex h)
  subst this
  cases hb
  done
 |fail) : p := h
theorem y1_1 (h : p := by
 first
 |skip
  exact ⟨_, _, rfl, hda, hdda, hbla, fun _ => rfl, hBa⟩
  done
 |fail) : p := h
theorem y1_2 (h : p := by
 first
 |skip
  exact ⟨_, _, rfl, hdb, hddb, hblb, fun _ => rfl, hBb⟩
  done
 |fail) : p := h
theorem y1_3 (h : p := by
 first
 |skip
  exact ⟨_, _, rfl, hdc, hddc, hblc, fun _ => rfl, hBc⟩
  done
 |fail) : p := h
theorem y1_4 (h : p := by
 first
 |skip
  refine ⟨_, _, rfl, hdd, hddd, hbld, fun h => ?_, hBd⟩
  obtain ⟨x1, x2, x3, x4, x5, x6, x7, x8, x9, x10⟩ := OkS.xk h
  simp only [kOf_mk] at hPa hPb hPc hPd
  by_cases k1 : kind ≤ 3 ∨ 18 ≤ kind
  ·exact absurd (hPa ⟨h, k1⟩) (by decide)
  by_cases k2 : 4 ≤ kind ∧ kind ≤ 6
  ·exact absurd (hPb ⟨h, k2⟩) (by decide)
  by_cases k3 : 9 ≤ kind ∧ kind ≤ 13
  ·exact absurd (hPc ⟨h, k3⟩) (by decide)
  exact hPd ⟨h, by omega⟩
  done
 |fail) : p := h
theorem y1_5 (h : p := by
 first
 |skip
  exact StR.no fun h => absurd (hPu (OkS.kd h)) (by decide)
  done
 |fail) : p := h
theorem kZ1 (h : p := by
 first
 |skip
  all_goals first
  |exact y1_0
  |exact y1_1
  |exact y1_2
  |exact y1_3
  |exact y1_4
  |exact y1_5
  |fail
  done
 |fail) : p := h
end QIl4
theorem i166 {m : Nat} {x : List PV} (h64 : ∀ {y}, EZ m y → Pure Tab X G 64 [.agg y] (EvR (OkE y))) (h17 : ∀ {y}, BZ m y → Pure Tab X G 17 [.agg y] (BvR y (OkB y))) (h113 : ∀ {y}, CZ m y → Pure Tab X G 113 [.agg y] (ClR (kOf y) (OkC y))) (h114 : ∀ {y}, FZ m y → Pure Tab X G 114 [.agg y] (FnR (kOf y) (OkF y))) (h147 : ∀ {v1}, SlP (SZ m) v1 → Pure Tab X G 147 [v1] (SvsR v1 (∀ y, y ∈ els v1 → OkS y))) (hx : StmtC x) (hm : SizeOf.sizeOf x ≤ m) : Pure Tab X G 166 [.agg x] (StR (kOf x) (OkS x)) := by
 obtain ⟨kind, op, ref, flags, str, exprs, kids, decls, cases, fns, classes, rfl, l_str, l_exprs, l_kids, l_decls, l_cases, l_fns, l_classes⟩ := hx.open (hm)
 have hxx : StmtC [PV.int .i64 kind, .int .i64 op, .int .i64 ref, .int .i64 flags, str, exprs, kids, decls, cases, fns, classes] := hx
 have := l_str.1; have := l_str.2.1; have := l_exprs.1; have := l_exprs.2.1; have := l_kids.1; have := l_kids.2.1; have := l_decls.1; have := l_decls.2.1; have := l_cases.1; have := l_cases.2.1; have := l_fns.1; have := l_fns.2.1; have := l_classes.1; have := l_classes.2.1
 refine Fn_of T166 (by simp) ?_
 refine nA ?_
 open QIl4 in exact Am1
theorem iall {ga gb : Int} (hG : G 1 = .fp [.int .u32 ga, .int .u32 gb]) : ∀ m : Nat, (∀ {y}, EZ m y → Pure Tab X G 64 [.agg y] (EvR (OkE y))) ∧ (∀ {y}, BZ m y → Pure Tab X G 17 [.agg y] (BvR y (OkB y))) ∧ (∀ {y}, SZ m y → Pure Tab X G 166 [.agg y] (StR (kOf y) (OkS y))) := by
 intro m
 induction m with
 |zero => exact ⟨fun h => absurd h.2 (Nat.not_lt_zero _), fun h => absurd h.2 (Nat.not_lt_zero _), fun h => absurd h.2 (Nat.not_lt_zero _)⟩
 |succ m ih =>
  obtain ⟨h64, h17, h166⟩ := ih
  have h147 : ∀ {v1}, SlP (SZ m) v1 → Pure Tab X G 147 [v1] (SvsR v1 (∀ y, y ∈ els v1 → OkS y)) := fun lv => i147 lv h166
  have h144 : ∀ {v1}, SlP (MZ m) v1 → Pure Tab X G 144 [v1] (LsR (els v1).length (∀ y, y ∈ els v1 → OkM y)) := fun lv => i144 lv h64 h147
  have h146 : ∀ {v1}, SlP (AZ m) v1 → Pure Tab X G 146 [v1] (LsR (els v1).length (∀ y, y ∈ els v1 → OkA y)) := fun lv => i146 lv h64 h17
  have h113 : ∀ {y}, CZ m y → Pure Tab X G 113 [.agg y] (ClR (kOf y) (OkC y)) := fun h => i113 h64 h144 h.1 h.le
  have h114 : ∀ {y}, FZ m y → Pure Tab X G 114 [.agg y] (FnR (kOf y) (OkF y)) := fun h => i114 hG h147 h146 h.1 h.le
  have h115 : ∀ {y}, FZ m y → Pure Tab X G 115 [.agg y] (IvR False) := fun h => i115 h147 h146 h.1 h.le
  exact ⟨fun h => i64 h64 h113 h114 h115 h.1 (Nat.le_of_lt_succ h.2), fun h => i17 h64 h17 h.1 (Nat.le_of_lt_succ h.2), fun h => i166 h64 h17 h113 h114 h147 h.1 (Nat.le_of_lt_succ h.2)⟩
theorem idecls {ga gb : Int} (hG : G 1 = .fp [.int .u32 ga, .int .u32 gb]) {m : Nat} {v0 : PV} (lv : SlP (DZ m) v0) : Pure Tab X G 10 [v0] (BdR v0 (∀ y, y ∈ els v0 → OkD y)) := i10 lv (iall hG m).1 (iall hG m).2.1
end
end Go.Pi
end
