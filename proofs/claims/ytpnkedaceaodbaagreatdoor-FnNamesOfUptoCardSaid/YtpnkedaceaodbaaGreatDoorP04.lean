import Derived.LoopN
import Derived.Orders
import Derived.Tactics
import Derived.Test.YtpnkedaceaodbaaGreatDoorP03
/- Part of the proof. -/
set_option linter.all false
section
namespace Go.Pi
open Go.RowKit
theorem settleL_loc {f f2 : PV → Option (PV × List Nat)} {A : List Nat → Prop} (hA : ∀ i j, A (i ++ j) → A i ∧ A j)
  (hf : ∀ x y i, f x = some (y, i) → A i → f2 x = some (y, i)) : ∀ xs ys ids, settleL f xs = some (ys, ids) → A ids → settleL f2 xs = some (ys, ids) := by
 intro xs
 induction xs with
 |nil => intro ys ids h _; simpa [settleL] using h
 |cons x xs ih =>
  intro ys ids h hAi
  simp only [settleL] at h ⊢
  split at h
  ·rename_i hd; rw [if_pos hd]; exact h
  ·rename_i hd
   rw [if_neg hd]
   split at h
   ·rename_i y i1 zs i2 h1 h2
    simp only [Option.some.injEq, Prod.mk.injEq] at h
    obtain ⟨rfl, rfl⟩ := h
    obtain ⟨a1, a2⟩ := hA _ _ hAi
    rw [hf x y i1 h1 a1, ih zs i2 h2 a2]
   ·cases h
theorem settle_loc {H H2 : Heap} : ∀ (n : Nat) (x y : PV) (ids : List Nat), settle n H x = some (y, ids) → (∀ b, b ∈ ids → H2 b = H b) → settle n H2 x = some (y, ids) := by
 intro n
 induction n with
 |zero => intro x y ids h _; simpa [settle] using h
 |succ n ih =>
  intro x y ids h hA
  have hL := fun xs ys ids => settleL_loc (f := settle n H) (f2 := settle n H2) (A := fun i => ∀ b, b ∈ i → H2 b = H b)
   (fun i j h => ⟨fun b hb => h b (List.mem_append_left _ hb), fun b hb => h b (List.mem_append_right _ hb)⟩) ih xs ys ids
  simp only [settle] at h ⊢
  split at h
  ·rename_i hd; rw [if_pos hd]; exact h
  ·rename_i hd
   rw [if_neg hd]
   split at h
   ·rename_i b g len
    cases hb : H b with
    |none => simp [hb] at h
    |some c =>
     simp only [hb] at h
     split at h
     ·rename_i hc
      simp only [Option.map_eq_some_iff, Prod.mk.injEq] at h
      obtain ⟨⟨ys, i⟩, h1, rfl, rfl⟩ := h
      have e : H2 b = some c := (hA b (by simp)).trans hb
      simp only [e, if_pos hc, hL _ _ _ h1 (fun b' hb' => hA b' (by simp [hb']))]; rfl
     ·cases h
   ·rename_i b g off
    cases hb : H b with
    |none => simp [hb] at h
    |some c =>
     simp only [hb] at h
     split at h
     ·rename_i hc
      simp only [Option.map_eq_some_iff, Prod.mk.injEq] at h
      obtain ⟨⟨ys, i⟩, h1, rfl, rfl⟩ := h
      have e : H2 b = some c := (hA b (by simp)).trans hb
      simp only [e, if_pos hc, hL _ _ _ h1 (fun b' hb' => hA b' (by simp [hb']))]; rfl
     ·cases h
   ·simp only [Option.map_eq_some_iff, Prod.mk.injEq] at h
    obtain ⟨⟨ys, i⟩, h1, rfl, rfl⟩ := h
    simp only [hL _ _ _ h1 hA]; rfl
   ·simp only [Option.map_eq_some_iff, Prod.mk.injEq] at h
    obtain ⟨⟨ys, i⟩, h1, rfl, rfl⟩ := h
    simp only [hL _ _ _ h1 hA]; rfl
   ·simp only [Option.map_eq_some_iff, Prod.mk.injEq] at h
    obtain ⟨⟨ys, i⟩, h1, rfl, rfl⟩ := h
    simp only [ih _ _ _ h1 hA]; rfl
   ·cases h
theorem settle_nrow {H : Heap} {n : Nat} {x y : PV} {ids : List Nat} (h : settle n H x = some (y, ids)) : ∀ b g l, y ≠ .row b g l := by
 rintro b g l rfl
 cases n with
 |zero =>
  simp only [settle] at h
  split at h
  ·rename_i hd; cases h; simp [deepB] at hd
  ·cases h
 |succ n =>
  simp only [settle] at h
  split at h
  ·rename_i hd; cases h; simp [deepB] at hd
  ·split at h
   ·split at h
    ·split at h
     ·simp at h
     ·cases h
    ·cases h
   ·split at h
    ·split at h
     ·simp at h
     ·cases h
    ·cases h
   ·simp at h
   ·simp at h
   ·simp at h
   ·cases h
theorem elems_loc {H H2 : Heap} {s : Nat} {y : PV} (hy : ∀ b g l, y = .row b g l → H2 b = H b) : elemsOf H2 s y = elemsOf H s y := by
 cases y with
 |row b g l => simp only [elemsOf, hy b g l rfl]
 |_ => rfl
theorem cells_loc {H H2 : Heap} {n : Nat} {y : PV} (hy : ∀ b g o, y = .ptr b g o → H2 b = H b) : cellsAt H2 n y = cellsAt H n y := by
 cases y with
 |ptr b g o => simp only [cellsAt, hy b g o rfl]
 |_ => rfl
theorem app_loc {H H2 : Heap} {id st e s b : Nat} {d y : PV} (hy : ∀ b g l, y ≠ .row b g l) (hd : ∀ c g l, d = .row c g l → H2 c = H c) : appRun H2 id st e s b d y = appRun H id st e s b d y := by
 unfold appRun
 rw [elems_loc (H := H) (H2 := H2) (fun b g l h => absurd h (hy b g l))]
 cases d with
 |row c g l => simp only [hd c g l rfl]
 |_ => rfl
theorem drop_at {H H2 : Heap} {ids : List Nat} {b : Nat} (h : H2 b = H b) : (H2.drop ids) b = (H.drop ids) b := by simp only [Heap.drop, h]
theorem op_loc {ev : Opd → PV} {H H2 : Heap} {id st : Nat} {k : K} (hk : kCall k = false) (hR : ∀ b, b ∈ (feet ev H id k).1 → H2 b = H b) (hW : ∀ b, b ∈ (feet ev H id k).2 → H2 b = H b) : opRun ev H2 id st k = opRun ev H id st k := by
 cases k with
 |ld ag n x =>
  simp only [opRun]
  rw [cells_loc]
  intro b g o h
  exact hR b (by simp [feet, h])
 |cstr x =>
  simp only [opRun]
  have : elemsOf H2 1 (ev x) = elemsOf H 1 (ev x) := elems_loc fun b g l h => hR b (by simp [feet, h])
  cases hx : ev x <;> first | rfl | (rw [hx] at this; simp only [this])
 |st n x v =>
  simp only [opRun, stRun]
  cases hx : ev x with
  |ptr b g o =>
   have := hW b (by simp [feet, hx])
   cases hv : cellsOf (ev v) with
   |none => rfl
   |some vs => simp only [this]
  |_ => rfl
 |app => cases hk
 |call => rfl
 |callv => rfl
 |_ => rfl
def mix (W : List Nat) (H1 H2 : Heap) : Heap := fun b => if b ∈ W then H1 b else H2 b
theorem upd_mix {H H2 : Heap} {up : Upd} {W : List Nat} (hW : ∀ b, b ∈ W → H2 b = H b) (hu : ∀ b c, up = some (b, c) → b ∈ W) : H2.upd up = mix W (H.upd up) H2 := by
 funext x
 cases up with
 |none =>
  simp only [Heap.upd, mix]
  split
  ·rename_i h; exact hW x h
  ·rfl
 |some p =>
  obtain ⟨b, c⟩ := p
  have := hu b c rfl
  simp only [Heap.upd, mix]
  by_cases e : x = b
  ·subst e; rw [if_pos this, Heap.put_same, Heap.put_same]
  ·rw [Heap.put_ne _ _ e, Heap.put_ne _ _ e]
   split
   ·rename_i h; exact hW x h
   ·rfl
theorem upd_drop_mix {H H2 : Heap} {up : Upd} {W ids : List Nat} (hW : ∀ b, b ∈ W → H2 b = H b) (hi : ∀ b, b ∈ ids → b ∈ W) (hu : ∀ b c, up = some (b, c) → b ∈ W) : (H2.drop ids).upd up = mix W ((H.drop ids).upd up) H2 := by
 rw [upd_mix (H := H.drop ids) (W := W) (fun b hb => drop_at (hW b hb)) hu]
 funext x
 simp only [mix]
 split
 ·rfl
 ·rename_i h
  simp only [Heap.drop]
  rw [if_neg (fun h' => h (hi x h'))]
theorem call_loc0 {callF : CallF} {H H2 : Heap} {f : Nat} {args : List PV} {r : PV} {H1 : Heap} (hW : ∀ b, b ∈ callFeet H args → H2 b = H b) (h : runCall0 callF H f args = some (r, H1)) :
  runCall0 callF H2 f args = some (r, mix (callFeet H args) H1 H2) ∧ callFeet H2 args = callFeet H args := by
 have hL := fun xs ys ids => settleL_loc (f := settle depth H) (f2 := settle depth H2) (A := fun i => ∀ b, b ∈ i → H2 b = H b)
   (fun i j h => ⟨fun b hb => h b (List.mem_append_left _ hb), fun b hb => h b (List.mem_append_right _ hb)⟩) (settle_loc depth) xs ys ids
 unfold runCall0 at h
 split at h
 ·rename_i b g rest
  split at h
  ·rename_i c ys ids hb hset
   have hWe : callFeet H (.ptr b g 0 :: rest) = b :: ids := by simp only [callFeet, hset, Option.map_some, Option.getD_some]
   rw [hWe] at hW ⊢
   have hb2 : H2 b = some c := (hW b (by simp)).trans hb
   have hs2 := hL _ _ _ hset (fun x hx => hW x (by simp [hx]))
   refine ⟨?_, by simp only [callFeet, hs2, Option.map_some, Option.getD_some]⟩
   simp only [runCall0, hb2, hs2]
   split at h
   ·rename_i hc
    rw [if_pos hc]
    simp only [Option.bind_eq_some_iff] at h
    obtain ⟨⟨r', cells⟩, hcall, h⟩ := h
    split at h
    ·rename_i hcl
     simp only [Option.some.injEq, Prod.mk.injEq] at h
     obtain ⟨rfl, rfl⟩ := h
     simp only [hcall, Option.bind_some, if_pos hcl, Option.some.injEq, Prod.mk.injEq, true_and]
     exact upd_drop_mix (up := some (b, ⟨c.e, c.gen, cells, c.s⟩)) hW (fun x hx => by simp [hx]) (fun b' c' h => by cases h; simp)
    ·cases h
   ·cases h
  ·cases h
 ·rename_i hne
  have e1 : ∀ H, callFeet H args = ((settleL (settle depth H) args).map (·.2)).getD [] := by
   intro H
   unfold callFeet
   split
   ·rename_i b g rest; exact absurd rfl (hne b g rest)
   ·rfl
  have e2 : ∀ H, runCall0 callF H f args = match settleL (settle depth H) args with
   |some (ys, ids) => (callF f ys none).map fun r => (r.1, H.drop ids)
   |none => none := by
   intro H
   unfold runCall0
   split
   ·rename_i b g rest; exact absurd rfl (hne b g rest)
   ·rfl
  rw [e1] at hW
  rw [e1, e1, e2]
  split at h
  ·rename_i ys ids hset
   rw [hset] at hW ⊢
   simp only [Option.map_some, Option.getD_some] at hW ⊢
   have hs2 := hL _ _ _ hset (fun x hx => hW x hx)
   simp only [Option.map_eq_some_iff, Prod.mk.injEq] at h
   obtain ⟨⟨r', cells⟩, hcall, rfl, rfl⟩ := h
   simp only [hs2, hcall, Option.map_some, Option.some.injEq, Prod.mk.injEq, true_and, Option.getD_some, and_true]
   exact upd_drop_mix (up := none) hW (fun x hx => hx) (fun b' c' h => by cases h)
  ·cases h
theorem ro_loc {callF : CallF} {H H2 : Heap} {f : Nat} {args : List PV} {r : PV} {H1 : Heap} (hro : roF f = true) (hW : ∀ b, b ∈ callFeet H args → H2 b = H b) (h : runCall callF H f args = some (r, H1)) :
  runCall callF H2 f args = some (r, H2) ∧ callFeet H2 args = callFeet H args := by
 unfold runCall at h ⊢
 rw [if_pos hro] at h ⊢
 obtain ⟨rfl, h0⟩ := roCall_of h
 obtain ⟨h1, h2⟩ := call_loc0 hW h0
 refine ⟨?_, h2⟩
 have hm : mix (callFeet H1 args) H1 H2 = H2 := by
  funext b
  simp only [mix]
  split
  ·rename_i hb; exact (hW b hb).symm
  ·rfl
 rw [hm] at h1
 unfold roCall at h ⊢
 split at h
 ·rename_i b g rest
  split at h
  ·rename_i r1 H1' c ys e1 e2 e3
   have hb2 : H2 b = some c := (hW b (by simp [callFeet])).trans e2
   have hs2 := settleL_loc (f := settle depth H1) (f2 := settle depth H2) (A := fun i => ∀ b, b ∈ i → H2 b = H1 b) (fun i j h => ⟨fun b hb => h b (List.mem_append_left _ hb), fun b hb => h b (List.mem_append_right _ hb)⟩) (settle_loc depth) _ _ _ e3 (fun x hx => by cases hx)
   split at h
   ·rename_i c1 e4
    split at h
    ·rename_i he
     simp only [h1, hb2, hs2]
     have : eqPVs c.cells c.cells = true := by
      rw [e1] at h0
      simp only [Option.some.injEq, Prod.mk.injEq] at h0
      obtain ⟨_, rfl⟩ := h0
      rw [e2] at e4
      simp only [Option.some.injEq] at e4
      rw [e4] at he ⊢
      rw [← e4] at he
      rw [← e4]
      exact he
     rw [if_pos this]
     first
      |done
      |(simp only [Option.some.injEq, Prod.mk.injEq] at h; rw [h.1])
    ·cases h
   ·cases h
  ·cases h
 ·cases h
theorem call_loc {callF : CallF} {H H2 : Heap} {f : Nat} {args : List PV} {r : PV} {H1 : Heap} (hro : ¬ roF f = true) (hW : ∀ b, b ∈ callFeet H args → H2 b = H b) (h : runCall callF H f args = some (r, H1)) :
  runCall callF H2 f args = some (r, mix (callFeet H args) H1 H2) ∧ callFeet H2 args = callFeet H args := by
 unfold runCall at h ⊢
 rw [if_neg hro] at h ⊢
 exact call_loc0 hW h
theorem go_loc {callF : CallF} {ev : Opd → PV} {H H2 : Heap} {id st : Nat} {k : K} {r : PV} {H1 : Heap} (hv : kV k = false) (hR : ∀ b, b ∈ (feet ev H id k).1 → H2 b = H b) (hW : ∀ b, b ∈ (feet ev H id k).2 → H2 b = H b)
  (h : runGo callF ev H id st k = some (r, H1)) : runGo callF ev H2 id st k = some (r, mix (feet ev H id k).2 H1 H2) := by
 by_cases hk : kCall k = true
 ·cases k with
  |app e s b d x =>
   simp only [runGo, runK] at h ⊢
   cases hset : settle depth H (ev x) with
   |none => simp [hset] at h
   |some yi =>
    obtain ⟨y, ids⟩ := yi
    have hf : (feet ev H id (.app e s b d x)).2 = (match ev d with | .row b _ _ => [b] | _ => [id]) ++ ids := by cases hh : ev d <;> simp [feet, hset, hh]
    rw [hf] at hW ⊢
    have hs2 := settle_loc (H2 := H2) depth _ _ _ hset (fun b hb => hW b (List.mem_append_right _ hb))
    simp only [hset, Option.map_eq_some_iff, Prod.mk.injEq] at h
    obtain ⟨⟨v, up⟩, happ, rfl, rfl⟩ := h
    have ha2 : appRun (H2.drop ids) id st e s b (ev d) y = some (v, up) := by
     rw [← happ]
     exact app_loc (settle_nrow hset) fun c g l hd => drop_at (hW c (by simp [hd]))
    simp only [hs2, ha2, Option.map_some, Option.some.injEq, Prod.mk.injEq, true_and]
    exact upd_drop_mix hW (fun b hb => List.mem_append_right _ hb) (fun b' c' h => by
     subst h
     exact List.mem_append_left _ (appRun_upd happ).2)
  |call f as =>
   by_cases hro : roF f = true
   ·have hf : feet ev H id (.call f as) = (callFeet H (as.map ev), []) := by simp only [feet, if_pos hro]
    rw [hf] at hR ⊢
    have e1 : mix [] H1 H2 = H2 := by funext b; simp [mix]
    rw [e1]
    exact (ro_loc hro hR h).1
   ·have hf : feet ev H id (.call f as) = ([], callFeet H (as.map ev)) := by simp only [feet, if_neg hro]
    rw [hf] at hW ⊢
    exact (call_loc hro hW h).1
  |callv => cases hv
  |_ => cases hk
 ·have hk' : kCall k = false := by simpa using hk
  have h' : (opRun ev H id st k).map (fun r => (r.1, H.upd r.2)) = some (r, H1) := by cases k <;> first | exact h | cases hk'
  have g' : ∀ H, runGo callF ev H id st k = (opRun ev H id st k).map (fun r => (r.1, H.upd r.2)) := by intro H; cases k <;> first | rfl | cases hk'
  rw [g', op_loc hk' hR hW]
  simp only [Option.map_eq_some_iff, Prod.mk.injEq] at h' ⊢
  obtain ⟨⟨v, up⟩, hop, rfl, rfl⟩ := h'
  exact ⟨(v, up), hop, rfl, upd_mix hW (fun b c hu => by subst hu; exact (opRun_upd hk' hop).1)⟩
theorem feet_loc {ev : Opd → PV} {H H2 : Heap} {id st : Nat} {k : K} {callF : CallF} {r : PV} {H1 : Heap} (hv : kV k = false) (hR : ∀ b, b ∈ (feet ev H id k).1 → H2 b = H b) (hW : ∀ b, b ∈ (feet ev H id k).2 → H2 b = H b)
  (h : runGo callF ev H id st k = some (r, H1)) : feet ev H2 id k = feet ev H id k := by
 have hL := fun xs ys ids => settleL_loc (f := settle depth H) (f2 := settle depth H2) (A := fun i => ∀ b, b ∈ i → H2 b = H b)
   (fun i j h => ⟨fun b hb => h b (List.mem_append_left _ hb), fun b hb => h b (List.mem_append_right _ hb)⟩) (settle_loc depth) xs ys ids
 cases k with
 |app e s b d x =>
  simp only [runGo, runK] at h
  cases hset : settle depth H (ev x) with
  |none => simp [hset] at h
  |some yi =>
   obtain ⟨y, ids⟩ := yi
   have hf : (feet ev H id (.app e s b d x)).2 = (match ev d with | .row b _ _ => [b] | _ => [id]) ++ ids := by cases hh : ev d <;> simp [feet, hset, hh]
   rw [hf] at hW
   have hs2 := settle_loc (H2 := H2) depth _ _ _ hset (fun b hb => hW b (List.mem_append_right _ hb))
   simp only [feet, hset, hs2]
 |call f as =>
  by_cases hro : roF f = true
  ·have hf : feet ev H id (.call f as) = (callFeet H (as.map ev), []) := by simp only [feet, if_pos hro]
   rw [hf] at hR
   simp only [feet, if_pos hro, (ro_loc (H2 := H2) hro hR h).2]
  ·have hf : feet ev H id (.call f as) = ([], callFeet H (as.map ev)) := by simp only [feet, if_neg hro]
   rw [hf] at hW
   simp only [feet, if_neg hro, (call_loc (H2 := H2) hro hW h).2]
 |callv => cases hv
 |_ => rfl
theorem kOpds_loc {callF : CallF} {ev ev2 : Opd → PV} {H : Heap} {id st : Nat} {k : K} (h : ∀ y, y ∈ kOpds k → ev2 y = ev y) : runGo callF ev2 H id st k = runGo callF ev H id st k ∧ feet ev2 H id k = feet ev H id k := by
 have hps : ∀ ps : List (Nat × Nat × Opd), (∀ y, y ∈ ps.map (·.2.2) → ev2 y = ev y) → ps.map (fun p => (p.1, p.2.1, ev2 p.2.2)) = ps.map (fun p => (p.1, p.2.1, ev p.2.2)) := fun ps h =>
  List.map_congr_left fun p hp => by rw [h p.2.2 (List.mem_map.2 ⟨p, hp, rfl⟩)]
 have hmap : ∀ as : List Opd, (∀ y, y ∈ as → ev2 y = ev y) → as.map ev2 = as.map ev := fun as h => List.map_congr_left fun y hy => h y hy
 have hbd : ∀ d (o : Option Opd), (∀ y, y ∈ o.toList → ev2 y = ev y) → boundP d ev2 o = boundP d ev o := by
  intro d o h
  cases o with
  |none => rfl
  |some x => simp only [boundP, h x (by simp)]
 cases k with
 |build z ps => simp only [kOpds] at h; simp only [runGo, runK, opRun, feet, hps ps h, and_self]
 |bsl e s l z ps => simp only [kOpds] at h; simp only [runGo, runK, opRun, feet, hps ps h, and_self]
 |mkfn f as bs => simp only [kOpds] at h; simp only [runGo, runK, opRun, feet, hmap as (fun y hy => h y (by simp [hy])), hmap bs (fun y hy => h y (by simp [hy])), and_self]
 |call f as => simp only [kOpds] at h; simp only [runGo, feet, hmap as h, and_self]
 |callv f as => simp only [kOpds] at h; simp only [runGo, feet, hmap as (fun y hy => h y (by simp [hy])), h f (by simp), and_self]
 |sstr x lo hi => simp only [kOpds] at h; simp only [runGo, runK, opRun, feet, h x (by simp), hbd _ lo (fun y hy => h y (by simp only [List.mem_cons, List.mem_append]; exact .inr (.inl hy))), hbd _ hi (fun y hy => h y (by simp only [List.mem_cons, List.mem_append]; exact .inr (.inr hy))), and_self]
 |ssl s x lo hi => simp only [kOpds] at h; simp only [runGo, runK, opRun, feet, h x (by simp), hbd _ lo (fun y hy => h y (by simp only [List.mem_cons, List.mem_append]; exact .inr (.inl hy))), hbd _ hi (fun y hy => h y (by simp only [List.mem_cons, List.mem_append]; exact .inr (.inr hy))), and_self]
 |new e z => exact ⟨rfl, rfl⟩
 |_ => simp only [kOpds, List.mem_cons, List.not_mem_nil, or_false, forall_eq_or_imp, forall_eq] at h; simp only [runGo, runK, opRun, feet, h, and_self]
end Go.Pi
end
section
namespace Go.Pi
open Go.RowKit
structure RelE (P : Program) (w₀ : World) (N : Nat) (E0 : Env) (wi : World) (U : Nat → Nat → Prop) (s : St) (a : Act) (w : World) (E : Env) : Prop where
 inv : Inv P w₀ E w
 heap : E.H = s.H
 slots : ∀ x, Rep E (s.t x) (a.tmps.getD x undef)
 size : a.tmps.size = N
 defers : a.defers = []
 used : ∀ b g, E.K b g → U b g
 ext : Ext E0 wi E w
def Rel (P : Program) (w₀ : World) (N : Nat) (E0 : Env) (wi : World) (U : Nat → Nat → Prop) (s : St) (a : Act) (w : World) : Prop := ∃ E, RelE P w₀ N E0 wi U s a w E
theorem kNew_feet {ev : Opd → PV} {H : Heap} {id : Nat} {k : K} (h : kNew k = true) : id ∈ (feet ev H id k).2 := by
 cases k <;> first | (cases h; done) | simp [feet]
theorem getD_put {a : Act} {d : Option Nat} {z : Value} {t : Nat → PV} {v : PV} {E : Env} {N : Nat} (hN : a.tmps.size = N) (hd : ∀ x, d = some x → x < N) (hs : ∀ x, Rep E (t x) (a.tmps.getD x undef)) (hz : Rep E v z) :
  (∀ x, Rep E (put t d v x) ((a.put d z).tmps.getD x undef)) ∧ (a.put d z).tmps.size = N ∧ (a.put d z).defers = a.defers := by
 cases d with
 |none => exact ⟨hs, hN, rfl⟩
 |some d =>
  have hlt := hd d rfl
  refine ⟨fun x => ?_, by simpa [Act.put] using hN, rfl⟩
  simp only [put, Act.put]
  by_cases e : x = d
  ·subst e
   rw [if_pos rfl]
   have : (a.tmps.setIfInBounds x z).getD x undef = z := by
    simp [Array.getD, hN, hlt]
   rw [this]; exact hz
  ·rw [if_neg e]
   have : (a.tmps.setIfInBounds d z).getD x undef = a.tmps.getD x undef := by
    simp [Array.getD_eq_getD_getElem?, Array.getElem?_setIfInBounds_ne (Ne.symm e)]
   rw [this]; exact hs x
section
variable {P : Program} {w₀ : World} {N : Nat} {E0 : Env} {wi : World}
theorem compileXO_inv {ops : Array Oper} {rid i : Nat} {o : Oper} {x : XO} (h : compileXO P N ops rid i o = some x) :
  compileOp P o = some x.k ∧ x.dst = o.dst ∧ (∀ d, o.dst = some d → d < N) ∧ x.id = 1 + rid * 1000 + i ∧
   ((o.guard = none ∧ x.gd = none) ∨ ∃ j want d, o.guard = some (j, want) ∧ (ops[j]?).bind (·.dst) = some d ∧ x.gd = some (d, want)) := by
 have hfin : ∀ k gd', (match o.dst with | some d => if d < N then some (⟨o.dst, gd', 1 + rid * 1000 + i, k⟩ : XO) else none | none => some ⟨o.dst, gd', 1 + rid * 1000 + i, k⟩) = some x →
   x = ⟨o.dst, gd', 1 + rid * 1000 + i, k⟩ ∧ ∀ d, o.dst = some d → d < N := by
  intro k gd' h
  cases hd : o.dst with
  |none => rw [hd] at h; simp only [Option.some.injEq] at h; exact ⟨h.symm, fun d h => by cases h⟩
  |some d =>
   rw [hd] at h
   simp only at h
   split at h
   ·rename_i hlt; simp only [Option.some.injEq] at h; exact ⟨h.symm, fun d' h => by cases h; exact hlt⟩
   ·cases h
 simp only [compileXO, bind, Option.bind_eq_some_iff] at h
 obtain ⟨k, hk, h⟩ := h
 cases hg : o.guard with
 |none =>
  rw [hg] at h
  simp only [Option.bind_some] at h
  obtain ⟨rfl, h2⟩ := hfin _ _ h
  exact ⟨hk, rfl, h2, rfl, .inl ⟨rfl, rfl⟩⟩
 |some p =>
  obtain ⟨j, want⟩ := p
  rw [hg] at h
  simp only at h
  cases hd : (ops[j]?).bind (·.dst) with
  |none => rw [hd] at h; simp at h
  |some d =>
   rw [hd] at h
   simp only [Option.bind_some] at h
   obtain ⟨rfl, h2⟩ := hfin _ _ h
   exact ⟨hk, rfl, h2, rfl, .inr ⟨j, want, d, rfl, hd, rfl⟩⟩
theorem op_sim {callF : CallF} (hS : SimCall P w₀ callF) {G : Nat → PV} (hG : Gok w₀ G) {ops : Array Oper} {rid i : Nat} {o : Oper} {x : XO} (hx : compileXO P N ops rid i o = some x) (ho : ops[i]? = some o)
  {U : Nat → Nat → Prop} {s s' : St} {a : Act} {w : World} (hrel : Rel P w₀ N E0 wi U s a w) (hU : ∀ b, b ∈ (feetX G x s).2 → ∀ g, s.n + i ≤ g → ¬ U b g) (hrun : runOp callF G i x s = some s')
  {Q : Exit → Act → World → Prop} {K : Act → World → Prop} (hK : ∀ a' w', Rel P w₀ N E0 wi (fun b g => U b g ∨ (g = s.n + i ∧ b ∈ (feetX G x s).2)) s' a' w' → K a' w') : wpOp P ops Q i K a w := by
 obtain ⟨hk, hdst, hdN, hid, hgd⟩ := compileXO_inv hx
 obtain ⟨E, hr⟩ := hrel
 have hHs := hr.heap
 have hgo : ∀ r, (runGo callF (ev G s.t) s.H x.id (s.n + i) x.k).map (fun r => (⟨put s.t x.dst r.1, r.2, s.n⟩ : St)) = some r → r = s' → feetX G x s = feet (ev G s.t) s.H x.id x.k → o.wp P a w K Q := by
  intro r h hrs hfe
  rw [hfe] at hU hK
  subst hrs
  simp only [Option.map_eq_some_iff] at h
  obtain ⟨⟨v, H'⟩, h1, h2⟩ := h
  subst h2
  rw [← hHs] at h1 hU hK
  refine go_sim hS hG hk hr.inv hr.slots (fun b hb g hg hkk => hU b hb g hg (hr.used b g hkk)) (fun hn g hg hkk => hU _ (kNew_feet hn) g hg (hr.used _ g hkk)) h1 ?_
  intro z E' w' hst
  obtain ⟨h3, h4, h5⟩ := getD_put (E := E') (v := v) (z := z) (d := o.dst) hr.size hdN (fun y => (hr.slots y).mono hst.ext.le) hst.rep
  refine hK _ _ ⟨E', hst.inv, hst.heap, ?_, h4, h5.trans hr.defers, fun b g h => ?_, hr.ext.trans hst.ext⟩
  ·intro y; rw [hdst]; exact h3 y
  ·rcases hst.used b g h with h | h
   ·exact .inl (hr.used b g h)
   ·exact .inr h
 have hskip : s' = ⟨put s.t x.dst (.tup []), s.H, s.n⟩ → K (a.put o.dst undef) w := by
  rintro rfl
  obtain ⟨h3, h4, h5⟩ := getD_put (E := E) (v := .tup []) (z := undef) (d := o.dst) hr.size hdN hr.slots (.tup [] [] rfl fun i hi => absurd hi (by simp))
  refine hK _ _ ⟨E, hr.inv, hr.heap, ?_, h4, h5.trans hr.defers, fun b g h => .inl (hr.used b g h), hr.ext⟩
  intro y; rw [hdst]; exact h3 y
 unfold wpOp
 simp only [ho]
 rcases hgd with ⟨hg, hxg⟩ | ⟨j, want, d, hg, hjd, hxg⟩
 ·have hw : Region.wanted o (yielded ops a.tmps) = true := by simp [Region.wanted, hg]
  rw [if_pos hw]
  unfold runOp at hrun
  rw [hxg] at hrun
  exact .inl (hgo _ hrun rfl (by simp only [feetX, hxg]))
 ·have hy : yielded ops a.tmps j = match a.tmps[d]? with | some (.bool b) => some b | _ => none := by
   simp only [yielded, hjd, Option.bind_some]
   rfl
  have hw : Region.wanted o (yielded ops a.tmps) = ((match a.tmps[d]? with | some (.bool b) => some b | _ => none) == some want) := by simp only [Region.wanted, hg, hy]
  have hsd := hr.slots d
  have hge : a.tmps.getD d undef = (a.tmps[d]?).getD undef := by simp [Array.getD_eq_getD_getElem?]
  rw [hge] at hsd
  unfold runOp at hrun
  rw [hxg] at hrun
  simp only at hrun
  split at hrun
  ·rename_i b hb
   rw [hb] at hsd
   have htm : a.tmps[d]? = some (.bool b) := by
    generalize hz : (a.tmps[d]?).getD undef = z at hsd
    cases hsd
    cases hq : a.tmps[d]? with
    |none => rw [hq] at hz; simp [undef] at hz
    |some q => rw [hq] at hz; simp at hz; rw [hz]
   rw [htm] at hw
   split at hrun
   ·rename_i hbw
    rw [if_pos (by rw [hw, hbw]; simp)]
    exact .inl (hgo _ hrun rfl (by simp only [feetX, hxg, hb, if_pos hbw]))
   ·rename_i hbw
    rw [if_neg (by rw [hw]; simp [hbw])]
    simp only [Option.some.injEq] at hrun
    exact hskip hrun.symm
  ·rename_i l hb
   rw [hb] at hsd
   have htm : (match a.tmps[d]? with | some (.bool b) => some b | _ => none) = (none : Option Bool) := by
    generalize hz : (a.tmps[d]?).getD undef = z at hsd
    cases hsd
    cases hq : a.tmps[d]? with
    |none => rfl
    |some q => rw [hq] at hz; simp at hz; subst hz; rfl
   rw [htm] at hw
   rw [if_neg (by rw [hw]; simp)]
   simp only [Option.some.injEq] at hrun
   exact hskip hrun.symm
  ·cases hrun
def UB (n i : Nat) : Nat → Nat → Prop := fun _ g => g < n + i
theorem compileXOs_inv {ops : Array Oper} {rid : Nat} : ∀ (l : List Oper) (i : Nat) (xs : List XO), compileXOs P N ops rid i l = some xs → xs.length = l.length ∧ ∀ j o, l[j]? = some o → ∃ x, xs[j]? = some x ∧ compileXO P N ops rid (i + j) o = some x := by
 intro l
 induction l with
 |nil => intro i xs h; simp only [compileXOs, Option.some.injEq] at h; subst h; exact ⟨rfl, fun j o h => by simp at h⟩
 |cons o l ih =>
  intro i xs h
  simp only [compileXOs, bind, Option.bind_eq_some_iff, Option.some.injEq] at h
  obtain ⟨x, hx, ys, hys, rfl⟩ := h
  obtain ⟨h1, h2⟩ := ih (i + 1) ys hys
  refine ⟨by simp [h1], fun j o' hj => ?_⟩
  cases j with
  |zero => simp only [List.getElem?_cons_zero, Option.some.injEq] at hj; subst hj; exact ⟨x, rfl, hx⟩
  |succ j =>
   simp only [List.getElem?_cons_succ] at hj
   obtain ⟨y, hy, hc⟩ := h2 j o' hj
   exact ⟨y, hy, by rw [show i + (j + 1) = i + 1 + j by omega]; exact hc⟩
theorem runOp_n {callF : CallF} {G : Nat → PV} {i : Nat} {x : XO} {s s' : St} (h : runOp callF G i x s = some s') : s'.n = s.n := by
 unfold runOp at h
 split at h
 ·simp only [Option.map_eq_some_iff] at h; obtain ⟨_, _, rfl⟩ := h; rfl
 ·split at h
  ·split at h
   ·simp only [Option.map_eq_some_iff] at h; obtain ⟨_, _, rfl⟩ := h; rfl
   ·cases h; rfl
  ·cases h; rfl
  ·cases h
theorem ops_sim {callF : CallF} (hS : SimCall P w₀ callF) {G : Nat → PV} (hG : Gok w₀ G) {ops : Array Oper} {rid : Nat} {Q : Exit → Act → World → Prop} : ∀ (m i : Nat) (xs : List XO), i + m = ops.size →
  compileXOs P N ops rid i (ops.toList.drop i) = some xs → ∀ {s s' : St} {a : Act} {w : World}, Rel P w₀ N E0 wi (UB s.n i) s a w → runOps callF G i xs s = some s' →
  (∀ a' w', s'.n = s.n → Rel P w₀ N E0 wi (UB s.n ops.size) s' a' w' → Q .normal a' w') → wpOps P ops Q (List.range' i m) a w := by
 intro m
 induction m with
 |zero =>
  intro i xs hi hc s s' a w hr hrun hQ
  rw [List.drop_eq_nil_of_le (by simp; omega)] at hc
  simp only [compileXOs, Option.some.injEq] at hc
  subst hc
  simp only [runOps, Option.some.injEq] at hrun
  subst hrun
  simp only [List.range'_zero, wpOps]
  refine hQ _ _ rfl ?_
  have : i = ops.size := by omega
  subst this
  exact hr
 |succ m ih =>
  intro i xs hi hc s s' a w hr hrun hQ
  have hlt : i < ops.toList.length := by simp; omega
  rw [List.drop_eq_getElem_cons hlt] at hc
  simp only [compileXOs, bind, Option.bind_eq_some_iff, Option.some.injEq] at hc
  obtain ⟨x, hx, ys, hys, rfl⟩ := hc
  simp only [runOps, Option.bind_eq_some_iff] at hrun
  obtain ⟨s1, h1, h2⟩ := hrun
  have hn := runOp_n h1
  have ho : ops[i]? = some ops.toList[i] := by simp [Array.getElem?_eq_getElem (show i < ops.size by simpa using hlt)]
  rw [List.range'_succ, wpOps_cons]
  refine op_sim hS hG hx ho hr (fun b _ g hg hu => by have : g < s.n + i := hu; omega) h1 ?_
  intro a' w' hr'
  refine ih (i + 1) ys (by omega) hys (s := s1) (s' := s') ?_ h2 ?_
  ·obtain ⟨E, hr'⟩ := hr'
   refine ⟨E, hr'.inv, hr'.heap, hr'.slots, hr'.size, hr'.defers, fun b g h => ?_, hr'.ext⟩
   have := hr'.used b g h
   show g < s1.n + (i + 1)
   rcases this with h | ⟨h, _⟩
   ·have : g < s.n + i := h; omega
   ·omega
  ·intro a'' w'' hn' hr''
   exact hQ a'' w'' (hn'.trans hn) (by rw [← hn]; exact hr'')
end
end Go.Pi
end
section
namespace Go.Pi
open Go.RowKit
theorem ev_looks {G : Nat → PV} {t t2 : Nat → PV} {x : XO} (ht : ∀ y, y ∈ looks x → t2 y = t y) : ∀ y, y ∈ kOpds x.k → ev G t2 y = ev G t y := by
 intro y hy
 cases y with
 |t n => exact ht n (List.mem_append_left _ (List.mem_filterMap.2 ⟨_, hy, rfl⟩))
 |_ => rfl
theorem runOp_loc {callF : CallF} {G : Nat → PV} {i : Nat} {x : XO} {s s' : St} (hv : kV x.k = false) (h : runOp callF G i x s = some s') {t2 : Nat → PV} {H2 : Heap} (ht : ∀ y, y ∈ looks x → t2 y = s.t y)
  (hR : ∀ b, b ∈ (feetX G x s).1 → H2 b = s.H b) (hW : ∀ b, b ∈ (feetX G x s).2 → H2 b = s.H b) :
  runOp callF G i x ⟨t2, H2, s.n⟩ = some ⟨fun y => if x.dst = some y then s'.t y else t2 y, mix (feetX G x s).2 s'.H H2, s.n⟩ ∧ feetX G x ⟨t2, H2, s.n⟩ = feetX G x s := by
 have hev := ev_looks (G := G) ht
 have hput : ∀ v, put t2 x.dst v = fun y => if x.dst = some y then put s.t x.dst v y else t2 y := by
  intro v
  funext y
  cases hd : x.dst with
  |none => simp [put]
  |some d =>
   simp only [put, Option.some.injEq]
   by_cases e : y = d
   ·subst e; simp
   ·rw [if_neg e, if_neg (fun h => e h.symm)]
 have hgo : (runGo callF (ev G s.t) s.H x.id (s.n + i) x.k).map (fun r => (⟨put s.t x.dst r.1, r.2, s.n⟩ : St)) = some s' → feetX G x s = feet (ev G s.t) s.H x.id x.k →
   (runGo callF (ev G t2) H2 x.id (s.n + i) x.k).map (fun r => (⟨put t2 x.dst r.1, r.2, s.n⟩ : St)) = some ⟨fun y => if x.dst = some y then s'.t y else t2 y, mix (feetX G x s).2 s'.H H2, s.n⟩ ∧ feet (ev G t2) H2 x.id x.k = feetX G x s := by
  intro h hf
  rw [hf] at hR hW ⊢
  simp only [Option.map_eq_some_iff] at h
  obtain ⟨⟨v, H1⟩, h1, rfl⟩ := h
  obtain ⟨e1, e2⟩ := kOpds_loc (callF := callF) (H := H2) (id := x.id) (st := s.n + i) hev
  rw [e1, e2, go_loc hv hR hW h1, feet_loc hv hR hW h1]
  refine ⟨?_, rfl⟩
  simp only [Option.map_some, hput]
 have hskip : s' = ⟨put s.t x.dst (.tup []), s.H, s.n⟩ → feetX G x s = ([], []) → some (⟨put t2 x.dst (.tup []), H2, s.n⟩ : St) = some ⟨fun y => if x.dst = some y then s'.t y else t2 y, mix (feetX G x s).2 s'.H H2, s.n⟩ := by
  intro h hf
  subst h
  rw [hf, hput]
  have : mix [] s.H H2 = H2 := by funext b; simp [mix]
  simp only [this]
 unfold runOp at h ⊢
 cases hg : x.gd with
 |none =>
  rw [hg] at h
  have hf : feetX G x s = feet (ev G s.t) s.H x.id x.k := by simp only [feetX, hg]
  obtain ⟨h1, h2⟩ := hgo h hf
  exact ⟨h1, by rw [← h2]; simp only [feetX, hg]⟩
 |some p =>
  obtain ⟨g, want⟩ := p
  rw [hg] at h
  simp only at h ⊢
  have hgt : t2 g = s.t g := ht g (by simp [looks, hg])
  rw [hgt]
  cases hb : s.t g with
  |bool b =>
   simp only [hb] at h ⊢
   by_cases hbw : b = want
   ·rw [if_pos hbw] at h ⊢
    have hf : feetX G x s = feet (ev G s.t) s.H x.id x.k := by simp only [feetX, hg, hb, if_pos hbw]
    obtain ⟨h1, h2⟩ := hgo h hf
    exact ⟨h1, by rw [← h2]; simp only [feetX, hg, hgt, hb, if_pos hbw]⟩
   ·rw [if_neg hbw] at h ⊢
    have hf : feetX G x s = ([], []) := by simp only [feetX, hg, hb, if_neg hbw]
    simp only [Option.some.injEq] at h
    exact ⟨hskip h.symm hf, by rw [hf]; simp only [feetX, hg, hgt, hb, if_neg hbw]⟩
  |tup l =>
   simp only [hb] at h ⊢
   have hf : feetX G x s = ([], []) := by simp only [feetX, hg, hb]
   simp only [Option.some.injEq] at h
   exact ⟨hskip h.symm hf, by rw [hf]; simp only [feetX, hg, hgt, hb]⟩
  |_ => simp [hb] at h
theorem runOp_frame {callF : CallF} {G : Nat → PV} {i : Nat} {x : XO} {s s' : St} (hv : kV x.k = false) (h : runOp callF G i x s = some s') :
  (∀ y, x.dst ≠ some y → s'.t y = s.t y) ∧ ∀ b, b ∉ (feetX G x s).2 → s'.H b = s.H b := by
 have h1 := (runOp_loc hv h (t2 := s.t) (H2 := s.H) (fun _ _ => rfl) (fun _ _ => rfl) (fun _ _ => rfl)).1
 rw [show (⟨s.t, s.H, s.n⟩ : St) = s from rfl, h, Option.some.injEq] at h1
 constructor
 ·intro y hy
  have := congrArg (fun z => St.t z y) h1
  simp only [if_neg hy] at this
  exact this
 ·intro b hb
  have := congrArg (fun z => St.H z b) h1
  simp only [mix, if_neg hb] at this
  exact this
def last (p : Nat → Bool) : Nat → Nat
 |0 => 0
 |n + 1 => if p n then n + 1 else last p n
theorem last_congr {p q : Nat → Bool} : ∀ {n : Nat}, (∀ i, i < n → p i = q i) → last p n = last q n := by
 intro n
 induction n with
 |zero => intro _; rfl
 |succ n ih => intro h; simp only [last, h n (by omega), ih fun i hi => h i (by omega)]
theorem last_ext {p : Nat → Bool} {j : Nat} : ∀ {m : Nat}, j ≤ m → (∀ i, j ≤ i → i < m → p i = false) → last p m = last p j := by
 intro m
 induction m with
 |zero => intro h _; have : j = 0 := by omega
          subst this; rfl
 |succ m ih =>
  intro h hp
  by_cases e : j = m + 1
  ·subst e; rfl
  ·simp only [last, hp m (by omega) (by omega)]
   exact ih (by omega) fun i h1 h2 => hp i h1 (by omega)
theorem last_seq {α : Type} {p : Nat → Bool} {f : Nat → α} : ∀ {n : Nat}, (∀ i, i < n → p i = false → f (i + 1) = f i) → f (last p n) = f n := by
 intro n
 induction n with
 |zero => intro _; rfl
 |succ n ih =>
  intro h
  simp only [last]
  split
  ·rfl
  ·rename_i hp
   rw [ih fun i hi => h i (by omega), h n (by omega) (by simpa using hp)]
theorem feet_seq {callF : CallF} {G : Nat → PV} : ∀ (xs : List XO) (i : Nat) (s sE : St) (ft : List (List Nat × List Nat)), runFeet callF G i xs s = some (sE, ft) →
  ∃ S : Nat → St, S 0 = s ∧ S xs.length = sE ∧ ft.length = xs.length ∧ ∀ j x, xs[j]? = some x → runOp callF G (i + j) x (S j) = some (S (j + 1)) ∧ ft[j]? = some (feetX G x (S j)) := by
 intro xs
 induction xs with
 |nil =>
  intro i s sE ft h
  simp only [runFeet, Option.some.injEq, Prod.mk.injEq] at h
  obtain ⟨rfl, rfl⟩ := h
  exact ⟨fun _ => s, rfl, rfl, rfl, fun j x h => by simp at h⟩
 |cons x xs ih =>
  intro i s sE ft h
  simp only [runFeet] at h
  split at h
  ·rename_i s' hs'
   simp only [Option.map_eq_some_iff, Prod.mk.injEq] at h
   obtain ⟨⟨sE', ft'⟩, h1, rfl, rfl⟩ := h
   obtain ⟨S, h0, hE, hl, hS⟩ := ih (i + 1) s' sE' ft' h1
   refine ⟨fun j => match j with | 0 => s | j + 1 => S j, rfl, hE, by simp [hl], fun j y hj => ?_⟩
   cases j with
   |zero =>
    simp only [List.getElem?_cons_zero, Option.some.injEq] at hj
    subst hj
    exact ⟨by simp only [h0]; exact hs', rfl⟩
   |succ j =>
    simp only [List.getElem?_cons_succ] at hj ⊢
    rw [show i + (j + 1) = i + 1 + j by omega]
    exact hS j y hj
  ·cases h
theorem S_n {callF : CallF} {G : Nat → PV} {xs : List XO} {S : Nat → St} (h : ∀ j x, xs[j]? = some x → runOp callF G j x (S j) = some (S (j + 1))) : ∀ j, j ≤ xs.length → (S j).n = (S 0).n := by
 intro j
 induction j with
 |zero => intro _; rfl
 |succ j ih =>
  intro hj
  rw [runOp_n (h j xs[j] (by simp)), ih (by omega)]
theorem apartL_mem {a b : List Nat} (h : apartL a b = true) : ∀ x, x ∈ a → x ∉ b := by
 intro x hx
 simp only [apartL, List.all_eq_true, Bool.not_eq_true', List.contains_eq_mem, decide_eq_false_iff_not] at h
 exact h x hx
theorem feetX_w {G : Nat → PV} {x : XO} {s : St} (h : kW x.k = false) : (feetX G x s).2 = [] := by
 have : ∀ ev H id, kW x.k = false → (feet ev H id x.k).2 = [] := by
  intro ev H id h
  cases hk : x.k <;> first
   |(rw [hk] at h; cases h; done)
   |(simp only [feet]; done)
   |(simp only [feet]; split <;> rfl)
 unfold feetX
 split
 ·exact this _ _ _ h
 ·split
  ·split
   ·exact this _ _ _ h
   ·rfl
  ·rfl
theorem feetX_r {G : Nat → PV} {x : XO} {s : St} (h : kR x.k = false) : (feetX G x s).1 = [] := by
 have : ∀ ev H id, kR x.k = false → (feet ev H id x.k).1 = [] := by
  intro ev H id h
  cases hk : x.k <;> first
   |(rw [hk] at h; simp only [kR] at h; simp only [feet, h, Bool.false_eq_true, if_false]; done)
   |(rw [hk] at h; cases h; done)
   |(simp only [feet]; done)
   |(simp only [feet]; split <;> rfl)
 unfold feetX
 split
 ·exact this _ _ _ h
 ·split
  ·split
   ·exact this _ _ _ h
   ·rfl
  ·rfl
theorem feetX_new {G : Nat → PV} {x : XO} {s : St} (h : kNew x.k = true) : ∀ b, b ∈ (feetX G x s).2 → b = x.id := by
 have : ∀ ev H id, kNew x.k = true → (feet ev H id x.k).2 = [id] := by
  intro ev H id h
  cases hk : x.k <;> first
   |(rw [hk] at h; cases h; done)
   |(simp only [feet]; done)
 intro b hb
 unfold feetX at hb
 split at hb
 ·rw [this _ _ _ h] at hb; simpa using hb
 ·split at hb
  ·split at hb
   ·rw [this _ _ _ h] at hb; simpa using hb
   ·cases hb
  ·cases hb
def Indep (x y : XO) (fx fy : List Nat × List Nat) : Prop :=
 apartX x y = true ∧ (∀ b, b ∈ fx.2 → b ∉ fy.1 ∧ b ∉ fy.2) ∧ (∀ b, b ∈ fx.1 → b ∉ fy.2)
theorem indep_of {ops : Array Oper} {xs : List XO} {G : Nat → PV} {S : Nat → St} {ft : List (List Nat × List Nat)} (hs : slotsOk ops xs = true) (hf : feetOk ft (pairsOf ops xs) = true) (hft : ∀ (j : Nat) (x : XO), xs[j]? = some x → ft[j]? = some (feetX G x (S j)))
  {i j : Nat} {x y : XO} (hij : i < j) (hx : xs[i]? = some x) (hy : xs[j]? = some y) : anc ops ops.size i j = true ∨ Indep x y (feetX G x (S i)) (feetX G y (S j)) := by
 by_cases ha : anc ops ops.size i j = true
 ·exact .inl ha
 ·refine .inr ⟨?_, ?_⟩
  ·simp only [slotsOk, Bool.and_eq_true, List.all_eq_true, Prod.forall, List.mem_zipIdx_iff_getElem?, Bool.or_eq_true, Bool.not_eq_true', decide_eq_false_iff_not] at hs
   rcases hs.2 y j hy x i hx with (h | h) | h
   ·omega
   ·exact h
   ·exact absurd h ha
  ·by_cases hn : needPair x y = true
   ·have hm : (i, j) ∈ pairsOf ops xs := by
     simp only [pairsOf, List.mem_flatMap, List.mem_map, List.mem_filter, Prod.exists, List.mem_zipIdx_iff_getElem?, Bool.and_eq_true, decide_eq_true_eq, Prod.mk.injEq]
     exact ⟨y, j, hy, x, i, ⟨hx, ⟨hij, hn⟩, by simpa using ha⟩, rfl, rfl⟩
    have := (List.all_eq_true.1 hf) _ hm
    simp only [hft i x hx, hft j y hy, Bool.and_eq_true] at this
    exact ⟨fun b hb => ⟨fun h => apartL_mem this.1 b hb (List.mem_append_left _ h), fun h => apartL_mem this.1 b hb (List.mem_append_right _ h)⟩, fun b hb => apartL_mem this.2 b hb⟩
   ·simp only [needPair, Bool.not_eq_true, Bool.or_eq_false_iff] at hn
    obtain ⟨⟨h1, h2⟩, h3⟩ := hn
    refine ⟨fun b hb => ?_, fun b hb => ?_⟩
    ·cases hwx : kW x.k with
     |false => rw [feetX_w hwx] at hb; cases hb
     |true =>
      rw [hwx] at h1 h2
      have hry : kR y.k = false := by simpa using h2
      refine ⟨by rw [feetX_r hry]; simp, fun hb2 => ?_⟩
      cases hwy : kW y.k with
      |false => rw [feetX_w hwy] at hb2; cases hb2
      |true =>
       rw [hwy] at h1
       simp only [Bool.and_self, Bool.true_and, Bool.not_eq_false', Bool.and_eq_true, bne_iff_ne, ne_eq] at h1
       exact h1.2 ((feetX_new h1.1.1 b hb).symm.trans (feetX_new h1.1.2 b hb2))
    ·cases hrx : kR x.k with
     |false => rw [feetX_r hrx] at hb; cases hb
     |true =>
      rw [hrx] at h3
      have hwy : kW y.k = false := by simpa using h3
      rw [feetX_w hwy]; simp
theorem anc_L {ops : Array Oper} {L : Nat → Bool} (hcl : ∀ j o, ops[j]? = some o → L j = true → ∀ e, e ∈ o.after → Region.binds .any e = true → L e.on = true) : ∀ (n i j : Nat) (o : Oper), ops[j]? = some o →
  (∀ e, e ∈ o.after → Region.binds .any e = true → L e.on = true) → anc ops n i j = true → L i = true := by
 intro n
 induction n with
 |zero => intro i j o _ _ h; cases h
 |succ n ih =>
  intro i j o ho he h
  simp only [anc, ho, Array.any_eq_true', Bool.and_eq_true, Bool.or_eq_true, beq_iff_eq] at h
  obtain ⟨e, hm, hb, h⟩ := h
  have hL := he e hm hb
  rcases h with h | h
  ·rw [← h]; exact hL
  ·cases n with
   |zero => cases h
   |succ n =>
    cases ho' : ops[e.on]? with
    |none => simp [anc, ho'] at h
    |some o' => exact ih i e.on o' ho' (fun e' he' hb' => hcl e.on o' ho' hL e' he' hb') h
end Go.Pi
end
section
namespace Go.Pi
open Go.RowKit
section
variable {P : Program} {w₀ : World} {N : Nat} {E0 : Env} {wi : World}
structure Plan (P : Program) (N : Nat) (callF : CallF) (G : Nat → PV) (ops : Array Oper) (rid : Nat) (xs : List XO) (S : Nat → St) (F : Nat → List Nat × List Nat) : Prop where
 len : xs.length = ops.size
 comp : ∀ (j : Nat) (o : Oper), ops[j]? = some o → ∃ x, xs[j]? = some x ∧ compileXO P N ops rid j o = some x
 run : ∀ (j : Nat) (x : XO), xs[j]? = some x → runOp callF G j x (S j) = some (S (j + 1)) ∧ F j = feetX G x (S j)
 noV : ∀ x, x ∈ xs → kV x.k = false
 back : ∀ (j : Nat) (o : Oper), ops[j]? = some o → ∀ e, e ∈ o.after → Region.binds .any e = true → e.on < j
 indep : ∀ (i j : Nat) (x y : XO), i < j → xs[i]? = some x → xs[j]? = some y → anc ops ops.size i j = true ∨ Indep x y (F i) (F j)
def dstB (xs : List XO) (y i : Nat) : Bool := decide ((xs[i]?).bind (·.dst) = some y)
def inW (F : Nat → List Nat × List Nat) (b i : Nat) : Bool := decide (b ∈ (F i).2)
structure At (xs : List XO) (S : Nat → St) (F : Nat → List Nat × List Nat) (L : Nat → Bool) (s : St) : Prop where
 n : s.n = (S 0).n
 t : ∀ y, s.t y = (S (last (fun i => L i && dstB xs y i) xs.length)).t y
 H : ∀ b, s.H b = (S (last (fun i => L i && inW F b i) xs.length)).H b
variable {callF : CallF} {G : Nat → PV} {ops : Array Oper} {rid : Nat} {xs : List XO} {S : Nat → St} {F : Nat → List Nat × List Nat}
def Closed (ops : Array Oper) (L : Nat → Bool) : Prop := ∀ j o, ops[j]? = some o → L j = true → ∀ e, e ∈ o.after → Region.binds .any e = true → L e.on = true
theorem Plan.get (hP : Plan P N callF G ops rid xs S F) {j : Nat} (hj : j < ops.size) : ∃ o x, ops[j]? = some o ∧ xs[j]? = some x ∧ compileXO P N ops rid j o = some x := by
 obtain ⟨x, h1, h2⟩ := hP.comp j ops[j] (by simp [hj])
 exact ⟨_, x, by simp [hj], h1, h2⟩
theorem Plan.later (hP : Plan P N callF G ops rid xs S F) {L : Nat → Bool} (hcl : Closed ops L) {i j : Nat} (hij : j < i) (hi : i < ops.size) {x : XO} (hx : xs[j]? = some x) (hL : L i = true) (hj : L j = false) :
  ∃ y, xs[i]? = some y ∧ Indep x y (F j) (F i) := by
 obtain ⟨o, y, ho, hy, _⟩ := hP.get hi
 refine ⟨y, hy, ?_⟩
 rcases hP.indep j i x y hij hx hy with h | h
 ·have := anc_L hcl _ j i o ho (fun e he hb => hcl i o ho hL e he hb) h
  rw [hj] at this; cases this
 ·exact h
theorem Plan.earlier (hP : Plan P N callF G ops rid xs S F) {L : Nat → Bool} (hcl : Closed ops L) {i j : Nat} (hij : i < j) (hj : j < ops.size) {y : XO} (hy : xs[j]? = some y) {o : Oper} (ho : ops[j]? = some o) (hr : ∀ e, e ∈ o.after → Region.binds .any e = true → L e.on = true) (hL : L i = false) :
  ∃ x, xs[i]? = some x ∧ Indep x y (F i) (F j) := by
 obtain ⟨o', x, ho', hx, _⟩ := hP.get (j := i) (by omega)
 refine ⟨x, hx, ?_⟩
 rcases hP.indep i j x y hij hx hy with h | h
 ·have := anc_L hcl _ i j o ho hr h
  rw [hL] at this; cases this
 ·exact h
theorem apart_dst {x y : XO} (h : apartX x y = true) : (∀ d, x.dst = some d → d ∉ looks y) ∧ (∀ d, x.dst = some d → y.dst ≠ some d) ∧ (∀ d, y.dst = some d → d ∉ looks x) := by
 refine ⟨fun d hd => ?_, fun d hd => ?_, fun d hd => ?_⟩ <;> simp [apartX, hd] at h
 ·exact h.1.1
 ·exact h.1.2
 ·exact h.2
theorem dstB_eq {y i : Nat} {x : XO} (hx : xs[i]? = some x) : dstB xs y i = decide (x.dst = some y) := by simp only [dstB, hx, Option.bind_some]
theorem Plan.frame (hP : Plan P N callF G ops rid xs S F) {j : Nat} {x : XO} (hx : xs[j]? = some x) : (∀ y, dstB xs y j = false → (S (j + 1)).t y = (S j).t y) ∧ ∀ b, inW F b j = false → (S (j + 1)).H b = (S j).H b := by
 obtain ⟨h1, h2⟩ := hP.run j x hx
 obtain ⟨h3, h4⟩ := runOp_frame (hP.noV x (List.mem_of_getElem? hx)) h1
 refine ⟨fun y hy => h3 y (by rw [dstB_eq hx] at hy; simpa using hy), fun b hb => h4 b (by rw [← h2]; simpa [inW] using hb)⟩
theorem Plan.ready (hP : Plan P N callF G ops rid xs S F) {L : Nat → Bool} (hcl : Closed ops L) {j : Nat} (hj : j < ops.size) {x : XO} (hx : xs[j]? = some x) {o : Oper} (ho : ops[j]? = some o) (hr : ∀ e, e ∈ o.after → Region.binds .any e = true → L e.on = true) (hL : L j = false)
  {s : St} (hA : At xs S F L s) : (∀ y, y ∈ looks x → s.t y = (S j).t y) ∧ (∀ b, b ∈ (F j).1 → s.H b = (S j).H b) ∧ ∀ b, b ∈ (F j).2 → s.H b = (S j).H b := by
 have key : ∀ (p : Nat → Bool), (∀ i, i < xs.length → j < i → L i = true → p i = false) → (∀ i, i < j → L i = false → p i = false) → last (fun i => L i && p i) xs.length = last p j := by
  intro p h1 h2
  rw [last_ext (j := j) (by rw [hP.len]; omega)]
  ·refine last_congr fun i hi => ?_
   cases h : L i with
   |true => simp
   |false => simp [h2 i hi h]
  ·intro i h3 h4
   by_cases e : i = j
   ·subst e; simp [hL]
   ·cases h : L i with
    |true => simp [h1 i h4 (by omega) h]
    |false => simp
 have hseq : ∀ i, i < j → ∃ y, xs[i]? = some y := fun i hi => by
  obtain ⟨_, y, _, h, _⟩ := hP.get (j := i) (by omega); exact ⟨y, h⟩
 have kH : ∀ b, ((∀ y fi, Indep x y (F j) fi → b ∉ fi.2) ∧ ∀ y fi, Indep y x fi (F j) → b ∉ fi.2) → s.H b = (S j).H b := by
  rintro b ⟨h1, h2⟩
  rw [hA.H b, key (inW F b) ?_ ?_]
  ·exact last_seq (f := fun i => (S i).H b) fun i hi hp => by
    obtain ⟨y, hy⟩ := hseq i hi
    exact (hP.frame hy).2 b hp
  ·intro i hi hji hLi
   obtain ⟨y, hy, hin⟩ := hP.later hcl hji (by rw [← hP.len]; exact hi) hx hLi hL
   simpa [inW] using h1 y _ hin
  ·intro i hi hLi
   obtain ⟨y, hy, hin⟩ := hP.earlier hcl hi hj hx ho hr hLi
   simpa [inW] using h2 y _ hin
 refine ⟨fun y hy => ?_, fun b hb => kH b ⟨fun y fi h => h.2.2 b hb, fun y fi h hb2 => (h.2.1 b hb2).1 hb⟩, fun b hb => kH b ⟨fun y fi h => (h.2.1 b hb).2, fun y fi h hb2 => (h.2.1 b hb2).2 hb⟩⟩
 rw [hA.t y, key (dstB xs y) ?_ ?_]
 ·exact last_seq (f := fun i => (S i).t y) fun i hi hp => by
   obtain ⟨z, hz⟩ := hseq i hi
   exact (hP.frame hz).1 y hp
 ·intro i hi hji hLi
  obtain ⟨z, hz, hin⟩ := hP.later hcl hji (by rw [← hP.len]; exact hi) hx hLi hL
  rw [dstB_eq hz]
  simp only [decide_eq_false_iff_not]
  exact fun h => (apart_dst hin.1).2.2 y h hy
 ·intro i hi hLi
  obtain ⟨z, hz, hin⟩ := hP.earlier hcl hi hj hx ho hr hLi
  rw [dstB_eq hz]
  simp only [decide_eq_false_iff_not]
  exact fun h => (apart_dst hin.1).1 y h hy
theorem Plan.step (hP : Plan P N callF G ops rid xs S F) {L : Nat → Bool} (hcl : Closed ops L) {j : Nat} (hj : j < ops.size) {x : XO} (hx : xs[j]? = some x) {o : Oper} (ho : ops[j]? = some o) (hr : ∀ e, e ∈ o.after → Region.binds .any e = true → L e.on = true) (hL : L j = false)
  {s : St} (hA : At xs S F L s) : ∃ s', runOp callF G j x s = some s' ∧ feetX G x s = F j ∧ At xs S F (fun i => L i || i == j) s' := by
 obtain ⟨hrun, hF⟩ := hP.run j x hx
 obtain ⟨ht, hR, hW⟩ := hP.ready hcl hj hx ho hr hL hA
 have hv := hP.noV x (List.mem_of_getElem? hx)
 have hsn : (S j).n = (S 0).n := S_n (fun j x hx => (hP.run j x hx).1) j (by rw [hP.len]; omega)
 obtain ⟨h1, h2⟩ := runOp_loc hv hrun (t2 := s.t) (H2 := s.H) ht (by rw [← hF]; exact hR) (by rw [← hF]; exact hW)
 have es : (⟨s.t, s.H, (S j).n⟩ : St) = s := by rw [hsn, ← hA.n]
 rw [es] at h1 h2
 refine ⟨_, h1, h2.trans hF.symm, ⟨hsn, fun y => ?_, fun b => ?_⟩⟩
 ·by_cases e : x.dst = some y
  ·simp only [if_pos e]
   rw [last_ext (j := j + 1) (by rw [hP.len]; omega)]
   ·simp only [last]
    rw [if_pos (by rw [dstB_eq hx]; simp [e])]
   ·intro i h3 h4
    have hne : (i == j) = false := by simp; omega
    simp only [hne, Bool.or_false]
    cases hLi : L i with
    |false => rfl
    |true =>
     obtain ⟨z, hz, hin⟩ := hP.later hcl (show j < i by omega) (by rw [← hP.len]; exact h4) hx hLi hL
     rw [dstB_eq hz]
     simpa using (apart_dst hin.1).2.1 y e
  ·simp only [if_neg e]
   rw [hA.t y]
   congr 2
   refine last_congr fun i hi => ?_
   by_cases ei : i = j
   ·subst ei; rw [dstB_eq hx]; simp [e]
   ·have hne : (i == j) = false := by simpa using ei
    simp only [hne, Bool.or_false]
 ·rw [← hF]
  by_cases e : b ∈ (F j).2
  ·simp only [mix, if_pos e]
   rw [last_ext (j := j + 1) (by rw [hP.len]; omega)]
   ·simp only [last]
    rw [if_pos (by simp [inW, e])]
   ·intro i h3 h4
    have hne : (i == j) = false := by simp; omega
    simp only [hne, Bool.or_false]
    cases hLi : L i with
    |false => rfl
    |true =>
     obtain ⟨z, hz, hin⟩ := hP.later hcl (show j < i by omega) (by rw [← hP.len]; exact h4) hx hLi hL
     simpa [inW] using (hin.2.1 b e).2
  ·simp only [mix, if_neg e]
   rw [hA.H b]
   congr 2
   refine last_congr fun i hi => ?_
   by_cases ei : i = j
   ·subst ei; simp [inW, e]
   ·have hne : (i == j) = false := by simpa using ei
    simp only [hne, Bool.or_false]
theorem Plan.done (hP : Plan P N callF G ops rid xs S F) {L : Nat → Bool} (hL : ∀ i, i < ops.size → L i = true) {s : St} (hA : At xs S F L s) : s = S xs.length := by
 have hall : ∀ p : Nat → Bool, last (fun i => L i && p i) xs.length = last p xs.length := fun p => last_congr fun i hi => by rw [hL i (by rw [← hP.len]; exact hi)]; rfl
 have hseq : ∀ i, i < xs.length → ∃ y, xs[i]? = some y := fun i hi => ⟨xs[i], by simp [hi]⟩
 obtain ⟨t, H, n⟩ := s
 have e1 : t = (S xs.length).t := funext fun y => by
  show (⟨t, H, n⟩ : St).t y = _
  rw [hA.t y, hall]
  exact last_seq (f := fun i => (S i).t y) fun i hi hp => by
   obtain ⟨z, hz⟩ := hseq i hi
   exact (hP.frame hz).1 y hp
 have e2 : H = (S xs.length).H := funext fun b => by
  show (⟨t, H, n⟩ : St).H b = _
  rw [hA.H b, hall]
  exact last_seq (f := fun i => (S i).H b) fun i hi hp => by
   obtain ⟨z, hz⟩ := hseq i hi
   exact (hP.frame hz).2 b hp
 have e3 : n = (S xs.length).n := hA.n.trans (S_n (fun j x hx => (hP.run j x hx).1) _ (Nat.le_refl _)).symm
 rw [e1, e2, e3]
def UL (n m : Nat) (F : Nat → List Nat × List Nat) (L : Nat → Bool) : Nat → Nat → Prop := fun b g => g < n ∨ ∃ i, i < m ∧ L i = true ∧ g = n + i ∧ b ∈ (F i).2
theorem any_sim (hS : SimCall P w₀ callF) (hG : Gok w₀ G) (hP : Plan P N callF G ops rid xs S F) {Q : Exit → Act → World → Prop} (hQ : ∀ a w, Rel P w₀ N E0 wi (UB (S 0).n ops.size) (S xs.length) a w → Q .normal a w) :
  ∀ (fuel : Nat) (listed : Array Bool) (s : St) (a : Act) (w : World), listed.size = ops.size → listed.toList.count false = fuel → Closed ops (fun i => listed.getD i false) → At xs S F (fun i => listed.getD i false) s →
   Rel P w₀ N E0 wi (UL (S 0).n ops.size F (fun i => listed.getD i false)) s a w → wpAny P .any ops Q fuel listed a w := by
 have hlist : ∀ (listed : Array Bool) (i : Nat), listed.size = ops.size → i < ops.size → listed.getD i true = listed.getD i false := by
  intro listed i h hi
  simp [Array.getD, h, hi]
 intro fuel
 induction fuel with
 |zero =>
  intro listed s a w hsz hc hcl hA hR
  have hall : ∀ i, i < ops.size → listed.getD i false = true := by
   intro i hi
   have hi' : i < listed.size := by rw [hsz]; exact hi
   have h0 := List.count_eq_zero.1 hc
   have hm : listed.toList[i]'(by simpa using hi') ∈ listed.toList := List.getElem_mem _
   simp only [Array.getD, hi', dif_pos]
   have e : listed.getInternal i hi' = listed.toList[i]'(by simpa using hi') := rfl
   rw [e]
   cases h : listed.toList[i]'(by simpa using hi') with
   |true => rfl
   |false => rw [h] at hm; exact absurd hm h0
  refine ⟨?_, ?_⟩
  ·cases hr : Region.ready .any ops listed with
   |nil => rfl
   |cons i is =>
    have hm : i ∈ Region.ready .any ops listed := by rw [hr]; simp
    obtain ⟨h1, o, ho, _⟩ := mem_ready.1 hm
    have hi := (Array.getElem?_eq_some_iff.1 ho).1
    rw [hlist listed i hsz hi, hall i hi] at h1
    cases h1
  ·have e := hP.done hall hA
   subst e
   refine hQ a w ?_
   obtain ⟨E, h⟩ := hR
   refine ⟨E, h.inv, h.heap, h.slots, h.size, h.defers, fun b g hk => ?_, h.ext⟩
   show g < (S 0).n + ops.size
   rcases h.used b g hk with h | ⟨i, h1, _, h2, _⟩ <;> omega
 |succ fuel ih =>
  intro listed s a w hsz hc hcl hA hR
  refine ⟨fun hnil => ?_, fun i hi => ?_⟩
  ·exfalso
   have hex : ∃ j, j < ops.size ∧ listed.getD j false = false := by
    have : 0 < listed.toList.count false := by omega
    obtain ⟨j, hj, he⟩ := List.getElem_of_mem (List.count_pos_iff.1 this)
    have hj' : j < listed.size := by simpa using hj
    refine ⟨j, by rw [← hsz]; exact hj', ?_⟩
    simp only [Array.getD, hj', dif_pos]
    exact he
   obtain ⟨j0, h0, h1⟩ := hex
   have hmin : ∀ n j, j ≤ n → j < ops.size → listed.getD j false = false → False := by
    intro n
    induction n with
    |zero =>
     intro j hj hjs hjf
     have : j = 0 := by omega
     subst this
     have hm : 0 ∈ Region.ready .any ops listed := by
      refine mem_ready.2 ⟨by rw [hlist listed 0 hsz hjs]; exact hjf, ops[0], by simp [hjs], fun e he hb => ?_⟩
      have := hP.back 0 ops[0] (by simp [hjs]) e he hb
      omega
     rw [hnil] at hm; cases hm
    |succ n ihn =>
     intro j hj hjs hjf
     have hm : j ∈ Region.ready .any ops listed := by
      refine mem_ready.2 ⟨by rw [hlist listed j hsz hjs]; exact hjf, ops[j], by simp [hjs], fun e he hb => ?_⟩
      have hlt := hP.back j ops[j] (by simp [hjs]) e he hb
      cases hq : listed.getD e.on false with
      |true => rfl
      |false => exact (ihn e.on (by omega) (by omega) hq).elim
     rw [hnil] at hm; cases hm
   exact hmin j0 j0 (Nat.le_refl _) h0 h1
  ·obtain ⟨hl, o, ho, he⟩ := mem_ready.1 hi
   have his := (Array.getElem?_eq_some_iff.1 ho).1
   rw [hlist listed i hsz his] at hl
   obtain ⟨x, hx, hcx⟩ := hP.comp i o ho
   obtain ⟨s', hrun, hfe, hA'⟩ := hP.step hcl his hx ho he hl hA
   have hn : s.n = (S 0).n := hA.n
   have eL : (fun k => (listed.setIfInBounds i true).getD k false) = fun k => listed.getD k false || k == i := by
    funext k
    by_cases e : k = i
    ·subst e; simp [Array.getD, hsz, his]
    ·rw [getD_set_ne false (Ne.symm e)]; simp [e]
   refine op_sim hS hG hcx ho hR ?_ hrun ?_
   ·rw [hfe, hn]
    rintro b hb g hg (h | ⟨i', h1, h2, h3, h4⟩)
    ·omega
    ·by_cases e : i' = i
     ·subst e
      have h2' : listed.getD i' false = true := h2
      rw [hl] at h2'; cases h2'
     ·obtain ⟨y, hy, hin⟩ := hP.later hcl (show i < i' by omega) h1 hx h2 hl
      exact (hin.2.1 b hb).2 h4
   ·intro a' w' hR'
    refine ih (listed.setIfInBounds i true) s' a' w' (by simpa using hsz) ?_ ?_ (by rw [eL]; exact hA') ?_
    ·rw [Array.toList_setIfInBounds]
     have hi' : i < listed.toList.length := by simpa [hsz] using his
     rw [List.count_set hi', hc]
     have : listed.toList[i] = false := by
      have := hl
      simp only [Array.getD, hsz, his, dif_pos] at this
      exact this
     simp [this]
    ·rw [eL]
     intro j o' ho' hj e' he' hb'
     simp only [Bool.or_eq_true, beq_iff_eq] at hj ⊢
     rcases hj with hj | rfl
     ·exact .inl (hcl j o' ho' hj e' he' hb')
     ·rw [ho] at ho'; cases ho'; exact .inl (he e' he' hb')
    ·rw [eL]
     obtain ⟨E, h⟩ := hR'
     refine ⟨E, h.inv, h.heap, h.slots, h.size, h.defers, fun b g hk => ?_, h.ext⟩
     rcases h.used b g hk with (h | ⟨i', h1, h2, h3, h4⟩) | ⟨h1, h2⟩
     ·exact .inl h
     ·exact .inr ⟨i', h1, by simp only [Bool.or_eq_true]; exact .inl h2, h3, h4⟩
     ·exact .inr ⟨i, his, by simp, by rw [h1, hn], by rw [← hfe]; exact h2⟩
end
end Go.Pi
end
section
namespace Go.Pi
open Go.RowKit
def exOf : Ex → Exit
 |.normal => .normal
 |.exit id => .exit id
 |.ret => .ret
theorem runL_append {callF : CallF} {G : Nat → PV} {fuel : Nat} : ∀ (xs ys : List XC) (s : St), runL callF G fuel (xs ++ ys) s = (runL callF G fuel xs s).bind fun r => match r.1 with
  |.normal => runL callF G fuel ys r.2
  |e => some (e, r.2) := by
 intro xs
 induction xs with
 |nil => intro ys s; simp [runL]
 |cons x xs ih =>
  intro ys s
  simp only [List.cons_append, runL]
  cases h : runC callF G fuel x s with
  |none => rfl
  |some r =>
   obtain ⟨e, s1⟩ := r
   cases e with
   |normal => simp only [Option.bind_some]; exact ih ys s1
   |exit id => rfl
   |ret => rfl
theorem runL_one {callF : CallF} {G : Nat → PV} {fuel : Nat} {x : XC} {s : St} {r : Ex × St} (h : runL callF G fuel [x] s = some r) : runC callF G fuel x s = some r := by
 simp only [runL, Option.bind_eq_some_iff] at h
 obtain ⟨⟨e, s1⟩, h1, h2⟩ := h
 cases e <;> simp only [Option.some.injEq] at h2 <;> rw [h1, ← h2]
section
variable {P : Program} {w₀ : World} {N : Nat} {E0 : Env} {wi : World} {callF : CallF} {G : Nat → PV}
theorem Rel.drew {U : Nat → Nat → Prop} {s : St} {a : Act} {w w' : World} (ha : Alike w w') (h : Rel P w₀ N E0 wi U s a w) : Rel P w₀ N E0 wi U s a w' := by
 obtain ⟨E, h⟩ := h
 exact ⟨E, h.inv.alike ha, h.heap, h.slots, h.size, h.defers, h.used, h.ext.trans (Ext.alike ha)⟩
theorem Rel.mono {U U' : Nat → Nat → Prop} {s : St} {a : Act} {w : World} (hU : ∀ b g, U b g → U' b g) (h : Rel P w₀ N E0 wi U s a w) : Rel P w₀ N E0 wi U' s a w := by
 obtain ⟨E, h⟩ := h
 exact ⟨E, h.inv, h.heap, h.slots, h.size, h.defers, fun b g k => hU b g (h.used b g k), h.ext⟩
theorem reg_sim (hS : SimCall P w₀ callF) (hG : Gok w₀ G) {id : Nat} {ops : Array Oper} {xs : List XO} (hc : compileXOs P N ops id 0 ops.toList = some xs) {s s' : St} {a : Act} {w : World} (hr : Rel P w₀ N E0 wi (UB s.n 0) s a w)
  (hrun : runOps callF G 0 xs s = some s') {Q : Exit → Act → World → Prop} (hQ : ∀ a' w', Rel P w₀ N E0 wi (UB (s'.n + xs.length) 0) ⟨s'.t, s'.H, s'.n + xs.length⟩ a' w' → Q .normal a' w') : (Code.region id ops false).wp P Q a w := by
 have hl := (compileXOs_inv ops.toList 0 xs hc).1
 refine wp_region ?_
 rw [List.range_eq_range']
 refine ops_sim hS hG ops.size 0 xs (by omega) (by simpa using hc) hr hrun ?_
 intro a' w' hn h
 refine hQ a' w' ?_
 obtain ⟨E, h⟩ := h
 refine ⟨E, h.inv, h.heap, h.slots, h.size, h.defers, fun b g k => ?_, h.ext⟩
 have : g < s.n + ops.size := h.used b g k
 show g < s'.n + xs.length + 0
 rw [hl, hn]; simpa using this
theorem dreg_sim (hm : P.follows .mixedOrders = true) (hS : SimCall P w₀ callF) (hG : Gok w₀ G) {id : Nat} {ops : Array Oper} {xs : List XO} (hc : compileXOs P N ops id 0 ops.toList = some xs) (hso : slotsOk ops xs = true) (hv : xs.all (fun x => !kV x.k) = true)
  {s s' : St} {a : Act} {w : World} (hr : Rel P w₀ N E0 wi (UB s.n 0) s a w)
  (hrun : runD callF G xs (pairsOf ops xs) s = some s') {Q : Exit → Act → World → Prop} (hQ : ∀ a' w', Rel P w₀ N E0 wi (UB (s'.n + xs.length) 0) ⟨s'.t, s'.H, s'.n + xs.length⟩ a' w' → Q .normal a' w') : (Code.region id ops true).wp P Q a w := by
 obtain ⟨hl, hcomp⟩ := compileXOs_inv ops.toList 0 xs hc
 have hl : xs.length = ops.size := by simpa using hl
 unfold runD at hrun
 split at hrun
 ·rename_i sE ft hft
  split at hrun
  ·rename_i hfo
   simp only [Option.some.injEq] at hrun
   subst hrun
   obtain ⟨S, hS0, hSE, hlf, hseq⟩ := feet_seq xs 0 s sE ft hft
   have hP : Plan P N callF G ops id xs S (fun j => (ft[j]?).getD ([], [])) := by
    refine ⟨hl, fun j o ho => ?_, fun j x hx => ?_, fun x hx => ?_, fun j o ho e he hb => ?_, fun i j x y hij hx hy => ?_⟩
    ·obtain ⟨x, h1, h2⟩ := hcomp j o (by simpa using ho)
     exact ⟨x, h1, by simpa using h2⟩
    ·obtain ⟨h1, h2⟩ := hseq j x hx
     refine ⟨by simpa using h1, ?_⟩
     simp only [h2, Option.getD_some]
    ·have := (List.all_eq_true.1 hv) x hx
     simpa using this
    ·simp only [slotsOk, Bool.and_eq_true, List.all_eq_true, Prod.forall, List.mem_zipIdx_iff_getElem?] at hso
     have := (Array.all_eq_true_iff_forall_mem.1 (hso.1 o j (by simpa using ho))) e he
     simpa [hb] using this
    ·have := indep_of (G := G) (S := S) hso hfo (fun j x hx => (hseq j x hx).2) hij hx hy
     simp only [(hseq i x hx).2, (hseq j y hy).2, Option.getD_some]
     exact this
   refine wp_region_any hm ?_
   have hal : Alike w { w with drawn := w.drawn + 1 } := Alike.drew w
   refine any_sim (E0 := E0) (wi := wi) hS hG hP ?_ ops.size _ s a _ (by simp) (by simp) ?_ ?_ ?_
   ·intro a' w' h
    refine hQ a' w' ?_
    have hn : sE.n = s.n := by rw [← hSE, ← hS0]; exact S_n (fun j x hx => (hP.run j x hx).1) _ (Nat.le_refl _)
    rw [hSE] at h
    obtain ⟨E, h⟩ := h
    refine ⟨E, h.inv, h.heap, h.slots, h.size, h.defers, fun b g k => ?_, h.ext⟩
    have : g < (S 0).n + ops.size := h.used b g k
    show g < sE.n + xs.length + 0
    rw [hl, hn, ← hS0]; simpa using this
   ·intro j o ho hj
    have hlt := (Array.getElem?_eq_some_iff.1 ho).1
    simp [Array.getD, hlt] at hj
   ·have hz : ∀ p : Nat → Bool, last (fun i => (Array.replicate ops.size false).getD i false && p i) xs.length = 0 := by
     intro p
     rw [last_ext (j := 0) (Nat.zero_le _)]
     ·rfl
     ·intro i _ hi
      rw [hl] at hi
      simp [Array.getD, hi]
    refine ⟨by rw [hS0], fun y => by rw [hz, hS0], fun b => by rw [hz, hS0]⟩
   ·refine (hr.drew hal).mono fun b g h => .inl ?_
    have : g < s.n + 0 := h
    rw [hS0]; simpa using this
  ·cases hrun
 ·cases hrun
theorem code_sim (hm : P.follows .mixedOrders = true) (hS : SimCall P w₀ callF) (hG : Gok w₀ G) (fuel : Nat) : ∀ (c : Code) (xs : List XC), compileC P N c = some xs → ∀ (s s' : St) (ex : Ex) (a : Act) (w : World) (Q : Exit → Act → World → Prop),
  runL callF G fuel xs s = some (ex, s') → Rel P w₀ N E0 wi (UB s.n 0) s a w → (∀ a' w', Rel P w₀ N E0 wi (UB s'.n 0) s' a' w' → Q (exOf ex) a' w') → c.wp P Q a w := by
 intro c
 induction c with
 |skip =>
  intro xs hc s s' ex a w Q hrun hr hQ
  simp only [compileC, Option.some.injEq] at hc; subst hc
  simp only [runL, Option.some.injEq, Prod.mk.injEq] at hrun
  obtain ⟨rfl, rfl⟩ := hrun
  exact wp_skip (hQ a w hr)
 |region id ops draw =>
  intro xs hc s s' ex a w Q hrun hr hQ
  cases draw with
  |false =>
   simp only [compileC, bind, Option.bind_eq_some_iff, Option.some.injEq] at hc
   obtain ⟨ys, hys, rfl⟩ := hc
   have h1 := runL_one hrun
   simp only [runC, Option.map_eq_some_iff, Prod.mk.injEq] at h1
   obtain ⟨s1, h1, rfl, rfl⟩ := h1
   exact reg_sim hS hG hys hr h1 hQ
  |true =>
   simp only [compileC, bind, Option.bind_eq_some_iff] at hc
   obtain ⟨ys, hys, hc⟩ := hc
   split at hc
   ·rename_i hok
    simp only [Bool.and_eq_true] at hok
    simp only [Option.some.injEq] at hc
    subst hc
    have h1 := runL_one hrun
    simp only [runC, Option.map_eq_some_iff, Prod.mk.injEq] at h1
    obtain ⟨s1, h1, rfl, rfl⟩ := h1
    exact dreg_sim hm hS hG hys hok.1 hok.2 hr h1 hQ
   ·cases hc
 |seq x y ihx ihy =>
  intro xs hc s s' ex a w Q hrun hr hQ
  simp only [compileC, bind, Option.bind_eq_some_iff, Option.some.injEq] at hc
  obtain ⟨xa, hxa, xb, hxb, rfl⟩ := hc
  rw [runL_append, Option.bind_eq_some_iff] at hrun
  obtain ⟨⟨e1, s1⟩, h1, h2⟩ := hrun
  refine wp_seq (ihx xa hxa s s1 e1 a w _ h1 hr ?_)
  intro a' w' hr'
  cases e1 with
  |normal => exact ihy xb hxb s1 s' ex a' w' Q h2 hr' hQ
  |exit id => simp only [Option.some.injEq, Prod.mk.injEq] at h2; obtain ⟨rfl, rfl⟩ := h2; exact hQ a' w' hr'
  |ret => simp only [Option.some.injEq, Prod.mk.injEq] at h2; obtain ⟨rfl, rfl⟩ := h2; exact hQ a' w' hr'
 |cond c x y ihx ihy =>
  intro xs hc s s' ex a w Q hrun hr hQ
  simp only [compileC, bind, Option.bind_eq_some_iff, Option.some.injEq] at hc
  obtain ⟨oc, hoc, xa, hxa, xb, hxb, rfl⟩ := hc
  have h1 := runL_one hrun
  simp only [runC] at h1
  split at h1
  ·rename_i t ht
   have hcv : a.eval c = .bool t := by
    obtain ⟨E, h⟩ := hr
    have := ev_rep hG h.inv h.slots c oc hoc
    rw [ht] at this
    generalize a.eval c = z at this
    cases this; rfl
   refine wp_cond hcv ?_
   cases t with
   |true => simp only [if_true] at h1 ⊢; exact ihx xa hxa s s' ex a w Q h1 hr hQ
   |false => simp only [Bool.false_eq_true, if_false] at h1 ⊢; exact ihy xb hxb s s' ex a w Q h1 hr hQ
  ·cases h1
 |block id x ih =>
  intro xs hc s s' ex a w Q hrun hr hQ
  simp only [compileC, bind, Option.bind_eq_some_iff, Option.some.injEq] at hc
  obtain ⟨xa, hxa, rfl⟩ := hc
  have h1 := runL_one hrun
  simp only [runC, Option.map_eq_some_iff] at h1
  obtain ⟨⟨e1, s1⟩, h1, h2⟩ := h1
  refine wp_block (ih xa hxa s s1 e1 a w _ h1 hr ?_)
  intro a' w' hr'
  cases e1 with
  |normal => simp only [Prod.mk.injEq] at h2; obtain ⟨rfl, rfl⟩ := h2; exact hQ a' w' hr'
  |exit j =>
   simp only at h2
   simp only [exOf, Exit.inBlock]
   split at h2
   ·rename_i hj
    simp only [Prod.mk.injEq] at h2
    obtain ⟨rfl, rfl⟩ := h2
    rw [if_pos hj]; exact hQ a' w' hr'
   ·rename_i hj
    simp only [Prod.mk.injEq] at h2
    obtain ⟨rfl, rfl⟩ := h2
    rw [if_neg hj]; exact hQ a' w' hr'
  |ret => simp only [Prod.mk.injEq] at h2; obtain ⟨rfl, rfl⟩ := h2; exact hQ a' w' hr'
 |loop x ih =>
  intro xs hc s s' ex a w Q hrun hr hQ
  simp only [compileC, bind, Option.bind_eq_some_iff, Option.some.injEq] at hc
  obtain ⟨xa, hxa, rfl⟩ := hc
  have h1 := runL_one hrun
  simp only [runC] at h1
  have key : ∀ (n : Nat) (s : St) (a : Act) (w : World), rounds (runL callF G fuel xa) n s = some (ex, s') → Rel P w₀ N E0 wi (UB s.n 0) s a w → Code.rounds P x Q n a w := by
   intro n
   induction n with
   |zero => intro s a w h; cases h
   |succ n ihn =>
    intro s a w h hr
    simp only [rounds, Option.bind_eq_some_iff] at h
    obtain ⟨⟨e1, s1⟩, h1, h2⟩ := h
    rw [rounds_succ]
    refine ih xa hxa s s1 e1 a w _ h1 hr ?_
    intro a' w' hr'
    cases e1 with
    |normal => exact ihn s1 a' w' h2 hr'
    |exit id => simp only [Option.some.injEq, Prod.mk.injEq] at h2; obtain ⟨rfl, rfl⟩ := h2; exact hQ a' w' hr'
    |ret => simp only [Option.some.injEq, Prod.mk.injEq] at h2; obtain ⟨rfl, rfl⟩ := h2; exact hQ a' w' hr'
  exact wp_loop_rounds fuel (key fuel s a w h1 hr)
 |exit id =>
  intro xs hc s s' ex a w Q hrun hr hQ
  simp only [compileC, Option.some.injEq] at hc; subst hc
  have h1 := runL_one hrun
  simp only [runC, Option.some.injEq, Prod.mk.injEq] at h1
  obtain ⟨rfl, rfl⟩ := h1
  exact wp_exit (hQ a w hr)
 |ret =>
  intro xs hc s s' ex a w Q hrun hr hQ
  simp only [compileC, Option.some.injEq] at hc; subst hc
  have h1 := runL_one hrun
  simp only [runC, Option.some.injEq, Prod.mk.injEq] at h1
  obtain ⟨rfl, rfl⟩ := h1
  exact wp_ret (hQ a w hr)
 |_ => intro xs hc; simp [compileC] at hc
end
end Go.Pi
end
