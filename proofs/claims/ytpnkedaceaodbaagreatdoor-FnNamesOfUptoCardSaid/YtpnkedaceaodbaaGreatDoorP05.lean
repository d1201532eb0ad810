import Derived.Test.YtpnkedaceaodbaaGreatDoorP04
/- Part of the proof. -/
set_option linter.all false
section
namespace Go.Pi
open Go.RowKit
def wrapC (ag : Bool) (cs : List PV) : Option PV :=
 if ag then some (.agg cs) else match cs with
  |[c] => some c
  |_ => none
def runRes (t : Nat → PV) (H : Heap) : List RV → Option (List PV)
 |[] => some []
 |.tmp n :: rs => (runRes t H rs).map (t n :: ·)
 |.cell n ag k :: rs =>
  match cellsAt H k (t n), runRes t H rs with
  |some cs, some vs => (wrapC ag cs).map (· :: vs)
  |_, _ => none
def resOf : List PV → PV
 |[v] => v
 |vs => .tup vs
def chOk (ch : Option Chunk) (H : Heap) : Option (List PV) :=
 match ch with
 |none => some []
 |some c => match H 0 with
  |some c' => if c'.gen = 0 ∧ c'.e = c.e ∧ c'.s = c.s then some c'.cells else none
  |none => none
def runF (callF : CallF) (G : Nat → PV) (fuel : Nat) (fx : FX) (args : List PV) (ch : Option Chunk) : Option (PV × List PV) :=
 if args.length ≤ fx.n then
  match runL callF G fuel fx.body ⟨fun i => args.getD i .undef, H0 ch, 1⟩ with
  |some (e, s) =>
   match e, runRes s.t s.H fx.res, chOk ch s.H with
   |.exit _, _, _ => none
   |_, some vs, some cs =>
    match settleL (settle depth s.H) (resOf vs :: cs) with
    |some (r :: cells, ids) => if ids.contains 0 then none else some (r, cells)
    |_ => none
   |_, _, _ => none
  |none => none
 else none
section
variable {P : Program} {w₀ : World} {E : Env} {w : World}
theorem run_loadVar (hI : Inv P w₀ E w) {t : TypeId} {ag : Bool} {s : Nat} {x : PV} {v : Value} {cs : List PV} (hag : aggP P t = some ag) (hs : sizeP P t = some s) (hx : Rep E x v) (hc : cellsAt E.H (if ag then s else 1) x = some cs) {r : PV}
  (hr : wrapC ag cs = some r) : ∃ z, (do loadVar t (← asAddr v) : Sem Value).run P w = .ok z w ∧ Rep E r z := by
 obtain ⟨a, U, rfl, hl, hrep, hf, hm⟩ := cellsAt_rep hI hx hc
 cases ag with
 |true =>
  simp only [wrapC, if_true, Option.some.injEq] at hr hl
  subst hr
  refine ⟨.agg U.toArray, ?_, hrep.agg hf⟩
  have hU : U.length = s := hl
  simp only [asAddr, loadVar, Sem.run_bind, Sem.run_pure, Result.andThen_ok, run_isAgg' hag, if_true, run_sizeOf' hs, ← hU, run_loadCells w a U hm]
 |false =>
  simp only [wrapC, Bool.false_eq_true, if_false] at hr hl
  clear hc
  match U, hl with
  |[z], _ =>
   obtain ⟨hl2, hrep⟩ := hrep
   match cs, hl2, hr with
   |[c], _, hr =>
    simp only [Option.some.injEq] at hr
    subst hr
    refine ⟨z, ?_, hrep 0 c z rfl rfl⟩
    have h0 := hm 0 z rfl
    have ha0 : a.add 0 = a := by simp [Addr.add]
    rw [ha0] at h0
    simp [asAddr, loadVar, run_isAgg' hag, h0]
def resF (tmps : Array Value) : ResultVar → Sem Value
 |.tmp t => pure (tmps.getD t undef)
 |.cell a t => do loadVar t (← asAddr (tmps.getD a undef))
theorem results_eq (fn : Func) (tmps : Array Value) : results fn tmps = (fn.results.mapM (resF tmps) >>= fun vs => pure (if h : vs.size = 1 then vs[0] else .tuple vs)) := rfl
theorem run_res (hI : Inv P w₀ E w) {t : Nat → PV} {tmps : Array Value} (hs : ∀ x, Rep E (t x) (tmps.getD x undef)) :
  ∀ (rs : List ResultVar) (xs : List RV) (vs : List PV), compileR P rs = some xs → runRes t E.H xs = some vs → ∃ us, (rs.mapM (resF tmps)).run P w = .ok us w ∧ Reps E vs us := by
 intro rs
 induction rs with
 |nil =>
  intro xs vs hc hr
  simp only [compileR, Option.some.injEq] at hc
  subst hc
  simp only [runRes, Option.some.injEq] at hr
  subst hr
  exact ⟨[], by simp, Reps.nil E⟩
 |cons r rs ih =>
  intro xs vs hc hr
  cases r with
  |tmp n =>
   simp only [compileR, bind, Option.bind_eq_some_iff, Option.some.injEq] at hc
   obtain ⟨ys, hys, rfl⟩ := hc
   simp only [runRes, Option.map_eq_some_iff] at hr
   obtain ⟨vs', hvs, rfl⟩ := hr
   obtain ⟨us, h1, h2⟩ := ih ys vs' hys hvs
   refine ⟨tmps.getD n undef :: us, ?_, .cons (hs n) h2⟩
   rw [List.mapM_cons]
   simp only [resF, Sem.run_bind, Sem.run_pure, Result.andThen_ok, h1]
  |cell n ty =>
   simp only [compileR, bind, Option.bind_eq_some_iff, Option.some.injEq] at hc
   obtain ⟨ag, hag, s, hsz, ys, hys, rfl⟩ := hc
   simp only [runRes] at hr
   split at hr
   ·rename_i cs vs' hcs hvs
    obtain ⟨us, h1, h2⟩ := ih ys vs' hys hvs
    simp only [Option.map_eq_some_iff] at hr
    obtain ⟨r, hr1, rfl⟩ := hr
    obtain ⟨z, h3, h4⟩ := run_loadVar hI hag hsz (hs n) hcs hr1
    refine ⟨z :: us, ?_, .cons h4 h2⟩
    rw [List.mapM_cons]
    simp only [resF, Sem.run_bind] at h3 ⊢
    simp only [h3, Sem.run_pure, Result.andThen_ok, h1]
   ·cases hr
theorem run_results (hI : Inv P w₀ E w) {fn : Func} {t : Nat → PV} {tmps : Array Value} (hs : ∀ x, Rep E (t x) (tmps.getD x undef)) {xs : List RV} {vs : List PV} (hc : compileR P fn.results.toList = some xs) (hr : runRes t E.H xs = some vs) :
  ∃ v, (results fn tmps).run P w = .ok v w ∧ Rep E (resOf vs) v := by
 obtain ⟨us, h1, h2⟩ := run_res hI hs fn.results.toList xs vs hc hr
 refine ⟨if h : us.toArray.size = 1 then us.toArray[0] else .tuple us.toArray, ?_, ?_⟩
 ·rw [results_eq, Array.mapM_eq_mapM_toList]
  simp only [Sem.run_bind, Sem.run_map]
  rw [h1]
  rfl
 ·have hl := h2.1
  match vs, us, hl, h2 with
  |[], [], _, h2 => exact h2.tup
  |[v], [u], _, h2 => obtain ⟨_, _, he, h, _⟩ := h2.head; cases he; exact h
  |v :: v' :: vs, u :: u' :: us, _, h2 => exact h2.tup
def Env.retell (E : Env) (b : Nat) (c : Chunk) (cells : List PV) : Env := ⟨E.K, E.F, E.β, E.κ, E.H.put b (some ⟨c.e, c.gen, cells, c.s⟩)⟩
theorem retell_le {b : Nat} {c : Chunk} {cells : List PV} (hb : E.H b = some c) : Le E (E.retell b c cells) := by
 refine ⟨fun _ _ h => h, fun _ _ h => h, fun x c' hx _ => ?_⟩
 by_cases e : x = b
 ·subst e
  simp only [Env.retell, Heap.put_same, Option.some.injEq] at hx
  subst hx
  exact ⟨c, hb, rfl, rfl, rfl⟩
 ·simp only [Env.retell, Heap.put_ne _ _ e] at hx
  exact ⟨c', hx, rfl, rfl, rfl⟩
theorem inv_retell (hI : Inv P w₀ E w) {b : Nat} {c : Chunk} {cells : List PV} (hb : E.H b = some c) (hl : cells.length = c.cells.length) (hf : ∀ x, x ∈ cells → x.flat = true) (hd : ∀ cs : Array Value, w.heap[E.β b]? = some (.cells cs c.e (0, 0)) → Reps E cells (cs.toList.take c.cells.length)) : Inv P w₀ (E.retell b c cells) w := by
 have hle := retell_le (cells := cells) hb
 have hof : ∀ y c'', (E.retell b c cells).H y = some c'' → ∃ c3, E.H y = some c3 := by
  intro y c'' hy
  by_cases e : y = b
  ·subst e; exact ⟨c, hb⟩
  ·simp only [Env.retell, Heap.put_ne _ _ e] at hy; exact ⟨c'', hy⟩
 refine ⟨hI.below, hI.cell, hI.old, fun x c' hx => ?_⟩
 by_cases e : x = b
 ·subst e
  simp only [Env.retell, Heap.put_same, Option.some.injEq] at hx
  subst hx
  have h := hI.chunk x c hb
  refine ⟨h.used, h.last, h.own, fun y c'' hy he => ?_, h.free, ?_, hf⟩
  ·obtain ⟨c3, h3⟩ := hof y c'' hy
   exact h.apart y c3 h3 he
  ·obtain ⟨cs, k1, k2, k3, k4⟩ := h.cells
   refine ⟨cs, k1, by rw [hl]; exact k2, k3, ?_⟩
   show Reps _ cells _
   rw [hl]
   exact (hd _ k1).mono hle
 ·simp only [Env.retell, Heap.put_ne _ _ e] at hx
  have h := hI.chunk x c' hx
  refine ⟨h.used, h.last, h.own, fun y c'' hy he => ?_, h.free, ?_, h.flat⟩
  ·obtain ⟨c3, h3⟩ := hof y c'' hy
   exact h.apart y c3 h3 he
  ·obtain ⟨cs, k1, k2, k3, k4⟩ := h.cells
   exact ⟨cs, k1, k2, k3, k4.mono hle⟩
theorem Ext.retell {b : Nat} {c : Chunk} {cells : List PV} (hb : E.H b = some c) : Ext E w (E.retell b c cells) w := by
 refine ⟨retell_le hb, Nat.le_refl _, fun _ _ h => .inl h, fun _ _ _ => rfl, fun x c' hx => ?_⟩
 by_cases e : x = b
 ·subst e; exact .inr ⟨x, c, hb, rfl⟩
 ·simp only [Env.retell, Heap.put_ne _ _ e] at hx
  exact .inr ⟨x, c', hx, rfl⟩
theorem flat_settleL {n : Nat} {H : Heap} : ∀ (xs ys : List PV) (ids : List Nat), settleL (settle n H) xs = some (ys, ids) → ∀ (i : Nat) (x y : PV), xs[i]? = some x → ys[i]? = some y → x.flat = true → y.flat = true := by
 intro xs
 induction xs with
 |nil => intro ys ids h i x y hx; simp at hx
 |cons z zs ih =>
  intro ys ids h i x y hx hy hf
  simp only [settleL] at h
  split at h
  ·simp only [Option.some.injEq, Prod.mk.injEq] at h
   obtain ⟨rfl, _⟩ := h
   rw [hx, Option.some.injEq] at hy
   subst hy; exact hf
  ·split at h
   ·rename_i y0 i1 zs' i2 h1 h2
    simp only [Option.some.injEq, Prod.mk.injEq] at h
    obtain ⟨rfl, _⟩ := h
    cases i with
    |zero =>
     simp only [List.getElem?_cons_zero, Option.some.injEq] at hx hy
     subst hx; subst hy
     exact flat_settle h1 hf
    |succ i =>
     simp only [List.getElem?_cons_succ] at hx hy
     exact ih zs' i2 h2 i x y hx hy hf
   ·cases h
theorem settleL_len {f : PV → Option (PV × List Nat)} : ∀ (xs ys : List PV) (ids : List Nat), settleL f xs = some (ys, ids) → ys.length = xs.length := by
 intro xs
 induction xs with
 |nil => intro ys ids h; simp only [settleL, Option.some.injEq, Prod.mk.injEq] at h; rw [← h.1]
 |cons z zs ih =>
  intro ys ids h
  simp only [settleL] at h
  split at h
  ·simp only [Option.some.injEq, Prod.mk.injEq] at h; rw [← h.1]
  ·split at h
   ·rename_i y0 i1 zs' i2 h1 h2
    simp only [Option.some.injEq, Prod.mk.injEq] at h
    rw [← h.1, List.length_cons, List.length_cons, ih _ _ h2]
   ·cases h
theorem fn_sim {callF : CallF} {G : Nat → PV} (hm : P.follows .mixedOrders = true) (hS : SimCall P w₀ callF) (hG : Gok w₀ G) {fuel f : Nat} {fn : Func} {fx : FX} (hfn : P.funcs[f]? = some fn) (hfx : compileF P fn = some fx) {args : List PV} {ch : Option Chunk} {r : PV} {cells : List PV}
  (hrun : runF callF G fuel fx args ch = some (r, cells)) (hgen : ∀ c, ch = some c → c.gen = 0) {vs : List Value} (hI : Inv P w₀ E w) (hH : E.H = H0 ch) (hK : ∀ b g, E.K b g → g < 1) (hR : Reps E args vs) :
  Calls P f vs.toArray w fun e w' => ∃ v E', e = .returned v ∧ Back P w₀ E w ch r cells v E' w' := by
 simp only [compileF, bind, Option.bind_eq_some_iff, Option.some.injEq] at hfx
 obtain ⟨c, hc, xr, hxr, xb, hxb, rfl⟩ := hfx
 unfold runF at hrun
 simp only at hrun
 split at hrun
 ·rename_i hlen
  split at hrun
  ·rename_i ex s hbody
   have hlv : vs.length ≤ fn.ntmps := by rw [← hR.1]; exact hlen
   have hrel : Rel P w₀ fn.ntmps E w (UB 1 0) ⟨fun i => args.getD i .undef, H0 ch, 1⟩ { tmps := vs.toArray ++ Array.replicate (fn.ntmps - vs.toArray.size) undef, defers := [] } w := by
    refine ⟨E, hI, hH, fun x => ?_, by simp; omega, rfl, fun b g h => hK b g h, Ext.refl E w⟩
    show Rep E (args.getD x .undef) _
    by_cases hx : x < args.length
    ·have h1 := hR.get x hx
     have e1 : args.getD x .undef = args[x] := by simp [List.getD_eq_getElem?_getD, hx]
     have hxv : x < vs.length := hR.1 ▸ hx
     have e2 : (vs.toArray ++ Array.replicate (fn.ntmps - vs.toArray.size) undef).getD x undef = vs[x] := by
      simp [Array.getD_eq_getD_getElem?, Array.getElem?_append, hxv]
     rw [e1, e2]; exact h1
    ·have e1 : args.getD x .undef = .undef := by simp [List.getD_eq_getElem?_getD]; rw [List.getElem?_eq_none (by omega)]; rfl
     rw [e1]; exact .undef _
   refine calls_of_wp hfn hc (code_sim hm hS hG fuel c xb hxb _ s ex _ w _ hbody hrel ?_)
   rintro a' w' ⟨E1, h⟩
   split at hrun
   ·cases hrun
   ·rename_i ex _ _ _ us cs hex hres hch
    have hfin : ∃ v, (results fn a'.tmps).run P w' = .ok v w' ∧ ∃ v1 E', Ending.returned v = .returned v1 ∧ Back P w₀ E w ch r cells v1 E' w' := by
     rw [← h.heap] at hres hch hrun
     obtain ⟨v, hv1, hv2⟩ := run_results h.inv h.slots hxr hres
     refine ⟨v, hv1, v, ?_⟩
     split at hrun
     ·rename_i r0 cells0 ids hset
      split at hrun
      ·cases hrun
      ·rename_i h0
       simp only [Option.some.injEq, Prod.mk.injEq] at hrun
       obtain ⟨rfl, rfl⟩ := hrun
       have h0' : 0 ∉ ids := by simpa using h0
       have hlenc := settleL_len _ _ _ hset
       have hX1 := Ext.freeze h.inv ids
       cases ch with
       |none =>
        simp only [chOk, Option.some.injEq] at hch
        subst hch
        obtain ⟨h1, h2⟩ := settleL_all h.inv hset (.cons hv2 (Reps.nil E1))
        obtain ⟨_, _, he, h3, _⟩ := h1.head
        cases he
        simp only [deepL, Bool.and_eq_true] at h2
        exact ⟨E1.freeze w' ids, rfl, h3, h2.1, inv_freeze h.inv ids, h.ext.trans hX1, fun c h => by cases h⟩
       |some ch0 =>
        simp only [chOk] at hch
        split at hch
        ·rename_i c' hc'
         split at hch
         ·rename_i hcc
          simp only [Option.some.injEq] at hch
          subst hch
          have hhold := h.inv.chunk 0 c' hc'
          obtain ⟨ws, k1, k2, k3, k4⟩ := hhold.cells
          have hlen' : cells0.length = c'.cells.length := by simpa using hlenc
          have hfr : (E1.freeze w' ids).H 0 = some c' := by show (if 0 ∈ ids then none else E1.H 0) = _; rw [if_neg h0', hc']
          have hI1 := inv_freeze h.inv ids
          have hall : ∀ xs, Reps E1 c'.cells xs → Rep (E1.freeze w' ids) r0 v ∧ Reps (E1.freeze w' ids) cells0 xs ∧ deepB r0 = true ∧ deepL cells0 = true := by
           intro xs hxs
           obtain ⟨h1, h2⟩ := settleL_all h.inv hset (.cons hv2 hxs)
           obtain ⟨_, _, he, h3, h4⟩ := h1.head
           cases he
           simp only [deepL, Bool.and_eq_true] at h2
           exact ⟨h3, h4, h2.1, h2.2⟩
          obtain ⟨a1, a2, a3, a4⟩ := hall _ k4
          have hfl : ∀ x, x ∈ cells0 → x.flat = true := by
           intro x hx
           obtain ⟨i, hi, rfl⟩ := List.getElem_of_mem hx
           refine flat_settleL _ _ _ hset (i + 1) (c'.cells[i]'(by omega)) _ (by simp [hlen' ▸ hi]) (by simp [hi]) (hhold.flat _ (List.getElem_mem _))
          have hdd : ∀ cs : Array Value, w'.heap[(E1.freeze w' ids).β 0]? = some (.cells cs c'.e (0, 0)) → Reps (E1.freeze w' ids) cells0 (cs.toList.take c'.cells.length) := by
           intro cs hcs
           have hcs' : w'.heap[E1.β 0]? = some (.cells cs c'.e (0, 0)) := hcs
           rw [k1] at hcs'
           cases hcs'
           exact a2
          refine ⟨(E1.freeze w' ids).retell 0 c' cells0, rfl, a1.mono (retell_le hfr), a3, inv_retell hI1 hfr hlen' hfl hdd, h.ext.trans (hX1.trans (Ext.retell hfr)), fun c hcq => ?_⟩
          cases hcq
          refine ⟨?_, a4⟩
          simp only [Env.retell, Heap.put_same, hcc.1, hcc.2.1, hcc.2.2]
         ·cases hch
        ·cases hch
     ·cases hrun
    cases ex with
    |normal => exact ⟨h.defers, hfin⟩
    |exit id => exact absurd rfl (hex id)
    |ret => exact ⟨h.defers, hfin⟩
   ·cases hrun
  ·cases hrun
 ·cases hrun
end
end Go.Pi
end
section
namespace Go.Pi
open Go.RowKit
def callX (T : Nat → Option FX) (X : CallF) (G : Nat → PV) : Nat → CallF
 |0 => fun _ _ _ => none
 |n + 1 => fun f args ch =>
  match T f with
  |some fx => runF (callX T X G n) G n fx args ch
  |none => X f args ch
section
variable {P : Program} {w₀ : World}
theorem callX_sim {T : Nat → Option FX} {X : CallF} {G : Nat → PV} (hm : P.follows .mixedOrders = true) (hG : Gok w₀ G) (hX : SimCall P w₀ X)
  (hT : ∀ f fx, T f = some fx → ∃ fn, P.funcs[f]? = some fn ∧ compileF P fn = some fx ∧ (fn.name == "runtime.NumGoroutine") = false) : ∀ n, SimCall P w₀ (callX T X G n) := by
 intro n
 induction n with
 |zero => intro f args ch r cells h; cases h
 |succ n ih =>
  intro f args ch r cells h
  simp only [callX] at h
  split at h
  ·rename_i fx hfx
   obtain ⟨fn, hfn, hc, hname⟩ := hT f fx hfx
   refine ⟨⟨fn, hfn, ?_, hname⟩, fun hgen E w vs hI hH hK hR => fn_sim hm ih hG hfn hc h hgen hI hH hK hR⟩
   simp only [compileF, bind, Option.bind_eq_some_iff] at hc
   obtain ⟨c, hb, _⟩ := hc
   rw [hb]; rfl
  ·exact hX f args ch r cells h
end
def CallLe (a b : CallF) : Prop := ∀ f args ch r, a f args ch = some r → b f args ch = some r
theorem CallLe.refl (a : CallF) : CallLe a a := fun _ _ _ _ h => h
section
variable {a b : CallF} {G : Nat → PV}
theorem runCall0_le (h : CallLe a b) {H : Heap} {f : Nat} {args : List PV} {r : PV × Heap} (hr : runCall0 a H f args = some r) : runCall0 b H f args = some r := by
 unfold runCall0 at hr ⊢
 split at hr
 ·split at hr
  ·split at hr
   ·rename_i hc
    rw [if_pos hc]
    simp only [Option.bind_eq_some_iff] at hr ⊢
    obtain ⟨r', h1, h2⟩ := hr
    exact ⟨r', h _ _ _ _ h1, h2⟩
   ·cases hr
  ·cases hr
 ·split at hr
  ·simp only [Option.map_eq_some_iff] at hr ⊢
   obtain ⟨r', h1, h2⟩ := hr
   exact ⟨r', h _ _ _ _ h1, h2⟩
  ·cases hr
theorem runCall_le (h : CallLe a b) {H : Heap} {f : Nat} {args : List PV} {r : PV × Heap} (hr : runCall a H f args = some r) : runCall b H f args = some r := by
 unfold runCall at hr ⊢
 split at hr
 ·rename_i hro
  rw [if_pos hro]
  unfold roCall at hr ⊢
  split at hr
  ·split at hr
   ·rename_i h1 h2 h3
    simp only [runCall0_le h h1, h2, h3]
    exact hr
   ·cases hr
  ·cases hr
 ·rename_i hro
  rw [if_neg hro]
  exact runCall0_le h hr
theorem runGo_le (h : CallLe a b) {ev : Opd → PV} {H : Heap} {id st : Nat} {k : K} {r : PV × Heap} (hr : runGo a ev H id st k = some r) : runGo b ev H id st k = some r := by
 cases k with
 |call f as => exact runCall_le h hr
 |callv f as =>
  simp only [runGo] at hr ⊢
  split at hr
  ·exact runCall_le h hr
  ·cases hr
 |_ => exact hr
theorem runOp_le (h : CallLe a b) {i : Nat} {o : XO} {s s' : St} (hr : runOp a G i o s = some s') : runOp b G i o s = some s' := by
 unfold runOp at hr ⊢
 split at hr
 ·simp only [Option.map_eq_some_iff] at hr ⊢
  obtain ⟨r, h1, h2⟩ := hr
  exact ⟨r, runGo_le h h1, h2⟩
 ·split at hr
  ·split at hr
   ·rename_i hb
    rw [if_pos hb]
    simp only [Option.map_eq_some_iff] at hr ⊢
    obtain ⟨r, h1, h2⟩ := hr
    exact ⟨r, runGo_le h h1, h2⟩
   ·rename_i hb; rw [if_neg hb]; exact hr
  ·exact hr
  ·cases hr
theorem runOps_le (h : CallLe a b) : ∀ (os : List XO) (i : Nat) (s s' : St), runOps a G i os s = some s' → runOps b G i os s = some s' := by
 intro os
 induction os with
 |nil => intro i s s' hr; exact hr
 |cons o os ih =>
  intro i s s' hr
  simp only [runOps, Option.bind_eq_some_iff] at hr ⊢
  obtain ⟨s1, h1, h2⟩ := hr
  exact ⟨s1, runOp_le h h1, ih _ _ _ h2⟩
theorem runFeet_le (h : CallLe a b) : ∀ (os : List XO) (i : Nat) (s : St) (r), runFeet a G i os s = some r → runFeet b G i os s = some r := by
 intro os
 induction os with
 |nil => intro i s r hr; exact hr
 |cons o os ih =>
  intro i s r hr
  simp only [runFeet] at hr ⊢
  split at hr
  ·rename_i s1 h1
   simp only [runOp_le h h1]
   simp only [Option.map_eq_some_iff] at hr ⊢
   obtain ⟨r', h1, h2⟩ := hr
   exact ⟨r', ih _ _ _ h1, h2⟩
  ·cases hr
theorem runD_le (h : CallLe a b) {os : List XO} {ps : List (Nat × Nat)} {s s' : St} (hr : runD a G os ps s = some s') : runD b G os ps s = some s' := by
 unfold runD at hr ⊢
 split at hr
 ·rename_i s1 ft h1
  simp only [runFeet_le h _ _ _ _ h1]
  exact hr
 ·cases hr
theorem rounds_le {f g : St → Option (Ex × St)} (hfg : ∀ s r, f s = some r → g s = some r) : ∀ (n m : Nat) (s : St) (r), n ≤ m → rounds f n s = some r → rounds g m s = some r := by
 intro n
 induction n with
 |zero => intro m s r _ h; cases h
 |succ n ih =>
  intro m s r hm h
  obtain ⟨m, rfl⟩ : ∃ k, m = k + 1 := ⟨m - 1, by omega⟩
  simp only [rounds, Option.bind_eq_some_iff] at h ⊢
  obtain ⟨⟨e, s1⟩, h1, h2⟩ := h
  refine ⟨(e, s1), hfg _ _ h1, ?_⟩
  cases e with
  |normal => exact ih m s1 r (by omega) h2
  |_ => exact h2
mutual
theorem runC_le (h : CallLe a b) {n m : Nat} (hnm : n ≤ m) : ∀ (c : XC) (s : St) (r), runC a G n c s = some r → runC b G m c s = some r
 |.reg ops, s, r, hr => by
  simp only [runC, Option.map_eq_some_iff] at hr ⊢
  obtain ⟨s1, h1, h2⟩ := hr
  exact ⟨s1, runOps_le h _ _ _ _ h1, h2⟩
 |.dreg ops ps, s, r, hr => by
  simp only [runC, Option.map_eq_some_iff] at hr ⊢
  obtain ⟨s1, h1, h2⟩ := hr
  exact ⟨s1, runD_le h h1, h2⟩
 |.cond c x y, s, r, hr => by
  simp only [runC] at hr ⊢
  split at hr
  ·rename_i t ht
   cases t with
   |true => exact runL_le h hnm x s r hr
   |false => exact runL_le h hnm y s r hr
  ·cases hr
 |.block id x, s, r, hr => by
  simp only [runC, Option.map_eq_some_iff] at hr ⊢
  obtain ⟨s1, h1, h2⟩ := hr
  exact ⟨s1, runL_le h hnm x _ _ h1, h2⟩
 |.loop x, s, r, hr => by
  simp only [runC] at hr ⊢
  exact rounds_le (fun s r => runL_le h hnm x s r) n m s r hnm hr
 |.exit id, s, r, hr => hr
 |.ret, s, r, hr => hr
theorem runL_le (h : CallLe a b) {n m : Nat} (hnm : n ≤ m) : ∀ (c : List XC) (s : St) (r), runL a G n c s = some r → runL b G m c s = some r
 |[], s, r, hr => hr
 |c :: cs, s, r, hr => by
  simp only [runL, Option.bind_eq_some_iff] at hr ⊢
  obtain ⟨⟨e, s1⟩, h1, h2⟩ := hr
  refine ⟨(e, s1), runC_le h hnm c s _ h1, ?_⟩
  cases e with
  |normal => exact runL_le h hnm cs s1 r h2
  |exit id => exact h2
  |ret => exact h2
end
theorem runF_le (h : CallLe a b) {n m : Nat} (hnm : n ≤ m) {fx : FX} {args : List PV} {ch : Option Chunk} {r : PV × List PV} (hr : runF a G n fx args ch = some r) : runF b G m fx args ch = some r := by
 unfold runF at hr ⊢
 split at hr
 ·rename_i hl
  rw [if_pos hl]
  split at hr
  ·rename_i e s hb
   rw [runL_le h hnm _ _ _ hb]
   exact hr
  ·cases hr
 ·cases hr
end
theorem callX_le {T : Nat → Option FX} {X : CallF} {G : Nat → PV} : ∀ (n m : Nat), n ≤ m → CallLe (callX T X G n) (callX T X G m) := by
 intro n
 induction n with
 |zero => intro m _ f args ch r h; cases h
 |succ n ih =>
  intro m hm f args ch r h
  obtain ⟨m, rfl⟩ : ∃ k, m = k + 1 := ⟨m - 1, by omega⟩
  simp only [callX] at h ⊢
  split at h
  ·exact runF_le (ih m (by omega)) (by omega) h
  ·exact h
end Go.Pi
end
section
namespace Go.Pi
open Go.RowKit
abbrev Trk := Option (List (List Nat × List Nat) × List (Nat × Nat))
def push (tr : Trk) (f : List Nat × List Nat) : Trk :=
 match tr with
 |none => none
 |some p => some (p.1 ++ [f], p.2)
def pushs (tr : Trk) (f : List (List Nat × List Nat)) : Trk :=
 match tr with
 |none => none
 |some p => some (p.1 ++ f, p.2)
def closeOk : Trk → Bool
 |none => true
 |some p => feetOk p.1 p.2
theorem pushs_cons {tr : Trk} {f : List Nat × List Nat} {fs : List (List Nat × List Nat)} : pushs (push tr f) fs = pushs tr (f :: fs) := by
 cases tr <;> simp [push, pushs]
theorem feet_ops {callF : CallF} {G : Nat → PV} : ∀ (os : List XO) (i : Nat) (s : St), (runFeet callF G i os s).map (·.1) = runOps callF G i os s := by
 intro os
 induction os with
 |nil => intro i s; rfl
 |cons o os ih =>
  intro i s
  simp only [runFeet, runOps]
  cases h : runOp callF G i o s with
  |none => rfl
  |some s1 =>
   simp only [Option.bind_some, ← ih (i + 1) s1]
   cases runFeet callF G (i + 1) os s1 <;> rfl
inductive Wk where
 |code (c : XC)
 |ops (i : Nat) (os : List XO) (len : Nat) (tr : Trk)
 |endB (id : Nat)
 |endL (body : List XC)
section
variable (T : Nat → Option FX) (X : CallF) (G : Nat → PV)
def Fn (f : Nat) (args : List PV) (ch : Option Chunk) (r : PV) (cells : List PV) : Prop := ∃ n, callX T X G n f args ch = some (r, cells)
def RC (c : XC) (s : St) (K : Ex → St → Prop) : Prop := ∃ n e s', runC (callX T X G n) G n c s = some (e, s') ∧ K e s'
def RL (c : List XC) (s : St) (K : Ex → St → Prop) : Prop := ∃ n e s', runL (callX T X G n) G n c s = some (e, s') ∧ K e s'
def RO (i : Nat) (os : List XO) (tr : Trk) (s : St) (K : St → Prop) : Prop := ∃ n s' ft, runFeet (callX T X G n) G i os s = some (s', ft) ∧ closeOk (pushs tr ft) = true ∧ K s'
def aft (Q : Ex → St → Prop) : List Wk → Ex → St → Prop
 |[], e, s => Q e s
 |.code c :: w, .normal, s => RC T X G c s (aft Q w)
 |.code _ :: w, e, s => aft Q w e s
 |.ops i os len tr :: w, .normal, s => RO T X G i os tr s fun s' => aft Q w .normal ⟨s'.t, s'.H, s'.n + len⟩
 |.ops _ _ _ _ :: w, e, s => aft Q w e s
 |.endB id :: w, .exit j, s => if j = id then aft Q w .normal s else aft Q w (.exit j) s
 |.endB _ :: w, e, s => aft Q w e s
 |.endL b :: w, .normal, s => RC T X G (.loop b) s (aft Q w)
 |.endL _ :: w, e, s => aft Q w e s
def M (w : List Wk) (s : St) (Q : Ex → St → Prop) : Prop := aft T X G Q w .normal s
end
section
variable {T : Nat → Option FX} {X : CallF} {G : Nat → PV} {Q : Ex → St → Prop} {w : List Wk} {s : St}
theorem aft_codes (b : List XC) (e : Ex) (he : e ≠ .normal) : aft T X G Q (b.map .code ++ w) e s ↔ aft T X G Q w e s := by
 induction b with
 |nil => exact Iff.rfl
 |cons c cs ih => cases e with
  |normal => exact absurd rfl he
  |exit id => simpa [aft] using ih
  |ret => simpa [aft] using ih
theorem runC_up {n m : Nat} (h : n ≤ m) {c : XC} {s : St} {r} (hr : runC (callX T X G n) G n c s = some r) : runC (callX T X G m) G m c s = some r := runC_le (callX_le n m h) h c s r hr
theorem runL_up {n m : Nat} (h : n ≤ m) {c : List XC} {s : St} {r} (hr : runL (callX T X G n) G n c s = some r) : runL (callX T X G m) G m c s = some r := runL_le (callX_le n m h) h c s r hr
theorem M_codes (b : List XC) : ∀ s, M T X G (b.map .code ++ w) s Q ↔ RL T X G b s (aft T X G Q w) := by
 induction b with
 |nil =>
  intro s
  constructor
  ·intro h; exact ⟨0, .normal, s, rfl, h⟩
  ·rintro ⟨n, e, s', h, hk⟩
   simp only [runL, Option.some.injEq, Prod.mk.injEq] at h
   obtain ⟨rfl, rfl⟩ := h
   exact hk
 |cons c cs ih =>
  intro s
  constructor
  ·rintro ⟨n, e, s1, h1, hk⟩
   cases e with
   |normal =>
    obtain ⟨m, e2, s2, h2, hk2⟩ := (ih s1).1 hk
    refine ⟨max n m, e2, s2, ?_, hk2⟩
    simp only [runL, Option.bind_eq_some_iff]
    exact ⟨_, runC_up (Nat.le_max_left _ _) h1, runL_up (Nat.le_max_right _ _) h2⟩
   |exit id =>
    refine ⟨n, .exit id, s1, ?_, (aft_codes cs _ (by simp)).1 hk⟩
    simp only [runL, Option.bind_eq_some_iff]
    exact ⟨_, h1, rfl⟩
   |ret =>
    refine ⟨n, .ret, s1, ?_, (aft_codes cs _ (by simp)).1 hk⟩
    simp only [runL, Option.bind_eq_some_iff]
    exact ⟨_, h1, rfl⟩
  ·rintro ⟨n, e, s1, h1, hk⟩
   simp only [runL, Option.bind_eq_some_iff] at h1
   obtain ⟨⟨e0, s0⟩, h0, h2⟩ := h1
   refine ⟨n, e0, s0, h0, ?_⟩
   cases e0 with
   |normal => exact (ih s0).2 ⟨n, e, s1, h2, hk⟩
   |exit id =>
    simp only [Option.some.injEq, Prod.mk.injEq] at h2
    obtain ⟨rfl, rfl⟩ := h2
    exact (aft_codes cs _ (by simp)).2 hk
   |ret =>
    simp only [Option.some.injEq, Prod.mk.injEq] at h2
    obtain ⟨rfl, rfl⟩ := h2
    exact (aft_codes cs _ (by simp)).2 hk
theorem M_nil : M T X G [] s Q ↔ Q .normal s := Iff.rfl
def MB (T : Nat → Option FX) (X : CallF) (G : Nat → PV) (v : PV) (a b : List XC) (w : List Wk) (s : St) (Q : Ex → St → Prop) : Prop :=
 match v with
 |.bool v => if v = true then M T X G (a.map .code ++ w) s Q else M T X G (b.map .code ++ w) s Q
 |_ => False
theorem MB_bool {v : Bool} {a b : List XC} : MB T X G (.bool v) a b w s Q ↔ if v = true then M T X G (a.map .code ++ w) s Q else M T X G (b.map .code ++ w) s Q := Iff.rfl
theorem M_cond {c : Opd} {a b : List XC} {t : Nat → PV} {H : Heap} {n : Nat} : M T X G (.code (.cond c a b) :: w) ⟨t, H, n⟩ Q ↔ MB T X G (ev G t c) a b w ⟨t, H, n⟩ Q := by
 constructor
 ·rintro ⟨m, e, s1, h, hk⟩
  simp only [runC] at h
  split at h
  ·rename_i v hv
   rw [hv, MB_bool]
   cases v with
   |true => simp only [if_true] at h ⊢; exact (M_codes a _).2 ⟨m, e, s1, h, hk⟩
   |false => simp only [Bool.false_eq_true, if_false] at h ⊢; exact (M_codes b _).2 ⟨m, e, s1, h, hk⟩
  ·cases h
 ·intro h
  unfold MB at h
  split at h
  ·rename_i v hv
   cases v with
   |true =>
    simp only [if_true] at h
    obtain ⟨m, e, s1, h1, hk⟩ := (M_codes a _).1 h
    exact ⟨m, e, s1, by simp only [runC, hv, if_true]; exact h1, hk⟩
   |false =>
    simp only [Bool.false_eq_true, if_false] at h
    obtain ⟨m, e, s1, h1, hk⟩ := (M_codes b _).1 h
    exact ⟨m, e, s1, by simp only [runC, hv, Bool.false_eq_true, if_false]; exact h1, hk⟩
  ·exact h.elim
theorem M_block {id : Nat} {b : List XC} : M T X G (.code (.block id b) :: w) s Q ↔ M T X G (b.map .code ++ .endB id :: w) s Q := by
 rw [M_codes]
 constructor
 ·rintro ⟨m, e, s1, h, hk⟩
  simp only [runC, Option.map_eq_some_iff] at h
  obtain ⟨⟨e0, s0⟩, h0, h2⟩ := h
  refine ⟨m, e0, s0, h0, ?_⟩
  cases e0 with
  |normal => simp only [Prod.mk.injEq] at h2; obtain ⟨rfl, rfl⟩ := h2; exact hk
  |exit j =>
   simp only at h2
   simp only [aft]
   split at h2
   ·rename_i hj; simp only [Prod.mk.injEq] at h2; obtain ⟨rfl, rfl⟩ := h2; rw [if_pos hj]; exact hk
   ·rename_i hj; simp only [Prod.mk.injEq] at h2; obtain ⟨rfl, rfl⟩ := h2; rw [if_neg hj]; exact hk
  |ret => simp only [Prod.mk.injEq] at h2; obtain ⟨rfl, rfl⟩ := h2; exact hk
 ·rintro ⟨m, e0, s0, h0, hk⟩
  cases e0 with
  |normal => exact ⟨m, .normal, s0, by simp only [runC, h0, Option.map_some], hk⟩
  |exit j =>
   simp only [aft] at hk
   by_cases hj : j = id
   ·rw [if_pos hj] at hk; exact ⟨m, .normal, s0, by simp only [runC, h0, Option.map_some, if_pos hj], hk⟩
   ·rw [if_neg hj] at hk; exact ⟨m, .exit j, s0, by simp only [runC, h0, Option.map_some, if_neg hj], hk⟩
  |ret => exact ⟨m, .ret, s0, by simp only [runC, h0, Option.map_some], hk⟩
theorem M_exit {id : Nat} : M T X G (.code (.exit id) :: w) s Q ↔ aft T X G Q w (.exit id) s := by
 constructor
 ·rintro ⟨m, e, s1, h, hk⟩
  simp only [runC, Option.some.injEq, Prod.mk.injEq] at h
  obtain ⟨rfl, rfl⟩ := h
  exact hk
 ·intro h; exact ⟨0, _, _, rfl, h⟩
theorem M_ret : M T X G (.code .ret :: w) s Q ↔ aft T X G Q w .ret s := by
 constructor
 ·rintro ⟨m, e, s1, h, hk⟩
  simp only [runC, Option.some.injEq, Prod.mk.injEq] at h
  obtain ⟨rfl, rfl⟩ := h
  exact hk
 ·intro h; exact ⟨0, _, _, rfl, h⟩
theorem aft_nil {e : Ex} : aft T X G Q [] e s ↔ Q e s := Iff.rfl
theorem aft_code_exit {c : XC} {j : Nat} : aft T X G Q (.code c :: w) (.exit j) s ↔ aft T X G Q w (.exit j) s := Iff.rfl
theorem aft_endB_exit {i j : Nat} : aft T X G Q (.endB i :: w) (.exit j) s ↔ if j = i then M T X G w s Q else aft T X G Q w (.exit j) s := Iff.rfl
theorem aft_endL_exit {b : List XC} {j : Nat} : aft T X G Q (.endL b :: w) (.exit j) s ↔ aft T X G Q w (.exit j) s := Iff.rfl
theorem M_endB {i : Nat} : M T X G (.endB i :: w) s Q ↔ M T X G w s Q := Iff.rfl
theorem M_endL {b : List XC} : M T X G (.endL b :: w) s Q ↔ M T X G (.code (.loop b) :: w) s Q := Iff.rfl
theorem M_round {b : List XC} (h : M T X G (b.map .code ++ .endL b :: w) s Q) : M T X G (.code (.loop b) :: w) s Q := by
 obtain ⟨n, e, s1, h1, hk⟩ := (M_codes b s).1 h
 cases e with
 |normal =>
  obtain ⟨m, e2, s2, h2, hk2⟩ := hk
  refine ⟨max n m + 1, e2, s2, ?_, hk2⟩
  simp only [runC] at h2 ⊢
  simp only [rounds, Option.bind_eq_some_iff]
  refine ⟨_, runL_up (by omega) h1, ?_⟩
  exact rounds_le (fun s r hr => runL_up (by omega) hr) _ _ _ _ (by omega) h2
 |exit id =>
  refine ⟨n + 1, .exit id, s1, ?_, hk⟩
  simp only [runC, rounds, Option.bind_eq_some_iff]
  exact ⟨_, runL_up (by omega) h1, rfl⟩
 |ret =>
  refine ⟨n + 1, .ret, s1, ?_, hk⟩
  simp only [runC, rounds, Option.bind_eq_some_iff]
  exact ⟨_, runL_up (by omega) h1, rfl⟩
theorem M_loop {b : List XC} (I : Nat → St → Prop) (round : ∀ n s1, I n s1 → (∀ m, m < n → ∀ s2, I m s2 → M T X G (.endL b :: w) s2 Q) → M T X G (b.map .code ++ .endL b :: w) s1 Q) {n : Nat} (h : I n s) : M T X G (.code (.loop b) :: w) s Q := by
 have key : ∀ n s, I n s → M T X G (.code (.loop b) :: w) s Q := by
  intro n
  induction n using Nat.strongRecOn with
  |_ n ih => intro s h; exact M_round (round n s h fun m hm s2 h2 => ih m hm s2 h2)
 exact key n s h
theorem pushs_nil {tr : Trk} : pushs tr [] = tr := by cases tr <;> simp [pushs]
theorem M_reg {ops : List XO} : M T X G (.code (.reg ops) :: w) s Q ↔ M T X G (.ops 0 ops ops.length none :: w) s Q := by
 constructor
 ·rintro ⟨m, e, s1, h, hk⟩
  simp only [runC, Option.map_eq_some_iff, Prod.mk.injEq, ← feet_ops] at h
  obtain ⟨s', ⟨r, h1, rfl⟩, rfl, rfl⟩ := h
  exact ⟨m, r.1, r.2, h1, rfl, hk⟩
 ·rintro ⟨m, s', ft, h1, _, hk⟩
  exact ⟨m, .normal, _, by simp only [runC, ← feet_ops, h1, Option.map_some], hk⟩
theorem M_dreg {ops : List XO} {ps : List (Nat × Nat)} : M T X G (.code (.dreg ops ps) :: w) s Q ↔ M T X G (.ops 0 ops ops.length (some ([], ps)) :: w) s Q := by
 constructor
 ·rintro ⟨m, e, s1, h, hk⟩
  simp only [runC, Option.map_eq_some_iff, Prod.mk.injEq, runD] at h
  obtain ⟨s', h1, rfl, rfl⟩ := h
  split at h1
  ·rename_i s2 ft h2
   split at h1
   ·rename_i h3
    simp only [Option.some.injEq] at h1
    subst h1
    exact ⟨m, s2, ft, h2, by simpa [closeOk, pushs] using h3, hk⟩
   ·cases h1
  ·cases h1
 ·rintro ⟨m, s', ft, h1, h2, hk⟩
  have h2 : feetOk ft ps = true := by simpa [closeOk, pushs] using h2
  exact ⟨m, .normal, _, by simp only [runC, runD, h1, h2, if_true, Option.map_some], hk⟩
theorem M_dreg_nil {ops : List XO} : M T X G (.code (.dreg ops []) :: w) s Q ↔ M T X G (.ops 0 ops ops.length none :: w) s Q := by
 rw [M_dreg]
 constructor
 ·rintro ⟨m, s', ft, h1, h2, hk⟩; exact ⟨m, s', ft, h1, rfl, hk⟩
 ·rintro ⟨m, s', ft, h1, h2, hk⟩; exact ⟨m, s', ft, h1, by simp [closeOk, pushs, feetOk], hk⟩
theorem M_ops_nil {i len : Nat} {tr : Trk} {t : Nat → PV} {H : Heap} {n : Nat} : M T X G (.ops i [] len tr :: w) ⟨t, H, n⟩ Q ↔ closeOk tr = true ∧ M T X G w ⟨t, H, n + len⟩ Q := by
 constructor
 ·rintro ⟨m, s', ft, h, hc, hk⟩
  simp only [runFeet, Option.some.injEq, Prod.mk.injEq] at h
  obtain ⟨rfl, rfl⟩ := h
  rw [pushs_nil] at hc
  exact ⟨hc, hk⟩
 ·rintro ⟨hc, h⟩; exact ⟨0, _, [], rfl, by rw [pushs_nil]; exact hc, h⟩
def MR (T : Nat → Option FX) (X : CallF) (G : Nat → PV) (r : Option (PV × Heap)) (d : Option Nat) (i : Nat) (os : List XO) (len : Nat) (tr : Trk) (w : List Wk) (t : Nat → PV) (n : Nat) (Q : Ex → St → Prop) : Prop :=
 match r with
 |some r => M T X G (.ops i os len tr :: w) ⟨put t d r.1, r.2, n⟩ Q
 |none => False
def MC (T : Nat → Option FX) (X : CallF) (G : Nat → PV) (f : Nat) (args : List PV) (d : Option Nat) (i : Nat) (os : List XO) (len : Nat) (tr : Trk) (w : List Wk) (t : Nat → PV) (H : Heap) (n : Nat) (Q : Ex → St → Prop) : Prop :=
 ∃ m r, runCall (callX T X G m) H f args = some r ∧ M T X G (.ops i os len tr :: w) ⟨put t d r.1, r.2, n⟩ Q
theorem MR_some {v : PV} {H : Heap} {d : Option Nat} {i : Nat} {os : List XO} {len n : Nat} {tr : Trk} {t : Nat → PV} : MR T X G (some (v, H)) d i os len tr w t n Q ↔ M T X G (.ops i os len tr :: w) ⟨put t d v, H, n⟩ Q := Iff.rfl
theorem M_ops_cons {i len : Nat} {tr : Trk} {o : XO} {os : List XO} : M T X G (.ops i (o :: os) len tr :: w) s Q ↔ ∃ m s1, runOp (callX T X G m) G i o s = some s1 ∧ M T X G (.ops (i + 1) os len (push tr (feetX G o s)) :: w) s1 Q := by
 constructor
 ·rintro ⟨m, s', ft, h, hc, hk⟩
  simp only [runFeet] at h
  split at h
  ·rename_i s1 h1
   simp only [Option.map_eq_some_iff, Prod.mk.injEq] at h
   obtain ⟨⟨s2, ft2⟩, h2, rfl, rfl⟩ := h
   exact ⟨m, s1, h1, m, s2, ft2, h2, by rw [pushs_cons]; exact hc, hk⟩
  ·cases h
 ·rintro ⟨m, s1, h1, m2, s', ft, h2, hc, hk⟩
  refine ⟨max m m2, s', feetX G o s :: ft, ?_, by rw [← pushs_cons]; exact hc, hk⟩
  simp only [runFeet, runOp_le (callX_le _ _ (Nat.le_max_left m m2)) h1, runFeet_le (callX_le _ _ (Nat.le_max_right m m2)) _ _ _ _ h2, Option.map_some]
def kGo : K → Bool
 |.call _ _ | .callv _ _ => true
 |_ => false
theorem M_op {i len id : Nat} {tr : Trk} {d : Option Nat} {k : K} {os : List XO} {t : Nat → PV} {H : Heap} {n : Nat} (hk : kGo k = false) : M T X G (.ops i (⟨d, none, id, k⟩ :: os) len tr :: w) ⟨t, H, n⟩ Q ↔ MR T X G (runK (ev G t) H id (n + i) k) d (i + 1) os len (push tr (feet (ev G t) H id k)) w t n Q := by
 have hgo : ∀ cf, runGo cf (ev G t) H id (n + i) k = runK (ev G t) H id (n + i) k := by intro cf; cases k <;> first | rfl | cases hk
 rw [M_ops_cons]
 constructor
 ·rintro ⟨m, s1, h, h2⟩
  simp only [runOp, hgo, Option.map_eq_some_iff] at h
  obtain ⟨⟨v, H'⟩, h, rfl⟩ := h
  rw [h]; exact h2
 ·intro h
  cases hr : runK (ev G t) H id (n + i) k with
  |none => rw [hr] at h; exact h.elim
  |some r =>
   rw [hr] at h
   exact ⟨0, _, by simp only [runOp, hgo, hr, Option.map_some], h⟩
theorem M_call {i len id f : Nat} {tr : Trk} {d : Option Nat} {as : List Opd} {os : List XO} {t : Nat → PV} {H : Heap} {n : Nat} : M T X G (.ops i (⟨d, none, id, .call f as⟩ :: os) len tr :: w) ⟨t, H, n⟩ Q ↔
  MC T X G f (as.map (ev G t)) d (i + 1) os len (push tr (feet (ev G t) H id (.call f as))) w t H n Q := by
 rw [M_ops_cons]
 constructor
 ·rintro ⟨m, s1, h, h2⟩
  simp only [runOp, runGo, Option.map_eq_some_iff] at h
  obtain ⟨r, h, rfl⟩ := h
  exact ⟨m, r, h, h2⟩
 ·rintro ⟨m, r, h, h2⟩
  exact ⟨m, _, by simp only [runOp, runGo, h, Option.map_some], h2⟩
def MG (T : Nat → Option FX) (X : CallF) (G : Nat → PV) (v : PV) (want : Bool) (o : XO) (i : Nat) (os : List XO) (len : Nat) (tr : Trk) (w : List Wk) (s : St) (Q : Ex → St → Prop) : Prop :=
 match v with
 |.bool b => if b = want then M T X G (.ops i (o :: os) len tr :: w) s Q else M T X G (.ops (i + 1) os len (push tr ([], [])) :: w) ⟨put s.t o.dst (.tup []), s.H, s.n⟩ Q
 |.tup _ => M T X G (.ops (i + 1) os len (push tr ([], [])) :: w) ⟨put s.t o.dst (.tup []), s.H, s.n⟩ Q
 |_ => False
theorem M_guard {i len id g : Nat} {tr : Trk} {want : Bool} {d : Option Nat} {k : K} {os : List XO} {t : Nat → PV} {H : Heap} {n : Nat} : M T X G (.ops i (⟨d, some (g, want), id, k⟩ :: os) len tr :: w) ⟨t, H, n⟩ Q ↔ MG T X G (t g) want ⟨d, none, id, k⟩ i os len tr w ⟨t, H, n⟩ Q := by
 unfold MG
 rw [M_ops_cons]
 split
 ·rename_i b hb
  split
  ·rename_i hbw
   rw [M_ops_cons]
   have e : feetX G ⟨d, some (g, want), id, k⟩ ⟨t, H, n⟩ = feetX G ⟨d, none, id, k⟩ ⟨t, H, n⟩ := by simp only [feetX, hb, if_pos hbw]
   rw [e]
   constructor
   ·rintro ⟨m, s1, h, h2⟩; exact ⟨m, s1, by simpa only [runOp, hb, if_pos hbw] using h, h2⟩
   ·rintro ⟨m, s1, h, h2⟩; exact ⟨m, s1, by simpa only [runOp, hb, if_pos hbw] using h, h2⟩
  ·rename_i hbw
   have e : feetX G ⟨d, some (g, want), id, k⟩ ⟨t, H, n⟩ = ([], []) := by simp only [feetX, hb, if_neg hbw]
   rw [e]
   constructor
   ·rintro ⟨m, s1, h, h2⟩
    simp only [runOp, hb, if_neg hbw, Option.some.injEq] at h
    subst h; exact h2
   ·intro h; exact ⟨0, _, by simp only [runOp, hb, if_neg hbw], h⟩
 ·rename_i l hb
  have e : feetX G ⟨d, some (g, want), id, k⟩ ⟨t, H, n⟩ = ([], []) := by simp only [feetX, hb]
  rw [e]
  constructor
  ·rintro ⟨m, s1, h, h2⟩
   simp only [runOp, hb, Option.some.injEq] at h
   subst h; exact h2
  ·intro h; exact ⟨0, _, by simp only [runOp, hb], h⟩
 ·rename_i h1 h2
  constructor
  ·rintro ⟨m, s1, h, _⟩
   unfold runOp at h
   simp only at h
   cases hg : t g with
   |bool b => exact (h1 b hg).elim
   |tup l => exact (h2 l hg).elim
   |_ => simp [hg] at h
  ·intro h; exact h.elim
theorem MC_none {f i len n : Nat} (hro : roF f = false) {tr : Trk} {d : Option Nat} {os : List XO} {t : Nat → PV} {H : Heap} {args ys : List PV} {ids : List Nat} (hne : ∀ b g rest, args ≠ .ptr b g 0 :: rest) (hs : settleL (settle depth H) args = some (ys, ids))
  (h : ∃ r cells, Fn T X G f ys none r cells ∧ M T X G (.ops i os len tr :: w) ⟨put t d r, H.drop ids, n⟩ Q) : MC T X G f args d i os len tr w t H n Q := by
 obtain ⟨r, cells, ⟨m, hm⟩, h⟩ := h
 refine ⟨m, (r, H.drop ids), ?_, h⟩
 unfold runCall
 rw [if_neg (by simp [hro])]
 unfold runCall0
 split
 ·rename_i b g rest; exact absurd rfl (hne b g rest)
 ·simp only [hs, hm, Option.map_some]
theorem MC_ptr {f i len n b g : Nat} (hro : roF f = false) {tr : Trk} {d : Option Nat} {os : List XO} {t : Nat → PV} {H : Heap} {rest ys : List PV} {ids : List Nat} {c : Chunk} (hb : H b = some c) (hg : c.gen = g) (hd : deepL c.cells = true) (hs : settleL (settle depth H) rest = some (ys, ids)) (hi : ids.contains b = false)
  (h : ∃ r cells, Fn T X G f (.ptr 0 0 0 :: ys) (some ⟨c.e, 0, c.cells, c.s⟩) r cells ∧ cells.length = c.cells.length ∧ M T X G (.ops i os len tr :: w) ⟨put t d r, (H.drop ids).put b (some ⟨c.e, c.gen, cells, c.s⟩), n⟩ Q) :
  MC T X G f (.ptr b g 0 :: rest) d i os len tr w t H n Q := by
 obtain ⟨r, cells, ⟨m, hm⟩, hl, h⟩ := h
 refine ⟨m, (r, (H.drop ids).put b (some ⟨c.e, c.gen, cells, c.s⟩)), ?_, h⟩
 unfold runCall
 rw [if_neg (by simp [hro])]
 simp only [runCall0, hb, hs, if_pos (⟨hg, hd, hi⟩ : c.gen = g ∧ deepL c.cells = true ∧ ids.contains b = false), hm, Option.bind_some, if_pos hl]
theorem MC_ro {f i len n b g : Nat} (hro : roF f = true) {tr : Trk} {d : Option Nat} {os : List XO} {t : Nat → PV} {H : Heap} {rest ys : List PV} {c : Chunk} (hb : H b = some c) (hg : c.gen = g) (hd : deepL c.cells = true) (hs : settleL (settle depth H) rest = some (ys, [])) (he : eqPVs c.cells c.cells = true)
  (h : ∃ r, Fn T X G f (.ptr 0 0 0 :: ys) (some ⟨c.e, 0, c.cells, c.s⟩) r c.cells ∧ M T X G (.ops i os len tr :: w) ⟨put t d r, H, n⟩ Q) :
  MC T X G f (.ptr b g 0 :: rest) d i os len tr w t H n Q := by
 obtain ⟨r, ⟨m, hm⟩, h⟩ := h
 refine ⟨m, (r, H), ?_, h⟩
 unfold runCall
 rw [if_pos hro]
 have h0 : runCall0 (callX T X G m) H f (.ptr b g 0 :: rest) = some (r, (H.drop []).put b (some ⟨c.e, c.gen, c.cells, c.s⟩)) := by
  simp only [runCall0, hb, hs, if_pos (⟨hg, hd, rfl⟩ : c.gen = g ∧ deepL c.cells = true ∧ [].contains b = false), hm, Option.bind_some, if_true]
 simp only [roCall, h0, hb, hs, Heap.put_same, if_pos he]
def FinL (R : PV → List PV → Prop) (x : Option (List PV × List Nat)) : Prop :=
 match x with
 |some (r :: cells, ids) => ids.contains 0 = false ∧ R r cells
 |_ => False
def FinS (res : List RV) (ch : Option Chunk) (R : PV → List PV → Prop) (s : St) : Prop :=
 match runRes s.t s.H res, chOk ch s.H with
 |some vs, some cs => FinL R (settleL (settle depth s.H) (resOf vs :: cs))
 |_, _ => False
theorem FinL_some {R : PV → List PV → Prop} {r : PV} {cells : List PV} {ids : List Nat} : FinL R (some (r :: cells, ids)) ↔ ids.contains 0 = false ∧ R r cells := Iff.rfl
theorem settleL_deep {f : PV → Option (PV × List Nat)} {xs : List PV} (h : deepL xs = true) : settleL f xs = some (xs, []) := by
 cases xs with
 |nil => rfl
 |cons x xs => simp only [settleL, h, if_true]
def Fin (res : List RV) (ch : Option Chunk) (R : PV → List PV → Prop) (e : Ex) (s : St) : Prop :=
 match e with
 |.exit _ => False
 |.normal => FinS res ch R s
 |.ret => FinS res ch R s
theorem Fin_ret {res : List RV} {ch : Option Chunk} {R : PV → List PV → Prop} : Fin res ch R .ret s ↔ FinS res ch R s := Iff.rfl
theorem Fin_normal {res : List RV} {ch : Option Chunk} {R : PV → List PV → Prop} : Fin res ch R .normal s ↔ FinS res ch R s := Iff.rfl
theorem Fn_of {f : Nat} {np N : Nat} {res : List RV} {body : List XC} (hT : T f = some ⟨np, N, res, body⟩) {args : List PV} {ch : Option Chunk} (hl : args.length ≤ N) {R : PV → List PV → Prop}
  (h : M T X G (body.map .code ++ []) ⟨fun i => args.getD i .undef, H0 ch, 1⟩ (Fin res ch R)) : ∃ r cells, Fn T X G f args ch r cells ∧ R r cells := by
 obtain ⟨m, e, s, hrun, hf⟩ := (M_codes body _).1 h
 have hf : Fin res ch R e s := hf
 have key : ∀ e, (∀ j, e ≠ .exit j) → runL (callX T X G m) G m body ⟨fun i => args.getD i .undef, H0 ch, 1⟩ = some (e, s) → FinS res ch R s → ∃ r cells, Fn T X G f args ch r cells ∧ R r cells := by
  intro e he hrun hf
  unfold FinS at hf
  split at hf
  ·rename_i vs cs h1 h2
   unfold FinL at hf
   split at hf
   ·rename_i r cells ids h3
    refine ⟨r, cells, ⟨m + 1, ?_⟩, hf.2⟩
    simp only [callX, hT, runF, if_pos hl, hrun]
    cases e with
    |exit j => exact absurd rfl (he j)
    |normal => simp only [h1, h2, h3, hf.1]; rfl
    |ret => simp only [h1, h2, h3, hf.1]; rfl
   ·exact hf.elim
  ·exact hf.elim
 cases e with
 |exit j => exact hf.elim
 |normal => exact key .normal (fun j h => by cases h) hrun hf
 |ret => exact key .ret (fun j h => by cases h) hrun hf
end
end Go.Pi
end
section
namespace Go.Pi
open Go.RowKit
section
variable {T : Nat → Option FX} {X : CallF} {G : Nat → PV} {Q : Ex → St → Prop} {w : List Wk}
variable {i len id n : Nat} {tr : Trk} {d : Option Nat} {os : List XO} {t : Nat → PV} {H : Heap}
theorem M_mv (x : Opd) : M T X G (.ops i (⟨d, none, id, .mv x⟩ :: os) len tr :: w) ⟨t, H, n⟩ Q ↔ MR T X G (runK (ev G t) H id (n + i) (.mv x)) d (i + 1) os len (push tr (feet (ev G t) H id (.mv x))) w t n Q := M_op rfl
theorem M_pick (c a b : Opd) : M T X G (.ops i (⟨d, none, id, .pick c a b⟩ :: os) len tr :: w) ⟨t, H, n⟩ Q ↔ MR T X G (runK (ev G t) H id (n + i) (.pick c a b)) d (i + 1) os len (push tr (feet (ev G t) H id (.pick c a b))) w t n Q := M_op rfl
theorem M_new (e : Nat) (z : List PV) : M T X G (.ops i (⟨d, none, id, .new e z⟩ :: os) len tr :: w) ⟨t, H, n⟩ Q ↔ MR T X G (runK (ev G t) H id (n + i) (.new e z)) d (i + 1) os len (push tr (feet (ev G t) H id (.new e z))) w t n Q := M_op rfl
theorem M_box (e m : Nat) (x : Opd) : M T X G (.ops i (⟨d, none, id, .box e m x⟩ :: os) len tr :: w) ⟨t, H, n⟩ Q ↔ MR T X G (runK (ev G t) H id (n + i) (.box e m x)) d (i + 1) os len (push tr (feet (ev G t) H id (.box e m x))) w t n Q := M_op rfl
theorem M_build (z : List PV) (ps : List (Nat × Nat × Opd)) : M T X G (.ops i (⟨d, none, id, .build z ps⟩ :: os) len tr :: w) ⟨t, H, n⟩ Q ↔ MR T X G (runK (ev G t) H id (n + i) (.build z ps)) d (i + 1) os len (push tr (feet (ev G t) H id (.build z ps))) w t n Q := M_op rfl
theorem M_bsl (e s l : Nat) (z : List PV) (ps : List (Nat × Nat × Opd)) : M T X G (.ops i (⟨d, none, id, .bsl e s l z ps⟩ :: os) len tr :: w) ⟨t, H, n⟩ Q ↔ MR T X G (runK (ev G t) H id (n + i) (.bsl e s l z ps)) d (i + 1) os len (push tr (feet (ev G t) H id (.bsl e s l z ps))) w t n Q := M_op rfl
theorem M_ld (ag : Bool) (m : Nat) (x : Opd) : M T X G (.ops i (⟨d, none, id, .ld ag m x⟩ :: os) len tr :: w) ⟨t, H, n⟩ Q ↔ MR T X G (runK (ev G t) H id (n + i) (.ld ag m x)) d (i + 1) os len (push tr (feet (ev G t) H id (.ld ag m x))) w t n Q := M_op rfl
theorem M_st (m : Nat) (x v : Opd) : M T X G (.ops i (⟨d, none, id, .st m x v⟩ :: os) len tr :: w) ⟨t, H, n⟩ Q ↔ MR T X G (runK (ev G t) H id (n + i) (.st m x v)) d (i + 1) os len (push tr (feet (ev G t) H id (.st m x v))) w t n Q := M_op rfl
theorem M_nilc (x : Opd) : M T X G (.ops i (⟨d, none, id, .nilc x⟩ :: os) len tr :: w) ⟨t, H, n⟩ Q ↔ MR T X G (runK (ev G t) H id (n + i) (.nilc x)) d (i + 1) os len (push tr (feet (ev G t) H id (.nilc x))) w t n Q := M_op rfl
theorem M_bin (op : BinOp) (x y : Opd) : M T X G (.ops i (⟨d, none, id, .bin op x y⟩ :: os) len tr :: w) ⟨t, H, n⟩ Q ↔ MR T X G (runK (ev G t) H id (n + i) (.bin op x y)) d (i + 1) os len (push tr (feet (ev G t) H id (.bin op x y))) w t n Q := M_op rfl
theorem M_binp (op : BinOp) (x y : Opd) : M T X G (.ops i (⟨d, none, id, .binp op x y⟩ :: os) len tr :: w) ⟨t, H, n⟩ Q ↔ MR T X G (runK (ev G t) H id (n + i) (.binp op x y)) d (i + 1) os len (push tr (feet (ev G t) H id (.binp op x y))) w t n Q := M_op rfl
theorem M_binb (op : BinOp) (x y : Opd) : M T X G (.ops i (⟨d, none, id, .binb op x y⟩ :: os) len tr :: w) ⟨t, H, n⟩ Q ↔ MR T X G (runK (ev G t) H id (n + i) (.binb op x y)) d (i + 1) os len (push tr (feet (ev G t) H id (.binb op x y))) w t n Q := M_op rfl
theorem M_un (op : UnOp) (x : Opd) : M T X G (.ops i (⟨d, none, id, .un op x⟩ :: os) len tr :: w) ⟨t, H, n⟩ Q ↔ MR T X G (runK (ev G t) H id (n + i) (.un op x)) d (i + 1) os len (push tr (feet (ev G t) H id (.un op x))) w t n Q := M_op rfl
theorem M_conv (k : IntKind) (x : Opd) : M T X G (.ops i (⟨d, none, id, .conv k x⟩ :: os) len tr :: w) ⟨t, H, n⟩ Q ↔ MR T X G (runK (ev G t) H id (n + i) (.conv k x)) d (i + 1) os len (push tr (feet (ev G t) H id (.conv k x))) w t n Q := M_op rfl
theorem M_cstr (x : Opd) : M T X G (.ops i (⟨d, none, id, .cstr x⟩ :: os) len tr :: w) ⟨t, H, n⟩ Q ↔ MR T X G (runK (ev G t) H id (n + i) (.cstr x)) d (i + 1) os len (push tr (feet (ev G t) H id (.cstr x))) w t n Q := M_op rfl
theorem M_cid (x : Opd) : M T X G (.ops i (⟨d, none, id, .cid x⟩ :: os) len tr :: w) ⟨t, H, n⟩ Q ↔ MR T X G (runK (ev G t) H id (n + i) (.cid x)) d (i + 1) os len (push tr (feet (ev G t) H id (.cid x))) w t n Q := M_op rfl
theorem M_mkif (ty : Nat) (x : Opd) : M T X G (.ops i (⟨d, none, id, .mkif ty x⟩ :: os) len tr :: w) ⟨t, H, n⟩ Q ↔ MR T X G (runK (ev G t) H id (n + i) (.mkif ty x)) d (i + 1) os len (push tr (feet (ev G t) H id (.mkif ty x))) w t n Q := M_op rfl
theorem M_mkfn (f : Go.Fn) (as bs : List Opd) : M T X G (.ops i (⟨d, none, id, .mkfn f as bs⟩ :: os) len tr :: w) ⟨t, H, n⟩ Q ↔ MR T X G (runK (ev G t) H id (n + i) (.mkfn f as bs)) d (i + 1) os len (push tr (feet (ev G t) H id (.mkfn f as bs))) w t n Q := M_op rfl
theorem M_mksl (e s b : Nat) (z : List PV) (l c : Opd) : M T X G (.ops i (⟨d, none, id, .mksl e s b z l c⟩ :: os) len tr :: w) ⟨t, H, n⟩ Q ↔ MR T X G (runK (ev G t) H id (n + i) (.mksl e s b z l c)) d (i + 1) os len (push tr (feet (ev G t) H id (.mksl e s b z l c))) w t n Q := M_op rfl
theorem M_sstr (x : Opd) (lo hi : Option Opd) : M T X G (.ops i (⟨d, none, id, .sstr x lo hi⟩ :: os) len tr :: w) ⟨t, H, n⟩ Q ↔ MR T X G (runK (ev G t) H id (n + i) (.sstr x lo hi)) d (i + 1) os len (push tr (feet (ev G t) H id (.sstr x lo hi))) w t n Q := M_op rfl
theorem M_ssl (s : Nat) (x : Opd) (lo hi : Option Opd) : M T X G (.ops i (⟨d, none, id, .ssl s x lo hi⟩ :: os) len tr :: w) ⟨t, H, n⟩ Q ↔ MR T X G (runK (ev G t) H id (n + i) (.ssl s x lo hi)) d (i + 1) os len (push tr (feet (ev G t) H id (.ssl s x lo hi))) w t n Q := M_op rfl
theorem M_fa (off : Nat) (x : Opd) : M T X G (.ops i (⟨d, none, id, .fa off x⟩ :: os) len tr :: w) ⟨t, H, n⟩ Q ↔ MR T X G (runK (ev G t) H id (n + i) (.fa off x)) d (i + 1) os len (push tr (feet (ev G t) H id (.fa off x))) w t n Q := M_op rfl
theorem M_ix (s : Nat) (x j : Opd) : M T X G (.ops i (⟨d, none, id, .ix s x j⟩ :: os) len tr :: w) ⟨t, H, n⟩ Q ↔ MR T X G (runK (ev G t) H id (n + i) (.ix s x j)) d (i + 1) os len (push tr (feet (ev G t) H id (.ix s x j))) w t n Q := M_op rfl
theorem M_sx (x j : Opd) : M T X G (.ops i (⟨d, none, id, .sx x j⟩ :: os) len tr :: w) ⟨t, H, n⟩ Q ↔ MR T X G (runK (ev G t) H id (n + i) (.sx x j)) d (i + 1) os len (push tr (feet (ev G t) H id (.sx x j))) w t n Q := M_op rfl
theorem M_ta (ty : Nat) (z : PV) (x : Opd) : M T X G (.ops i (⟨d, none, id, .ta ty z x⟩ :: os) len tr :: w) ⟨t, H, n⟩ Q ↔ MR T X G (runK (ev G t) H id (n + i) (.ta ty z x)) d (i + 1) os len (push tr (feet (ev G t) H id (.ta ty z x))) w t n Q := M_op rfl
theorem M_ext (x : Opd) (j : Nat) : M T X G (.ops i (⟨d, none, id, .ext x j⟩ :: os) len tr :: w) ⟨t, H, n⟩ Q ↔ MR T X G (runK (ev G t) H id (n + i) (.ext x j)) d (i + 1) os len (push tr (feet (ev G t) H id (.ext x j))) w t n Q := M_op rfl
theorem M_len (x : Opd) : M T X G (.ops i (⟨d, none, id, .len x⟩ :: os) len tr :: w) ⟨t, H, n⟩ Q ↔ MR T X G (runK (ev G t) H id (n + i) (.len x)) d (i + 1) os len (push tr (feet (ev G t) H id (.len x))) w t n Q := M_op rfl
theorem M_slen (x : Opd) : M T X G (.ops i (⟨d, none, id, .slen x⟩ :: os) len tr :: w) ⟨t, H, n⟩ Q ↔ MR T X G (runK (ev G t) H id (n + i) (.slen x)) d (i + 1) os len (push tr (feet (ev G t) H id (.slen x))) w t n Q := M_op rfl
theorem M_app (e s b : Nat) (y x : Opd) : M T X G (.ops i (⟨d, none, id, .app e s b y x⟩ :: os) len tr :: w) ⟨t, H, n⟩ Q ↔ MR T X G (runK (ev G t) H id (n + i) (.app e s b y x)) d (i + 1) os len (push tr (feet (ev G t) H id (.app e s b y x))) w t n Q := M_op rfl
theorem M_mx (x y : Opd) : M T X G (.ops i (⟨d, none, id, .mx x y⟩ :: os) len tr :: w) ⟨t, H, n⟩ Q ↔ MR T X G (runK (ev G t) H id (n + i) (.mx x y)) d (i + 1) os len (push tr (feet (ev G t) H id (.mx x y))) w t n Q := M_op rfl
theorem M_mn (x y : Opd) : M T X G (.ops i (⟨d, none, id, .mn x y⟩ :: os) len tr :: w) ⟨t, H, n⟩ Q ↔ MR T X G (runK (ev G t) H id (n + i) (.mn x y)) d (i + 1) os len (push tr (feet (ev G t) H id (.mn x y))) w t n Q := M_op rfl
theorem M_fbits (x : Opd) : M T X G (.ops i (⟨d, none, id, .fbits x⟩ :: os) len tr :: w) ⟨t, H, n⟩ Q ↔ MR T X G (runK (ev G t) H id (n + i) (.fbits x)) d (i + 1) os len (push tr (feet (ev G t) H id (.fbits x))) w t n Q := M_op rfl
theorem M_ffrom (x : Opd) : M T X G (.ops i (⟨d, none, id, .ffrom x⟩ :: os) len tr :: w) ⟨t, H, n⟩ Q ↔ MR T X G (runK (ev G t) H id (n + i) (.ffrom x)) d (i + 1) os len (push tr (feet (ev G t) H id (.ffrom x))) w t n Q := M_op rfl
theorem put_same {t : Nat → PV} {d : Nat} {v : PV} : put t (some d) v d = v := if_pos rfl
theorem put_other {t : Nat → PV} {d x : Nat} {v : PV} (h : x ≠ d) : put t (some d) v x = t x := if_neg h
end
end Go.Pi
end
section
namespace Go.Pi
open Go.RowKit
set_option maxRecDepth 10000 in
theorem settle_row {H : Heap} {b g len : Nat} {c : Chunk} (hb : H b = some c) (hg : c.gen = g) (hl : len * c.s ≤ c.cells.length) (hd : deepL (c.cells.take (len * c.s)) = true) :
  settle depth H (.row b g len) = some (.sl (group c.s len (c.cells.take (len * c.s))), [b]) := by
 show settle (29 + 1) H (.row b g len) = _
 simp only [settle, deepB, Bool.false_eq_true, if_false, hb, if_pos (⟨hg, hl⟩ : c.gen = g ∧ len * c.s ≤ c.cells.length), settleL_deep hd, Option.map_some]
theorem ix_sl {s : Nat} {xs : List (List PV)} {i : Nat} (hi : i < xs.length) (hs : xs[i].length = s) : ixRun s (.sl xs) (.int .i64 (i : Int)) = some (.fp xs[i], none) := by
 have h1 : asNat xs.length (.int .i64 (i : Int)) = some i := by
  simp only [asNat]
  rw [if_pos ⟨by omega, by omega⟩]
  rfl
 simp only [ixRun, h1, List.getElem?_eq_getElem hi, if_pos hs]
theorem group_flatten (s : Nat) : ∀ (ys : List (List PV)), (∀ y, y ∈ ys → y.length = s) → group s ys.length ys.flatten = ys := by
 intro ys h
 have hlen : ∀ (zs : List (List PV)), (∀ y, y ∈ zs → y.length = s) → zs.flatten.length = zs.length * s := by
  intro zs
  induction zs with
  |nil => intro _; simp
  |cons z zs ih => intro h; simp only [List.flatten_cons, List.length_append, List.length_cons, ih (fun y hy => h y (by simp [hy])), h z (by simp)]; rw [Nat.succ_mul]; omega
 apply List.ext_getElem
 ·simp [group]
 ·intro i h1 h2
  simp only [group, List.getElem_map, List.getElem_range]
  have key : ∀ (zs : List (List PV)) (i : Nat) (hi : i < zs.length), (∀ y, y ∈ zs → y.length = s) → (zs.flatten.drop (i * s)).take s = zs[i] := by
   intro zs
   induction zs with
   |nil => intro i hi; simp at hi
   |cons z zs ih =>
    intro i hi hz
    have hzl := hz z (by simp)
    cases i with
    |zero => simp [← hzl]
    |succ i =>
     have : (i + 1) * s = z.length + i * s := by rw [hzl, Nat.succ_mul]; omega
     rw [List.flatten_cons, this, ← List.drop_drop, List.drop_left]
     simpa using ih i (by simpa using hi) (fun y hy => hz y (by simp [hy]))
  exact key ys i h2 h
theorem flatten_len {s : Nat} {zs : List (List PV)} (h : ∀ y, y ∈ zs → y.length = s) : zs.flatten.length = zs.length * s := by
 induction zs with
 |nil => simp
 |cons z zs ih => simp only [List.flatten_cons, List.length_append, List.length_cons, ih (fun y hy => h y (by simp [hy])), h z (by simp)]; rw [Nat.succ_mul]; omega
theorem deepL_flatten {zs : List (List PV)} (h : ∀ y, y ∈ zs → deepL y = true) : deepL zs.flatten = true := by
 induction zs with
 |nil => rfl
 |cons z zs ih => rw [List.flatten_cons, deepL_append, h z (by simp), ih (fun y hy => h y (by simp [hy]))]; rfl
theorem settle_one {H : Heap} {b g e s : Nat} {c : List PV} (hb : H b = some ⟨e, g, c, s⟩) (hl : c.length = s) (hd : deepL c = true) : settle depth H (.row b g 1) = some (.sl [c], [b]) := by
 have e1 : c.take (1 * s) = c := List.take_of_length_le (by omega)
 rw [settle_row hb rfl (by show 1 * s ≤ c.length; omega) (by show deepL (c.take (1 * s)) = true; rw [e1]; exact hd)]
 show some (PV.sl (group s 1 (c.take (1 * s))), [b]) = _
 rw [e1]
 have : group s 1 c = [c] := by simp only [group, List.range_succ, List.range_zero, List.nil_append, List.map_cons, List.map_nil, Nat.zero_mul, List.drop_zero]; rw [List.take_of_length_le (by omega)]
 rw [this]
theorem wrap_i64 {n : Int} (h1 : -9223372036854775808 ≤ n) (h2 : n < 9223372036854775808) : IntKind.wrap .i64 n = n := by
 have e : IntKind.wrap .i64 n = if n % 18446744073709551616 ≥ 9223372036854775808 then n % 18446744073709551616 - 18446744073709551616 else n % 18446744073709551616 := by
  simp [IntKind.wrap, IntKind.signed, IntKind.bits]
 rw [e]
 split <;> omega
theorem put_none {t : Nat → PV} {v : PV} : put t none v = t := rfl
def Grow (A : List Nat) (H : Heap) (e s : Nat) (v : PV) (ys : List (List PV)) : Prop :=
 (∀ y, y ∈ ys → y.length = s ∧ deepL y = true) ∧ ((ys = [] ∧ v = .nils) ∨ ∃ id st, id ∈ A ∧ v = .row id st ys.length ∧ H id = some ⟨e, st, ys.flatten, s⟩)
theorem Grow.nil {A : List Nat} {H : Heap} {e s : Nat} : Grow A H e s .nils [] := ⟨fun y hy => absurd hy (by simp), .inl ⟨rfl, rfl⟩⟩
theorem Grow.frame {A : List Nat} {H H' : Heap} {e s : Nat} {v : PV} {ys : List (List PV)} (h : Grow A H e s v ys) (hA : ∀ b, b ∈ A → H' b = H b) : Grow A H' e s v ys :=
 ⟨h.1, h.2.imp id fun ⟨b, st, h1, h2, h3⟩ => ⟨b, st, h1, h2, (hA b h1).trans h3⟩⟩
theorem Grow.settle {A : List Nat} {H : Heap} {e s : Nat} {v : PV} {ys : List (List PV)} (h : Grow A H e s v ys) : ∃ y ids, Go.Pi.settle depth H v = some (y, ids) ∧ (∀ b, b ∈ ids → b ∈ A) ∧ ((ys = [] ∧ y = .nils) ∨ y = .sl ys) ∧ deepB y = true := by
 rcases h.2 with ⟨rfl, rfl⟩ | ⟨id, st, hA, rfl, hH⟩
 ·exact ⟨.nils, [], rfl, fun b hb => (by cases hb), .inl ⟨rfl, rfl⟩, rfl⟩
 ·have hl := flatten_len (fun y hy => (h.1 y hy).1)
  have e1 : ys.flatten.take (ys.length * s) = ys.flatten := List.take_of_length_le (by omega)
  refine ⟨.sl ys, [id], ?_, fun b hb => ?_, .inr rfl, ?_⟩
  ·rw [settle_row hH rfl (by show ys.length * s ≤ ys.flatten.length; omega) (by rw [e1]; exact deepL_flatten fun y hy => (h.1 y hy).2)]
   show some (PV.sl (group s ys.length (ys.flatten.take (ys.length * s))), [id]) = _
   rw [e1, group_flatten s ys fun y hy => (h.1 y hy).1]
  ·simp only [List.mem_singleton] at hb; subst hb; exact hA
  ·simp only [deepB]; exact deepLL_of fun y hy => (h.1 y hy).2
section
variable {T : Nat → Option FX} {X : CallF} {G : Nat → PV} {Q : Ex → St → Prop} {w : List Wk}
theorem M_app_sl {A : List Nat} {i len id n e s b : Nat} {tr : Trk} {d : Option Nat} {os : List XO} {t : Nat → PV} {H : Heap} {y x : Opd} {ys zs : List (List PV)} {ids : List Nat}
  (hs : Go.Pi.settle depth H (ev G t x) = some (.sl zs, ids)) (hg : Grow A H e s (ev G t y) ys) (hid : id ∈ A) (hids : ∀ b, b ∈ ids → b ∉ A) (hz : ∀ z, z ∈ zs → z.length = s ∧ deepL z = true) (hne : zs ≠ []) (hB : (ys.length + zs.length) * b ≤ 140737488355328)
  (h : ∀ v H' tr', Grow A H' e s v (ys ++ zs) → (∀ c, c ∉ A → c ∉ ids → H' c = H c) → (tr = none → tr' = none) → M T X G (.ops (i + 1) os len tr' :: w) ⟨put t d v, H', n⟩ Q) : M T X G (.ops i (⟨d, none, id, .app e s b y x⟩ :: os) len tr :: w) ⟨t, H, n⟩ Q := by
 have hel : elemsOf (H.drop ids) s (.sl zs) = some (zs.length, zs.flatten) := by
  simp only [elemsOf]
  rw [if_pos]
  simp only [List.all_eq_true, beq_iff_eq]
  exact fun z hz' => (hz z hz').1
 have hn0 : zs.length ≠ 0 := fun h0 => hne (List.length_eq_zero_iff.1 h0)
 have hall : ∀ y, y ∈ ys ++ zs → y.length = s ∧ deepL y = true := by
  intro y hy
  rcases List.mem_append.1 hy with hy | hy
  ·exact hg.1 y hy
  ·exact hz y hy
 rw [M_app]
 rcases hg.2 with ⟨rfl, hv⟩ | ⟨c, st, hA, hv, hH⟩
 ·have ha : appRun (H.drop ids) id (n + i) e s b (ev G t y) (.sl zs) = some (.row id (n + i) zs.length, some (id, ⟨e, n + i, zs.flatten, s⟩)) := by
   simp only [appRun, hel, if_neg hn0, hv]
   rw [if_pos (by simpa using hB)]
  simp only [runK, hs, ha, Option.map_some, MR_some]
  refine h _ _ _ ⟨hall, .inr ⟨id, n + i, hid, by simp, by simp [Heap.upd, Heap.put_same]⟩⟩ (fun c hc hi => ?_) (fun ht => by subst ht; rfl)
  simp only [Heap.upd]
  rw [Heap.put_ne _ _ (fun e => hc (by rw [e]; exact hid))]
  simp only [Heap.drop, if_neg hi]
 ·have hl := flatten_len (fun y hy => (hg.1 y hy).1)
  have hd : (H.drop ids) c = some ⟨e, st, ys.flatten, s⟩ := by simp only [Heap.drop, if_neg (fun hi => hids c hi hA), hH]
  have e1 : ys.flatten.take (ys.length * s) = ys.flatten := List.take_of_length_le (by omega)
  have ha : appRun (H.drop ids) id (n + i) e s b (ev G t y) (.sl zs) = some (.row c (n + i) (ys.length + zs.length), some (c, ⟨e, n + i, ys.flatten ++ zs.flatten, s⟩)) := by
   simp only [appRun, hel, if_neg hn0, hv, hd, e1]
   rw [if_pos (by refine ⟨?_, ?_, ?_, ?_⟩ <;> first | trivial | omega)]
  simp only [runK, hs, ha, Option.map_some, MR_some]
  refine h _ _ _ ⟨hall, .inr ⟨c, n + i, hA, by simp, by simp [Heap.upd, Heap.put_same]⟩⟩ (fun c' hc hi => ?_) (fun ht => by subst ht; rfl)
  simp only [Heap.upd]
  rw [Heap.put_ne _ _ (fun e => hc (by rw [e]; exact hA))]
  simp only [Heap.drop, if_neg hi]
end
end Go.Pi
end
section
namespace Go.Pi
def els : PV → List (List PV)
 |.sl xs => xs
 |_ => []
def IsSl (v : PV) : Prop := v = .nils ∨ ∃ xs, v = .sl xs ∧ xs.length ≤ 1048576
theorem IsSl.nils : IsSl .nils := .inl rfl
theorem IsSl.sl {xs : List (List PV)} (h : xs.length ≤ 1048576) : IsSl (.sl xs) := .inr ⟨xs, rfl, h⟩
theorem IsSl.len {v : PV} (h : IsSl v) : (els v).length ≤ 1048576 := by
 rcases h with rfl | ⟨xs, rfl, h⟩
 ·simp [els]
 ·exact h
def IsF (v : PV) : Prop := ∃ n, v = .flt .f64 n ∧ n < 18446744073709551616
def Units (v : PV) : Prop := IsSl v ∧ ∀ x, x ∈ els v → ∃ n : Int, x = [.int .u16 n] ∧ 0 ≤ n ∧ n < 65536
mutual
inductive ExprC : List PV → Prop
 |mk (kind op ref chain flags : Int) (num str : PV) (text : ByteArray) (kids props parts fns classes : PV) (hn : IsF num) (hs : Units str) (ht : text.size ≤ 1048576)
   (lk : IsSl kids) (hk : ∀ x, x ∈ els kids → ExprC x) (lp : IsSl props) (hp : ∀ x, x ∈ els props → PropC x) (lq : IsSl parts) (hq : ∀ x, x ∈ els parts → PartC x)
   (lf : IsSl fns) (hf : ∀ x, x ∈ els fns → FuncC x) (lc : IsSl classes) (hc : ∀ x, x ∈ els classes → ClassC x)
   (hd : deepL [.int .i64 kind, .int .i64 op, .int .i64 ref, .int .i64 chain, .int .i64 flags, num, str, .str text, kids, props, parts, fns, classes] = true) :
   ExprC [.int .i64 kind, .int .i64 op, .int .i64 ref, .int .i64 chain, .int .i64 flags, num, str, .str text, kids, props, parts, fns, classes]
inductive PropC : List PV → Prop
 |mk (kind flags : Int) (key value : PV) (lk : IsSl key) (hk : ∀ x, x ∈ els key → ExprC x) (lv : IsSl value) (hv : ∀ x, x ∈ els value → ExprC x)
   (hd : deepL [.int .i64 kind, .int .i64 flags, key, value] = true) : PropC [.int .i64 kind, .int .i64 flags, key, value]
inductive PartC : List PV → Prop
 |mk (value str : PV) (text : ByteArray) (lv : IsSl value) (hv : ∀ x, x ∈ els value → ExprC x) (hs : Units str) (ht : text.size ≤ 1048576)
   (hd : deepL [value, str, .str text] = true) : PartC [value, str, .str text]
inductive BindC : List PV → Prop
 |mk (kind ref : Int) (items : PV) (rest : Bool) (li : IsSl items) (hi : ∀ x, x ∈ els items → ItemC x)
   (hd : deepL [.int .i64 kind, .int .i64 ref, items, .bool rest] = true) : BindC [.int .i64 kind, .int .i64 ref, items, .bool rest]
inductive ItemC : List PV → Prop
 |mk (flags : Int) (key dflt : PV) (b0 b1 b2 b3 : PV) (lk : IsSl key) (hk : ∀ x, x ∈ els key → ExprC x) (ld : IsSl dflt) (hdf : ∀ x, x ∈ els dflt → ExprC x) (hb : BindC [b0, b1, b2, b3])
   (hd : deepL [.int .i64 flags, key, dflt, b0, b1, b2, b3] = true) : ItemC [.int .i64 flags, key, dflt, b0, b1, b2, b3]
inductive ArgC : List PV → Prop
 |mk (b0 b1 b2 b3 dflt : PV) (hb : BindC [b0, b1, b2, b3]) (ld : IsSl dflt) (hdf : ∀ x, x ∈ els dflt → ExprC x)
   (hd : deepL [b0, b1, b2, b3, dflt] = true) : ArgC [b0, b1, b2, b3, dflt]
inductive FuncC : List PV → Prop
 |mk (name flags : Int) (args body : PV) (la : IsSl args) (ha : ∀ x, x ∈ els args → ArgC x) (lb : IsSl body) (hb : ∀ x, x ∈ els body → StmtC x)
   (hd : deepL [.int .i64 name, .int .i64 flags, args, body] = true) : FuncC [.int .i64 name, .int .i64 flags, args, body]
inductive MemberC : List PV → Prop
 |mk (kind flags : Int) (key value init block : PV) (lk : IsSl key) (hk : ∀ x, x ∈ els key → ExprC x) (lv : IsSl value) (hv : ∀ x, x ∈ els value → ExprC x) (li : IsSl init) (hi : ∀ x, x ∈ els init → ExprC x) (lb : IsSl block) (hb : ∀ x, x ∈ els block → StmtC x)
   (hd : deepL [.int .i64 kind, .int .i64 flags, key, value, init, block] = true) : MemberC [.int .i64 kind, .int .i64 flags, key, value, init, block]
inductive ClassC : List PV → Prop
 |mk (name : Int) (ext members : PV) (le : IsSl ext) (he : ∀ x, x ∈ els ext → ExprC x) (lm : IsSl members) (hm : ∀ x, x ∈ els members → MemberC x)
   (hd : deepL [.int .i64 name, ext, members] = true) : ClassC [.int .i64 name, ext, members]
inductive DeclC : List PV → Prop
 |mk (b0 b1 b2 b3 value : PV) (hb : BindC [b0, b1, b2, b3]) (lv : IsSl value) (hv : ∀ x, x ∈ els value → ExprC x)
   (hd : deepL [b0, b1, b2, b3, value] = true) : DeclC [b0, b1, b2, b3, value]
inductive CaseC : List PV → Prop
 |mk (value body : PV) (lv : IsSl value) (hv : ∀ x, x ∈ els value → ExprC x) (lb : IsSl body) (hb : ∀ x, x ∈ els body → StmtC x)
   (hd : deepL [value, body] = true) : CaseC [value, body]
inductive StmtC : List PV → Prop
 |mk (kind op ref flags : Int) (str exprs kids decls cases fns classes : PV) (hs : Units str) (le : IsSl exprs) (he : ∀ x, x ∈ els exprs → ExprC x) (lk : IsSl kids) (hk : ∀ x, x ∈ els kids → StmtC x)
   (ld : IsSl decls) (hdc : ∀ x, x ∈ els decls → DeclC x) (lc : IsSl cases) (hc : ∀ x, x ∈ els cases → CaseC x) (lf : IsSl fns) (hf : ∀ x, x ∈ els fns → FuncC x) (ll : IsSl classes) (hcl : ∀ x, x ∈ els classes → ClassC x)
   (hd : deepL [.int .i64 kind, .int .i64 op, .int .i64 ref, .int .i64 flags, str, exprs, kids, decls, cases, fns, classes] = true) :
   StmtC [.int .i64 kind, .int .i64 op, .int .i64 ref, .int .i64 flags, str, exprs, kids, decls, cases, fns, classes]
end
inductive Node : List PV → Prop
 |mk (k num at_ : Int) (text more : ByteArray) (kids : PV) (lk : kids = .nils ∨ ∃ xs, kids = .sl xs) (hk : ∀ x, x ∈ els kids → Node x) (hd : deepL [.int .i64 k, .str text, .str more, .int .u64 num, kids, .int .i64 at_] = true) :
   Node [.int .i64 k, .str text, .str more, .int .u64 num, kids, .int .i64 at_]
theorem Node.len {c : List PV} (h : Node c) : c.length = 6 := by cases h; rfl
theorem Node.deep {c : List PV} (h : Node c) : deepL c = true := by cases h; assumption
theorem els_lt {cells : List PV} {v : PV} {x : List PV} (hv : v ∈ cells) (hx : x ∈ els v) : SizeOf.sizeOf x < SizeOf.sizeOf cells := by
 have h1 := List.sizeOf_lt_of_mem hv
 cases v with
 |sl xs =>
  have h2 := List.sizeOf_lt_of_mem (show x ∈ xs from hx)
  simp only [PV.sl.sizeOf_spec] at h1
  omega
 |_ => cases hx
theorem ix_els {s i : Nat} {v : PV} (h : IsSl v) (hi : i < (els v).length) (hs : (els v)[i].length = s) : ixRun s v (.int .i64 (i : Int)) = some (.fp (els v)[i], none) := by
 rcases h with rfl | ⟨xs, rfl, _⟩
 ·simp [els] at hi
 ·exact ix_sl hi hs
end Go.Pi
end
section
namespace Go.Pi
open Go.RowKit
section
variable {T : Nat → Option FX} {X : CallF} {G : Nat → PV} {Q : Ex → St → Prop} {w : List Wk}
variable {i len id n : Nat} {tr : Trk} {d : Option Nat} {os : List XO} {t : Nat → PV} {H : Heap}
theorem M_len_els {x : Opd} (h : IsSl (ev G t x)) : M T X G (.ops i (⟨d, none, id, .len x⟩ :: os) len tr :: w) ⟨t, H, n⟩ Q ↔
  M T X G (.ops (i + 1) os len (push tr ([], [])) :: w) ⟨put t d (.int .i64 ((els (ev G t x)).length : Int)), H, n⟩ Q := by
 rw [M_len]
 have e : runK (ev G t) H id (n + i) (.len x) = some (.int .i64 ((els (ev G t x)).length : Int), H) := by
  rcases h with h | ⟨xs, h, _⟩ <;> simp only [runK, opRun, h, els, Option.map_some, Heap.upd] <;> rfl
 rw [e, MR_some]
 rfl
theorem MB_t {a b : List XC} {s : St} : MB T X G (.bool true) a b w s Q ↔ M T X G (a.map .code ++ w) s Q := by simp [MB]
theorem MB_f {a b : List XC} {s : St} : MB T X G (.bool false) a b w s Q ↔ M T X G (b.map .code ++ w) s Q := by simp [MB]
theorem MB_split {c : Bool} {a b : List XC} {s : St} (h1 : c = true → M T X G (a.map .code ++ w) s Q) (h2 : c = false → M T X G (b.map .code ++ w) s Q) : MB T X G (.bool c) a b w s Q := by
 cases c
 ·exact MB_f.2 (h2 rfl)
 ·exact MB_t.2 (h1 rfl)
theorem MG_tt {o : XO} {s : St} : MG T X G (.bool true) true o i os len tr w s Q ↔ M T X G (.ops i (o :: os) len tr :: w) s Q := by simp [MG]
theorem MG_ff {o : XO} {s : St} : MG T X G (.bool false) false o i os len tr w s Q ↔ M T X G (.ops i (o :: os) len tr :: w) s Q := by simp [MG]
theorem MG_tf {o : XO} {s : St} : MG T X G (.bool true) false o i os len tr w s Q ↔ M T X G (.ops (i + 1) os len (push tr ([], [])) :: w) ⟨put s.t o.dst (.tup []), s.H, s.n⟩ Q := by simp [MG]
theorem MG_ft {o : XO} {s : St} : MG T X G (.bool false) true o i os len tr w s Q ↔ M T X G (.ops (i + 1) os len (push tr ([], [])) :: w) ⟨put s.t o.dst (.tup []), s.H, s.n⟩ Q := by simp [MG]
theorem MG_tup {l : List PV} {want : Bool} {o : XO} {s : St} : MG T X G (.tup l) want o i os len tr w s Q ↔ M T X G (.ops (i + 1) os len (push tr ([], [])) :: w) ⟨put s.t o.dst (.tup []), s.H, s.n⟩ Q := Iff.rfl
theorem MG_split {c want : Bool} {o : XO} {s : St} (h1 : c = true → MG T X G (.bool true) want o i os len tr w s Q) (h2 : c = false → MG T X G (.bool false) want o i os len tr w s Q) : MG T X G (.bool c) want o i os len tr w s Q := by
 cases c
 ·exact h2 rfl
 ·exact h1 rfl
theorem drop_none (H : Heap) : H.drop [] = H := by funext b; simp [Heap.drop]
theorem settle_deep {n : Nat} {H : Heap} {x : PV} (h : deepB x = true) : Go.Pi.settle n H x = some (x, []) := by cases n <;> simp only [Go.Pi.settle, h, if_true]
theorem settle_int {n : Nat} {H : Heap} {k : IntKind} {m : Int} : Go.Pi.settle n H (.int k m) = some (.int k m, []) := settle_deep rfl
theorem settle_bool {n : Nat} {H : Heap} {b : Bool} : Go.Pi.settle n H (.bool b) = some (.bool b, []) := settle_deep rfl
theorem settle_str {n : Nat} {H : Heap} {b : ByteArray} : Go.Pi.settle n H (.str b) = some (.str b, []) := settle_deep rfl
theorem settle_flt {n : Nat} {H : Heap} {k : FloatKind} {m : Nat} : Go.Pi.settle n H (.flt k m) = some (.flt k m, []) := settle_deep rfl
theorem settle_nan {n : Nat} {H : Heap} {k : FloatKind} : Go.Pi.settle n H (.nan k) = some (.nan k, []) := settle_deep rfl
theorem settle_nilp {n : Nat} {H : Heap}  : Go.Pi.settle n H (.nilp) = some (.nilp, []) := settle_deep rfl
theorem settle_nilf {n : Nat} {H : Heap}  : Go.Pi.settle n H (.nilf) = some (.nilf, []) := settle_deep rfl
theorem settle_nili {n : Nat} {H : Heap}  : Go.Pi.settle n H (.nili) = some (.nili, []) := settle_deep rfl
theorem settle_nils {n : Nat} {H : Heap}  : Go.Pi.settle n H (.nils) = some (.nils, []) := settle_deep rfl
theorem settle_undef {n : Nat} {H : Heap}  : Go.Pi.settle n H (.undef) = some (.undef, []) := settle_deep rfl
def zip2 (a : Option (PV × List Nat)) (b : Option (List PV × List Nat)) : Option (List PV × List Nat) :=
 match a, b with
 |some (y, i), some (ys, j) => some (y :: ys, i ++ j)
 |_, _ => none
theorem zip2_some {y : PV} {i : List Nat} {ys : List PV} {j : List Nat} : zip2 (some (y, i)) (some (ys, j)) = some (y :: ys, i ++ j) := rfl
theorem settleL_nil {f : PV → Option (PV × List Nat)} : settleL f [] = some ([], []) := rfl
theorem settleL_each {n : Nat} {H : Heap} {x : PV} {xs : List PV} : settleL (Go.Pi.settle n H) (x :: xs) = zip2 (Go.Pi.settle n H x) (settleL (Go.Pi.settle n H) xs) := by
 by_cases h : deepL (x :: xs) = true
 ·rw [settleL_deep h]
  simp only [deepL, Bool.and_eq_true] at h
  rw [settle_deep h.1, settleL_deep h.2]
  rfl
 ·simp only [settleL, if_neg h, zip2]
  cases Go.Pi.settle n H x with
  |none => rfl
  |some p => cases settleL (Go.Pi.settle n H) xs <;> rfl
theorem settle_aggN {n : Nat} {H : Heap} {cs : List PV} : Go.Pi.settle (n + 1) H (.agg cs) = (settleL (Go.Pi.settle n H) cs).map fun r => (.agg r.1, r.2) := by
 by_cases h : deepL cs = true
 ·rw [settle_deep (by simpa only [deepB] using h), settleL_deep h]; rfl
 ·rw [Go.Pi.settle]
  rw [if_neg (by simpa only [deepB] using h)]
theorem settle_tupN {n : Nat} {H : Heap} {cs : List PV} : Go.Pi.settle (n + 1) H (.tup cs) = (settleL (Go.Pi.settle n H) cs).map fun r => (.tup r.1, r.2) := by
 by_cases h : deepL cs = true
 ·rw [settle_deep (by simpa only [deepB] using h), settleL_deep h]; rfl
 ·rw [Go.Pi.settle]
  rw [if_neg (by simpa only [deepB] using h)]
theorem settle_rowN {n : Nat} {H : Heap} {b g len : Nat} {c : Chunk} (hb : H b = some c) (hg : c.gen = g) (hl : len * c.s ≤ c.cells.length) (hd : deepL (c.cells.take (len * c.s)) = true) :
  Go.Pi.settle (n + 1) H (.row b g len) = some (.sl (group c.s len (c.cells.take (len * c.s))), [b]) := by
 rw [Go.Pi.settle]
 simp only [deepB, Bool.false_eq_true, if_false, hb, if_pos (⟨hg, hl⟩ : c.gen = g ∧ len * c.s ≤ c.cells.length), settleL_deep hd, Option.map_some]
def settleRow (n : Nat) (H : Heap) (c : Option Chunk) (b g len : Nat) : Option (PV × List Nat) :=
 match c with
 |some c => if c.gen = g ∧ len * c.s ≤ c.cells.length then (settleL (Go.Pi.settle n H) (c.cells.take (len * c.s))).map fun r => (.sl (group c.s len r.1), b :: r.2) else none
 |none => none
theorem settle_rowE {n : Nat} {H : Heap} {b g len : Nat} : Go.Pi.settle (n + 1) H (.row b g len) = settleRow n H (H b) b g len := by
 rw [Go.Pi.settle]
 simp only [deepB, Bool.false_eq_true, if_false, settleRow]
 cases H b <;> rfl
theorem group_one {s : Nat} {cs : List PV} : group s 1 cs = [cs.take s] := by
 simp only [group, List.range_succ, List.range_zero, List.nil_append, List.map_cons, List.map_nil, Nat.zero_mul, List.drop_zero]
theorem group_two {s : Nat} {cs : List PV} : group s 2 cs = [cs.take s, (cs.drop s).take s] := by
 simp only [group, List.range_succ, List.range_zero, List.nil_append, List.cons_append, List.map_cons, List.map_nil, Nat.zero_mul, List.drop_zero, Nat.one_mul]
def Pure (T : Nat → Option FX) (X : CallF) (G : Nat → PV) (f : Nat) (args : List PV) (R : PV → Prop) : Prop := ∃ r cells, Fn T X G f args none r cells ∧ R r
theorem MC_pure {f : Nat} {args : List PV} {R : PV → Prop} (hM : Pure T X G f args R) (hne : ∀ b g rest, args ≠ .ptr b g 0 :: rest) (hd : deepL args = true)
  (k : ∀ r, R r → M T X G (.ops i os len tr :: w) ⟨put t d r, H, n⟩ Q) (hro : roF f = false := by rfl) : MC T X G f args d i os len tr w t H n Q := by
 obtain ⟨r, cells, h1, h2⟩ := hM
 refine MC_none hro hne (settleL_deep hd) ⟨r, cells, h1, ?_⟩
 rw [drop_none]
 exact k r h2
end
def NodesR (r : PV) : Prop := r = .nils ∨ ∃ xs, r = .sl xs ∧ ∀ x, x ∈ xs → Node x
theorem resOf_one {v : PV} : resOf [v] = v := rfl
theorem resOf_two {v u : PV} : resOf [v, u] = .tup [v, u] := rfl
theorem resOf_three {v u x : PV} : resOf [v, u, x] = .tup [v, u, x] := rfl
theorem cellsOf_int {k : IntKind} {n : Int} : cellsOf (.int k n) = some [.int k n] := rfl
theorem cellsOf_bool {b : Bool} : cellsOf (.bool b) = some [.bool b] := rfl
theorem cellsOf_str {b : ByteArray} : cellsOf (.str b) = some [.str b] := rfl
theorem cellsOf_flt {k : FloatKind} {n : Nat} : cellsOf (.flt k n) = some [.flt k n] := rfl
theorem cellsOf_nan {k : FloatKind} : cellsOf (.nan k) = some [.nan k] := rfl
theorem cellsOf_nilp : cellsOf .nilp = some [.nilp] := rfl
theorem cellsOf_nilf : cellsOf .nilf = some [.nilf] := rfl
theorem cellsOf_nili : cellsOf .nili = some [.nili] := rfl
theorem cellsOf_nils : cellsOf .nils = some [.nils] := rfl
theorem cellsOf_sl {xs : List (List PV)} : cellsOf (.sl xs) = some [.sl xs] := rfl
theorem cellsOf_fp {xs : List PV} : cellsOf (.fp xs) = some [.fp xs] := rfl
theorem cellsOf_ptr {b g o : Nat} : cellsOf (.ptr b g o) = some [.ptr b g o] := rfl
theorem cellsOf_row {b g l : Nat} : cellsOf (.row b g l) = some [.row b g l] := rfl
theorem cellsOf_ifc {t : Nat} {v : PV} : cellsOf (.ifc t v) = some [.ifc t v] := rfl
theorem cellsOf_clo {f : Go.Fn} {x y : List PV} : cellsOf (.clo f x y) = some [.clo f x y] := rfl
theorem cellsOf_agg {c : List PV} : cellsOf (.agg c) = some c := rfl
theorem NodesR.one {r : PV} (h : NodesR r) : cellsOf r = some [r] := by
 rcases h with rfl | ⟨xs, rfl, _⟩ <;> rfl
theorem IsSl.one {r : PV} (h : IsSl r) : cellsOf r = some [r] := by
 rcases h with rfl | ⟨xs, rfl, _⟩ <;> rfl
theorem NodesR.deep {r : PV} (h : NodesR r) : deepB r = true := by
 rcases h with rfl | ⟨xs, rfl, h⟩
 ·rfl
 ·simp only [deepB]; exact deepLL_of fun x hx => (h x hx).deep
theorem Node.of {k num at_ : Int} {text more : ByteArray} {kids : PV} (h : NodesR kids) : Node [.int .i64 k, .str text, .str more, .int .u64 num, kids, .int .i64 at_] := by
 refine .mk k num at_ text more kids ?_ ?_ ?_
 ·rcases h with rfl | ⟨xs, rfl, _⟩
  ·exact .inl rfl
  ·exact .inr ⟨xs, rfl⟩
 ·rcases h with rfl | ⟨xs, rfl, h⟩
  ·intro x hx; cases hx
  ·exact h
 ·simp only [deepL, deepB, h.deep, Bool.and_self]
set_option maxRecDepth 10000 in
theorem Grow.fin {A : List Nat} {H : Heap} {e s : Nat} {v : PV} {ys : List (List PV)} {b : Bool} {R : PV → List PV → Prop} (h : Grow A H e s v ys) (hA : 0 ∉ A) (hR : ∀ y, ((ys = [] ∧ y = .nils) ∨ y = .sl ys) → R y [.bool b]) :
  FinL R (settleL (Go.Pi.settle depth H) [v, .bool b]) := by
 obtain ⟨y, ids, hs, hi', hy, hd⟩ := h.settle
 have hL : settleL (Go.Pi.settle depth H) [v, .bool b] = some ([y, .bool b], ids) := by
  simp only [settleL]
  split
  ·rename_i hdd
   simp only [deepL, deepB, Bool.and_true] at hdd
   have : Go.Pi.settle depth H v = some (v, []) := by show Go.Pi.settle (29 + 1) H v = _; simp only [Go.Pi.settle, hdd, if_true]
   rw [this] at hs
   cases hs; rfl
  ·simp [hs, deepL, deepB]
 rw [hL, FinL_some]
 refine ⟨?_, hR y hy⟩
 have : 0 ∉ ids := fun h => hA (hi' 0 h)
 simpa using this
end Go.Pi
end
