import Derived.Deep.DeepHandedRow
import Derived.Lib.LaidTab
import Derived.OpenShut
import Derived.OpenVars
import Derived.ProofKit
import Derived.Test.YtpnkedaceaodbaaGreatDoorCards
import Derived.Test.YtpnkedaceaodbaaGreatDoorTie
import Derived.WalkKit
import Derived.Test.YtpnkedaceaodbaaGreatDoorP26
import Derived.Test.YtpnkedaceaodbaaGreatDoorP27
import Derived.Test.YtpnkedaceaodbaaGreatDoorP28
/- One part of the proof that ForEachIdentifierBindingInDecls tells the bound names in the order in which they stand; for slices up to the bound of the statement. -/
set_option linter.all false
set_option maxRecDepth 100000
section
namespace Go.Proofs.YtpnkedaceaodbaaGreatDoor
open Go Go.Pi Go.RowKit Go.ChangeShapes Go.WideShapes Go.ChangeAt
theorem wt_els (v : PV) : wtLL (els v) ≤ wt v := by cases v <;> simp [els, wt, wtLL]
theorem bn_wt {x : List PV} {l : List Int} (h : Bn x l) : l.length ≤ wtL x :=
 Bn.rec (motive_1 := fun x l _ => l.length ≤ wtL x) (motive_2 := fun xs l _ => l.length ≤ wtLL xs)
  (fun ref items rest => Nat.zero_le _)
  (fun ref items rest => by simp [wtL, wt])
  (fun kind ref items rest l hk hs ih => by have := wt_els items; simp only [wtL]; omega)
  (Nat.zero_le _)
  (fun flags key dflt b0 b1 b2 b3 xs l ls h hs ih ihs => by simp only [wtLL, wtL, List.length_append] at ih ihs ⊢; omega)
  h
theorem dns_wt {xs : List (List PV)} {l : List Int} (h : Dns xs l) : l.length ≤ wtLL xs := by
 induction h with
 |nil => exact Nat.zero_le _
 |cons b0 b1 b2 b3 v xs l ls h hs ih =>
  have := bn_wt h
  simp only [wtLL, wtL, List.length_append] at this ih ⊢
  omega
def dataTypes : List TypeId := [3, 4, 9, 22, 25, 27, 28, 30, 31, 32, 33, 34, 35, 37, 50, 51, 52, 54, 105, 119, 121, 123, 125, 142, 151, 157, 159, 163, 167]
theorem dataClosed : closedT Tryz.prog dataTypes = true := by kernel_rfl
def gV : Nat → PV := fun n => if n = 1 then .fp [.int .u32 4294967295, .int .u32 4294967295] else .undef
theorem gName : Tryz.prog.globalNamed "given.example/pub-frisket/pub/esbuild/inner/ast.InvalidRef" = some 1 := by kernel_rfl
theorem gvOk {W : World} (h0 : W.cell? ⟨1, 0, none⟩ = some (.int .u32 4294967295)) (h1 : W.cell? ⟨1, 1, none⟩ = some (.int .u32 4294967295)) : Gok W gV := by
 intro n E hE
 unfold gV
 by_cases e : n = 1
 ·subst e
  rw [if_pos rfl]
  refine .fp _ ⟨1, 0, none⟩ (fun _ => .int .u32 4294967295) (by intro c hc; simp at hc; rcases hc with rfl; rfl) (fun j hj => ?_) (fun j hj => ?_)
  ·match j, hj with
   |0, _ => exact hE _ _ h0
   |1, _ => exact hE _ _ h1
  ·match j, hj with
   |0, _ => exact .int _ _
   |1, _ => exact .int _ _
 ·rw [if_neg e]; exact .undef _
theorem lawCalls {W : World} (hG : Gok W gV) {v : PV} {v0 : Value} {m : Nat} (lv : SlP (DZ m) v) (hlen : ∀ l, Dns (els v) l → l.length ≤ 1048576) (hR : Rep ⟨fun _ _ => False, W.cell?, fun _ => 0, fun _ => 0, fun _ => none⟩ v v0) :
  Calls Tryz.prog 3 #[v0] W fun e W' => e = .returned (.bool true) ∧ Below W.heap.size W W' := by
 let E : Env := ⟨fun _ _ => False, W.cell?, fun _ => 0, fun _ => 0, fun _ => none⟩
 have hI : Inv Tryz.prog W E W := ⟨Below.refl _ _, fun _ _ h => h, fun _ _ h => h, fun b c h => by cases h⟩
 have hrel : Rel Tryz.prog W Tryz.f3.ntmps E W (UB 1 0) ⟨fun i => [v].getD i .undef, H0 none, 1⟩ { tmps := #[v0] ++ Array.replicate (Tryz.f3.ntmps - (#[v0] : Array Value).size) undef, defers := [] } W := by
  refine ⟨E, hI, by funext b; show none = H0 none b; simp [H0], fun x => ?_, by simp, rfl, fun b g h => h.elim, Ext.refl E W⟩
  cases x with
  |zero =>
   have e2 : ((#[v0] : Array Value) ++ Array.replicate (Tryz.f3.ntmps - (#[v0] : Array Value).size) undef).getD 0 undef = v0 := by
    simp [Array.getD_eq_getD_getElem?, Array.getElem?_append]
   show Rep E v _
   rw [e2]; exact hR
  |succ x => exact .undef _
 refine calls_of_wp (fn := Tryz.f3) (c := Tryz.f3.body.getD .skip) (by kernel_rfl) rfl (w3 (by kernel_rfl) hG (ga := 4294967295) (gb' := 4294967295) rfl lv hlen E W 1 _ W _ hrel ?_)
 rintro e s' a' w' ⟨rfl, ht⟩ ⟨E1, h⟩
 obtain ⟨z, hz1, hz2⟩ := run_results h.inv h.slots (fn := Tryz.f3) (xs := [.tmp 2]) (vs := [.bool true]) (by kernel_rfl) (by simp only [runRes, ht, Option.map_some])
 have hz3 : z = .bool true := by
  have : Rep E1 (.bool true) z := hz2
  cases this; rfl
 exact ⟨h.defers, z, hz1, by rw [hz3], h.inv.below⟩
theorem laidCells {W : World} (h : laidMetH Tryz.prog Rows.fnNamesOfRow.laid W) : W.cell? ⟨1, 0, none⟩ = some (.int .u32 4294967295) ∧ W.cell? ⟨1, 1, none⟩ = some (.int .u32 4294967295) := by
 have h' : laidMet Tryz.prog Rows.fnNamesOfRow.laid W := h
 obtain ⟨ps, ⟨g', t', cs, fuel, p, q, hg', ht', hvar, hd, _, _⟩, _⟩ := h'
 obtain rfl := Option.some.inj (gName.symm.trans hg')
 obtain rfl := Option.some.inj ((show (Tryz.prog.globals[1]?).map (·.type) = some 65 by kernel_rfl).symm.trans ht')
 have hcs : ∃ a b : Int, cs.toList = [.int .u32 a, .int .u32 b] ∧ a = 4294967295 ∧ b = 4294967295 := by
  obtain ⟨y0, y1, n, hx, hl, h0, h1⟩ := trod_struct2 (f0 := ⟨ "SourceIndex", 63, 0, false, "", "", 0⟩) (f1 := ⟨ "InnerIndex", 63, 1, false, "", "", 4⟩) (by kernel_rfl) hd
  have hl2 : cs.toList.length = 2 := hl.trans (by kernel_rfl)
  obtain ⟨c0, c1, hc⟩ : ∃ c0 c1, cs.toList = [c0, c1] := by match cs.toList, hl2 with | [c0, c1], _ => exact ⟨c0, c1, rfl⟩
  rw [hc] at h0 h1 ⊢
  have hc63 : Tryz.prog.cellsOf 63 = 1 := by kernel_rfl
  simp only [hc63, List.drop_zero, List.take_succ_cons, List.take_zero, List.drop_succ_cons] at h0 h1
  obtain ⟨a, ha, hy0, _⟩ := DataW.trod_int (k := .u32) (by kernel_rfl) h0
  obtain ⟨b, hb, hy1, _⟩ := DataW.trod_int (k := .u32) (by kernel_rfl) h1
  subst hy0
  subst hy1
  cases ha
  cases hb
  simp only [Rows.laid_given_example_pub_frisket_pub_esbuild_inner_ast_InvalidRef, Prod.mk.injEq, DataW.agg.injEq, List.cons.injEq, DataW.lit.injEq, Lit.int.injEq, true_and, and_true] at hx
  exact ⟨a, b, rfl, hx.1.1.symm, hx.1.2.symm⟩
 obtain ⟨a, b, hcs, rfl, rfl⟩ := hcs
 have e : cs = #[.int .u32 4294967295, .int .u32 4294967295] := by apply Array.ext'; simpa using hcs
 subst e
 exact ⟨by simpa using World.var?_cell gName hvar 0, by simpa using World.var?_cell gName hvar 1⟩
theorem own : ownKnob Tryz.prog.godebug = none := by kernel_rfl
theorem laidOut : laidOutB Tryz.prog = true := by kernel_rfl
theorem params3 : Tryz.f3.params.toList = [22] := by kernel_rfl
theorem bulk_bound {H : Type} {l : List (DataW H)} (hk : Rows.uptoSmall H l = true) : Rows.uptoBulkAll l ≤ 1048576 := by
 simpa [Rows.uptoSmall] using hk
theorem contract (H : Type) (enc : TypeId × Value → H) (W : World) (base : Nat) (args : Array Value) (ds gs : List (DataW H)) (before : List MemPlace)
  (hval : ∀ (j : Nat) t v, Tryz.f3.params[j]? = some t → args[j]? = some v → Value.okWide Tryz.prog W .any base t v)
  (hW : DataW.Whole enc Tryz.prog Tryz.f3.params.toList Rows.fnNamesOfSpec.vars false W args.toList ds gs before) (hb : Rows.uptoBulkAll (ds ++ gs) ≤ 1048576) (hL : laidMetH Tryz.prog Rows.fnNamesOfRow.laid W) :
  Calls Tryz.prog 3 args W fun e W' => ∃ v, e = .returned v ∧ Rows.fnNamesOfSpec.post enc Tryz.prog Tryz.f3 false true false false W args v W' := by
 have hW' := hW
 obtain ⟨p, q, hA, hV, rfl, hfz, hnd⟩ := hW
 have hA2 := hA
 rw [params3] at hA
 obtain ⟨v0, d0, rfl, rfl, h0⟩ := trodAll_one hA
 obtain ⟨g, t, cs, fuel, d1, p1, rfl, hg1, hg2, hg3, hg4, rfl⟩ := trodVars_one hV
 have hv0 := hval 0 22 v0 (by kernel_rfl) rfl
 obtain ⟨a, len, cap, rfl⟩ := okWide_slice (e := 30) u22 hv0
 obtain ⟨n, hn⟩ := h0
 have hb0 : Rows.uptoBulk d0 ≤ 1048576 := by
  have h : Rows.uptoBulkAll ([d0] ++ [d1]) ≤ 1048576 := hb
  simp only [List.cons_append, List.nil_append, Rows.uptoBulkAll] at h
  omega
 obtain ⟨xs, hT⟩ := trod_tv (E := ⟨fun _ _ => False, W.cell?, fun _ => 0, fun _ => 0, fun _ => none⟩) (M := 1048576) dataTypes dataClosed (fun _ _ h => h) n 22 _ (d0, p) (by decide) hn hb0
 obtain ⟨v, rfl, hvS, hvE⟩ := tv_slice u22 hT.tv
 have hR := hT.rep 0 v (.slice a len cap) rfl rfl
 have hdv : deepB v = true := by have := hT.deep; simpa [deepL] using this
 have lv : SlP (DZ (SizeOf.sizeOf v + 1)) v := by
  refine ⟨hvS, hdv, fun y hy => ?_⟩
  have hlt : SizeOf.sizeOf y < SizeOf.sizeOf v + 1 := by
   cases v with
   |sl ys =>
    have := List.sizeOf_lt_of_mem (show y ∈ ys from hy)
    have e : SizeOf.sizeOf (PV.sl ys) = 1 + SizeOf.sizeOf ys := by simp
    omega
   |_ => cases hy
  refine ⟨(tvAll (SizeOf.sizeOf y + 1)).2.2.2.2.2.2.2.2.2.1 y (Nat.lt_succ_self _) (hvE y hy) (mem_deep (x := [v]) (by simp) (by simpa [deepL] using hdv) y hy), hlt⟩
 have hnames : ∀ l, Dns (els v) l → l.length ≤ 1048576 := by
  intro l hl
  have h1 := dns_wt hl
  have h2 := wt_els v
  have h3 := hT.wt
  simp only [wtL] at h3
  have : Rows.uptoBulk (d0, p).1 ≤ 1048576 := hb0
  omega
 obtain ⟨c0, c1⟩ := laidCells hL
 refine (lawCalls (gvOk c0 c1) lv hnames hR).mono ?_
 rintro e W' ⟨rfl, hbelow⟩
 have hlt : ∀ x ∈ p ++ (MemPlace.row ⟨g, 0, none⟩ cs.size ++ p1), x.block < W.heap.size := fun x hx => by simpa using hW'.lt x hx
 refine ⟨_, rfl, ⟨[d0], [d1], _, [], p, _, hW', trodAll_mk1 (shut_bool (by kernel_rfl) _), ?_, hbelow.trodVars laidOut (by kernel_rfl) hV, hbelow.frame _, fun h => by cases h⟩⟩
 rw [params3]
 exact trodAll_mk1 (Below.trod laidOut (by kernel_rfl) (of_decide_eq_true (by kernel_rfl)) ⟨n, hn⟩ hbelow fun x hx => hlt x (by simp [hx]))
noncomputable def laidWorld (os : Os) : World :=
 { World.holding Tryz.prog os ⟨#[], #[], []⟩ with heap := (World.holding Tryz.prog os ⟨#[], #[], []⟩).heap.modify 1 fun
   |.cells _ t frozen => .cells #[.int .u32 4294967295, .int .u32 4294967295] t frozen
   |o => o }
theorem laid_met (os : Os) : laidMet Tryz.prog Rows.fnNamesOfRow.laid ((laidWorld os).forCall (fun _ _ => 0) ⟨#[], #[.slice none 0 0], []⟩).memory :=
 laidMet_of_run' 8 (by kernel_rfl) (by kernel_rfl)
theorem reads (os : Os) {H : Type} (enc : TypeId × Value → H) : ∃ places, DataW.whole enc Tryz.prog ((laidWorld os).forCall (fun _ _ => 0) ⟨#[], #[.slice none 0 0], []⟩).memory Tryz.f3.params.toList Rows.fnNamesOfSpec.vars false #[Value.slice none 0 0].toList 8 = some ([.nil], [.agg [.lit (.int .u32 4294967295), .lit (.int .u32 4294967295)]], places) :=
 ⟨[.cell 1 0, .cell 1 1], by kernel_rfl⟩
theorem liftedUpto (os : Os) (started : os.Started) (H : Type) (enc : TypeId × Value → H) (F : Stop.Interp) :
  ReturnsInHanded {} Tryz.checked os 3 .any ((Rows.OpenSpec.upto Rows.fnNamesOfSpec).preRow enc Tryz.prog Tryz.f3 Rows.fnNamesOfUptoRow.domain false Rows.fnNamesOfUptoRow.laid) (((Rows.OpenSpec.upto Rows.fnNamesOfSpec).at F).post enc Tryz.prog Tryz.f3 false true false false) := by
 obtain ⟨places, hx⟩ := reads os enc
 refine returnsInHanded_of_row (C := Tryz.checked) (s := Rows.OpenSpec.upto Rows.fnNamesOfSpec) own started (by kernel_rfl) Tryz.func3
  (witness_row_at (enc := enc) (C := Tryz.checked) false (laidWorld os) #[.slice none 0 0] rfl (by kernel_rfl) (by kernel_rfl) (by kernel_rfl)
   (OpenSpec.preRow_of_cond 8 hx (by kernel_rfl) (fun k hk => by cases hk; kernel_rfl) (by kernel_rfl) (laid_met os))) ?_
 intro W base args ds gs before hval hW _ hc _ hL _ _
 exact contract H enc W base args ds gs before hval hW (bulk_bound (hc _ rfl)) hL
theorem fNamed : Tryz.pinned.checked.prog.funcNamed Rows.fnNamesOfUptoRow.func = some 3 := by kernel_rfl
theorem saidUpto : Rows.FnNamesOfUptoSaid :=
 OpenClaim.holds_of_cond 3 Tryz.f3 rfl rfl rfl rfl rfl rfl rfl ⟨rfl, rfl, rfl, rfl, rfl⟩ rfl rfl rfl rfl rfl fNamed Tryz.func3 jAll
  (of_decide_eq_true (by kernel_rfl)) (by unfold Func.isWrapper; first | (rw [if_pos (by decide +kernel)]; kernel_rfl) | (rw [if_neg (by decide +kernel)]; exact ⟨rfl, rfl⟩))
  (fun os started H enc _ F => by rw [OpenClaim.pre_eq_preRow]; exact liftedUpto os started H enc F)
theorem plain (f : FuncId) (fn : Func) (hf : Tryz.pinned.checked.prog.funcNamed "given.example/pub-frisket/laws.FnNamesOf" = some f) (hfn : Tryz.pinned.checked.prog.funcs[f]? = some fn) :
  true = Tryz.pinned.checked.prog.looks [] ∧ ∀ (j : Nat) t, fn.params[j]? = some t → Tryz.pinned.checked.prog.wantsStandIn t = false := by
 obtain rfl : f = 3 := Option.some.inj ((show Tryz.prog.funcNamed "given.example/pub-frisket/laws.FnNamesOf" = some 3 by kernel_rfl).symm.trans hf) |>.symm
 obtain rfl : fn = Tryz.f3 := (Option.some.inj (Tryz.func3.symm.trans hfn)).symm
 refine ⟨by kernel_rfl, fun j t ht => ?_⟩
 have ht2 : Tryz.f3.params.toList[j]? = some t := by simpa using ht
 rw [params3] at ht2
 obtain rfl : t = 22 := by simpa using List.mem_of_getElem? ht2
 exact (show Tryz.prog.wantsStandIn 22 = false by kernel_rfl)
theorem namesOf_card : Rows.FnNamesOfUptoCardSaid :=
 Claim7.holds_tied_plain_at .later [] _ _ _ _ saidUpto (fun _ h => by cases h) (by kernel_rfl) (fun _ h => by cases h) fnNamesOfUpto_row_tie rfl ⟨rfl, rfl⟩ (by kernel_rfl) rfl plain (by kernel_rfl)
#print axioms namesOf_card
end Go.Proofs.YtpnkedaceaodbaaGreatDoor
end
