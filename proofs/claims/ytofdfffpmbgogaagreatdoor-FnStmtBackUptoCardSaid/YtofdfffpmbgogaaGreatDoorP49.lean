/- Statements that are turned into the package's nodes and back are the same statements: the law FnStmtBack answers true, and its argument reads as before. Conditions: what the call reads is of bulk at most 1048576, and the listed variable InvalidRef reads as its text lays it. -/
import Derived.Deep.DeepHandedRow
import Derived.Lib.LaidTab
import Derived.OpenShut
import Derived.OpenVars
import Derived.ProofKit
import Derived.Test.YtofdfffpmbgogaaGreatDoorCards
import Derived.Test.YtofdfffpmbgogaaGreatDoorTie
import Derived.WalkKit
import Derived.Test.YtofdfffpmbgogaaGreatDoorP07
import Derived.Test.YtofdfffpmbgogaaGreatDoorP14
import Derived.Test.YtofdfffpmbgogaaGreatDoorP48
set_option linter.all false
set_option maxRecDepth 100000
section
namespace Go.Proofs.YtofdfffpmbgogaaGreatDoor
open Go Go.Pi Go.RowKit Go.ChangeShapes Go.WideShapes Go.ChangeAt
def adL:List TypeId:=[3,4,9,22,37,39,40,41,42,43,44,45,47,51,52,53,55,110,154,156,158,160,254,281,292,294,298,301,35]
theorem aAk:I4 Tryz.prog adL=true:=by kernel_rfl
def gV:Nat->PV:=fun n=>if n=0 then .fp [.int .u32 4294967295,.int .u32 4294967295]else .undef
theorem NW:Tryz.prog.globalNamed "given.example/pub-frisket/pub/esbuild/inner/ast.InvalidRef" =some 0:=by kernel_rfl
theorem aAl{W:World}(h0:W.cell? ⟨0,0,none⟩=some (.int .u32 4294967295))(h1:W.cell? ⟨0,1,none⟩=some (.int .u32 4294967295)):pD W gV:=by
 intro n E hE;unfold gV;by_cases e:n=0
 ·subst e;rw[if_pos rfl];refine .fp _ ⟨0,0,none⟩ (fun _=> .int .u32 4294967295) (by intro c hc;simp at hc;rcases hc with rfl;rfl) (fun j hj=>?_) (fun j hj=>?_)
  ·match j,hj with
   |0,_=>exact hE _ _ h0
   |1,_=>exact hE _ _ h1
  ·match j,hj with
   |0,_=>exact .int _ _
   |1,_=>exact .int _ _
 ·rw[if_neg e];exact .undef _
theorem aAm{W:World}(h:laidMetH Tryz.prog Rows.fnStmtBackRow.laid W):W.cell? ⟨0,0,none⟩=some (.int .u32 4294967295)/\W.cell? ⟨0,1,none⟩=some (.int .u32 4294967295):=by
 have h':laidMet Tryz.prog Rows.fnStmtBackRow.laid W:=h;obtain⟨ps,⟨g',t',cs,gk,p,q,eO,tH,adM,hd,_,_⟩,_⟩:=h';obtain rfl:=Option.some.inj (NW.symm.trans eO);obtain rfl:=Option.some.inj ((show(Tryz.prog.globals[0]?).map (·.type)=some 101 by kernel_rfl).symm.trans tH);have fC:∃a b:Int,cs.toList=[.int .u32 a,.int .u32 b]/\a=4294967295/\b=4294967295:=by
  obtain⟨y0,y1,n,hx,hl,h0,h1⟩:=trod_struct2 (f0:=⟨ "SourceIndex",99,0,false,"","",0⟩) (f1:=⟨ "InnerIndex",99,1,false,"","",4⟩) (by kernel_rfl) hd;have aW:cs.toList.length=2:=hl.trans (by kernel_rfl);obtain⟨c0,c1,hc⟩:∃c0 c1,cs.toList=[c0,c1]:=by match cs.toList,aW with|[c0,c1],_=>exact⟨c0,c1,rfl⟩
  rw[hc]at h0 h1⊢;have aAn:Tryz.prog.cellsOf 99=1:=by kernel_rfl
  simp only[aAn,List.drop_zero,List.take_succ_cons,List.take_zero,List.drop_succ_cons]at h0 h1;obtain⟨a,ha,iQ,_⟩:=DataW.trod_int (k:= .u32) (by kernel_rfl) h0;obtain⟨b,hb,nF,_⟩:=DataW.trod_int (k:= .u32) (by kernel_rfl) h1;subst iQ;subst nF;cases ha;cases hb;simp only[Rows.laid_given_example_pub_frisket_pub_esbuild_inner_ast_InvalidRef,Prod.mk.injEq,DataW.agg.injEq,List.cons.injEq,DataW.lit.injEq,Lit.int.injEq,true_and,and_true]at hx;exact⟨a,b,rfl,hx.1.1.symm,hx.1.2.symm⟩
 obtain⟨a,b,fC,rfl,rfl⟩:=fC;have e:cs=#[.int .u32 4294967295,.int .u32 4294967295]:=by apply Array.ext';simpa using fC
 subst e;exact⟨by simpa using World.var?_cell NW adM 0,by simpa using World.var?_cell NW adM 1⟩
theorem own:ownKnob Tryz.prog.godebug=none:=by kernel_rfl
theorem laidOut:laidOutB Tryz.prog=true:=by kernel_rfl
theorem NY:Tryz.f3.params.toList=[22]:=by kernel_rfl
theorem aAo{H:Type}{l:List (DataW H)}(hk:Rows.uptoSmall H l=true):Rows.uptoBulkAll l<=1048576:=by
 simpa[Rows.uptoSmall]using hk
theorem aAp(H:Type)(lN:TypeId×Value->H)(W:World)(base:Nat)(args:Array Value)(ds gs:List (DataW H))(before:List MemPlace)
 (NZ:∀(j:Nat) t v,Tryz.f3.params[j]?=some t->args[j]?=some v->Value.okWide Tryz.prog W .any base t v)
 (hW:DataW.Whole lN Tryz.prog Tryz.f3.params.toList Rows.fnStmtBackSpec.vars false W args.toList ds gs before)(hb:Rows.uptoBulkAll (ds++gs)<=1048576)(hL:laidMetH Tryz.prog Rows.fnStmtBackRow.laid W):
 Calls Tryz.prog 3 args W fun e W'=>∃v,e= .returned v/\Rows.fnStmtBackSpec.post lN Tryz.prog Tryz.f3 false true false false W args v W':=by
 have hW':=hW;obtain⟨p,q,hA,hV,rfl,hfz,dS⟩:=hW;have hA2:=hA;rw[NY]at hA;obtain⟨v0,d0,rfl,rfl,h0⟩:=trodAll_one hA;obtain⟨g,t,cs,gk,d1,p1,rfl,wo,sO,D5,Om,rfl⟩:=trodVars_one hV;have lr:=NZ 0 22 v0 (by kernel_rfl) rfl;obtain⟨a,len,cap,rfl⟩:=okWide_slice (e:=55) I5 lr;obtain⟨n,hn⟩:=h0;have dX:Rows.uptoBulk d0<=1048576:=by
  have h:Rows.uptoBulkAll ([d0]++[d1])<=1048576:=hb;simp only[List.cons_append,List.nil_append,Rows.uptoBulkAll]at h;omega
 obtain⟨xs,hT⟩:=ag3 (E:=⟨fun _ _=>False,W.cell?,fun _=>0,fun _=>0,fun _=>none⟩) (M:=1048576) adL aAk (fun _ _ h=>h) n 22 _ (d0,p) (by decide) hn dX;obtain⟨v,rfl,ij,hvE⟩:=gI I5 hT.tv;have hR:=hT.pC 0 v (.slice a len cap) rfl rfl;have eo:aw v=true:=by have:=hT.deep;simpa[aP]using this
 have lv:aB (SZ (SizeOf.sizeOf v+1)) v:=by
  refine⟨ij,eo,fun y hy=>?_⟩;have cE:SizeOf.sizeOf y<SizeOf.sizeOf v+1:=by
   cases v with
   |sl ys=>
    have:=List.sizeOf_lt_of_mem (show y∈ys from hy);have e:SizeOf.sizeOf (PV.sl ys)=1+SizeOf.sizeOf ys:=by simp
    omega
   |_=>cases hy
  refine⟨(ahl (SizeOf.sizeOf y+1)).2.2.2.2.2.2.2.2.2.2.2 y (Nat.lt_succ_self _) (hvE y hy) (gY (x:=[v]) (by simp) (by simpa[aP]using eo) y hy),cE⟩
 obtain⟨c0,c1⟩:=aAm hL;refine(aAi (G:=gV) (ga:=4294967295) (gb:=4294967295) rfl (aAl c0 c1) (by kernel_rfl) lv hR).mono ?_;rintro e W' ⟨rfl,N0⟩;have cE:∀x∈p++(MemPlace.row ⟨g,0,none⟩ cs.size++p1),x.block<W.heap.size:=fun x hx=>by simpa using hW'.lt x hx
 refine⟨_,rfl,⟨[d0],[d1],_,[],p,_,hW',trodAll_mk1 (shut_bool (by kernel_rfl) _),?_,N0.trodVars laidOut (by kernel_rfl) hV,N0.frame _,fun h=>by cases h⟩⟩;rw[NY];exact trodAll_mk1 (Below.trod laidOut (by kernel_rfl) (of_decide_eq_true (by kernel_rfl)) ⟨n,hn⟩ N0 fun x hx=>cE x (by simp[hx]))
noncomputable def N2(os:Os):World:=
 {World.holding Tryz.prog os ⟨#[],#[],[]⟩with heap:=(World.holding Tryz.prog os ⟨#[],#[],[]⟩).heap.modify 0 fun
  | .cells _ t frozen=> .cells #[.int .u32 4294967295,.int .u32 4294967295] t frozen
  |o=>o}
theorem aAr(os:Os):laidMet Tryz.prog Rows.fnStmtBackRow.laid ((N2 os).forCall (fun _ _=>0) ⟨#[],#[.slice none 0 0],[]⟩).memory:=
 laidMet_of_run' 8 (by kernel_rfl) (by kernel_rfl)
theorem reads(os:Os){H:Type}(lN:TypeId×Value->H):∃places,DataW.whole lN Tryz.prog ((N2 os).forCall (fun _ _=>0) ⟨#[],#[.slice none 0 0],[]⟩).memory Tryz.f3.params.toList Rows.fnStmtBackSpec.vars false #[Value.slice none 0 0].toList 8=some ([.nil],[.agg [.lit (.int .u32 4294967295),.lit (.int .u32 4294967295)]],places):=
 ⟨[.cell 0 0,.cell 0 1],by kernel_rfl⟩
theorem aAs(os:Os)(started:os.Started)(H:Type)(lN:TypeId×Value->H)(F:Stop.Interp):
 ReturnsInHanded {} Tryz.checked os 3 .any ((Rows.OpenSpec.upto Rows.fnStmtBackSpec).preRow lN Tryz.prog Tryz.f3 Rows.fnStmtBackUptoRow.domain false Rows.fnStmtBackUptoRow.laid) (((Rows.OpenSpec.upto Rows.fnStmtBackSpec).at F).post lN Tryz.prog Tryz.f3 false true false false):=by
 obtain⟨places,hx⟩:=reads os lN;refine returnsInHanded_of_row (C:=Tryz.checked) (s:=Rows.OpenSpec.upto Rows.fnStmtBackSpec) own started (by kernel_rfl) Tryz.func3
  (witness_row_at (enc:=lN) (C:=Tryz.checked) false (N2 os) #[.slice none 0 0] rfl (by kernel_rfl) (by kernel_rfl) (by kernel_rfl)
   (OpenSpec.preRow_of_cond 8 hx (by kernel_rfl) (fun k hk=>by cases hk;kernel_rfl) (by kernel_rfl) (aAr os))) ?_
 intro W base args ds gs before NZ hW _ hc _ hL _ _;exact aAp H lN W base args ds gs before NZ hW (aAo (hc _ rfl)) hL
theorem aAt:Tryz.pinned.checked.prog.funcNamed Rows.fnStmtBackUptoRow.func=some 3:=by kernel_rfl
theorem aAu:Rows.FnStmtBackUptoSaid:=
 OpenClaim.holds_of_cond 3 Tryz.f3 rfl rfl rfl rfl rfl rfl rfl ⟨rfl,rfl,rfl,rfl,rfl⟩ rfl rfl rfl rfl rfl aAt Tryz.func3 ahS
  (of_decide_eq_true (by kernel_rfl)) (by unfold Func.isWrapper;first|(rw[if_pos (by decide+kernel)];kernel_rfl)|(rw[if_neg (by decide+kernel)];exact⟨rfl,rfl⟩))
  (fun os started H lN _ F=>by rw[OpenClaim.pre_eq_preRow];exact aAs os started H lN F)
theorem plain(f:FuncId)(fn:Func)(hf:Tryz.pinned.checked.prog.funcNamed "given.example/pub-frisket/laws.FnStmtBack" =some f)(km:Tryz.pinned.checked.prog.funcs[f]?=some fn):
 true=Tryz.pinned.checked.prog.looks []/\∀(j:Nat) t,fn.params[j]?=some t->Tryz.pinned.checked.prog.wantsStandIn t=false:=by
 obtain rfl:f=3:=Option.some.inj ((show Tryz.prog.funcNamed "given.example/pub-frisket/laws.FnStmtBack" =some 3 by kernel_rfl).symm.trans hf) |>.symm;obtain rfl:fn=Tryz.f3:=(Option.some.inj (Tryz.func3.symm.trans km)).symm;refine⟨by kernel_rfl,fun j t ht=>?_⟩;have ht2:Tryz.f3.params.toList[j]?=some t:=by simpa using ht
 rw[NY]at ht2;obtain rfl:t=22:=by simpa using List.mem_of_getElem? ht2
 exact(show Tryz.prog.wantsStandIn 22=false by kernel_rfl)
theorem stmtBack_card:Rows.FnStmtBackUptoCardSaid:=
 Claim7.holds_tied_plain_at .later [] _ _ _ _ aAu (fun _ h=>by cases h) (by kernel_rfl) (fun _ h=>by cases h) fnStmtBackUpto_row_tie rfl ⟨rfl,rfl⟩ (by kernel_rfl) rfl plain (by kernel_rfl)
end Go.Proofs.YtofdfffpmbgogaaGreatDoor
end
