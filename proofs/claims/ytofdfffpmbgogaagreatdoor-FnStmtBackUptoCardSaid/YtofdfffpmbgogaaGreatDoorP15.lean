import Derived.Test.YtofdfffpmbgogaaGreatDoorP08
import Derived.Test.YtofdfffpmbgogaaGreatDoorP09
/- Part of the proof. -/
set_option linter.all false
section
namespace Go.Pi
attribute [go_sem] Py agq agr ags agt agu agv I0 PB agw agx agy agz agA agB agC agD agE agF agG PD agK agL agM agN agO agP agQ agR agl kp agm ahU ahV ahW ahX ahY af9 Jb Jc aga agb agh agi agd age agf aiA agc ago agp runK cx ev PG fT qD push qB al.fK al.put kN H0 wg aik ail aim ain aio aip aiq air ais ait aiu aiv aiw aix aiy aiz io wU Pz ly aP aw jx rJ Br aih aii aij Bq al.fT aic Jd aia aib P3 P2 aH ah9 aid aie depth ahZ ah0 ah1 ah2 ah3 ah4 ah5 ah6 ah7 ah8
attribute [go_sem] List.map_cons List.map_nil List.cons_append List.nil_append ne_eq not_false_eq_true not_true_eq_false Option.map_some List.getD_cons_zero List.getD_cons_succ if_true if_false List.length_cons List.length_nil true_and List.drop_zero List.take_succ_cons List.take_zero and_true and_self Bool.false_eq_true Nat.zero_add List.drop_succ_cons List.drop_nil Bool.and_true Bool.and_self Bool.true_and Bool.false_and List.contains_nil List.append_nil eq_self
attribute [go_sem] a z gt gf i6 zN zE nS ahT
section
variable{T:Nat->Option FX}{X:aS}{G:Nat->PV}{Q:Ex->St->Prop}{w:List Wk}
variable{i len id n:Nat}{tr:er}{d:Option Nat}{os:List XO}{t:Nat->PV}{H:al}
def eD(T:Nat->Option FX)(X:aS)(G:Nat->PV)(s:Nat)(v j:PV)(d:Option Nat)(i:Nat)(os:List XO)(len:Nat)(tr:er)(w:List Wk)(t:Nat->PV)(H:al)(n:Nat)(Q:Ex->St->Prop):Prop:=
 MR T X G ((db s v j).map fun r=>(r.1,H.fK r.2)) d i os len tr w t n Q
theorem aiB{s:Nat}{x j:bK}:M T X G (.ops i (⟨d,none,id,.ix s x j⟩::os) len tr::w) ⟨t,H,n⟩ Q↔eD T X G s (ev G t x) (ev G t j) d (i+1) os len (push tr ([],[])) w t H n Q:=agI s x j
theorem aiC{P:List PV->Prop}{s:Nat}{v:PV}{m:Int}(hs:∀{y},P y->y.length=s)(hv:aQ v)(hP:∀y,y∈ae v->P y)(h0:0<=m)(cE:m<(ae v).length)
 (k:∀y,P y->y∈ae v->(ae v)[m.toNat]?=some y->M T X G (.ops i os len tr::w) ⟨put t d (.fp y),H,n⟩ Q):eD T X G s v (.int .i64 m) d i os len tr w t H n Q:=by
 obtain⟨p,rfl⟩:=Int.eq_ofNat_of_zero_le h0;have hp:p<(ae v).length:=by omega
 have hm:=List.getElem_mem hp;have kP:=PJ (s:=s) hv hp (hs (hP _ hm));unfold eD;rw[kP];exact k _ (hP _ hm) hm (by simp)
theorem mw{p:Prop}[Decidable p]{a b:List XC}{s:St}(h1:p->decide p=true->M T X G (a.map .code++w) s Q)(h2:¬p->decide p=false->M T X G (b.map .code++w) s Q):MB T X G (.bool (decide p)) a b w s Q:=
 ni (fun h=>h1 (of_decide_eq_true h) h) (fun h=>h2 (of_decide_eq_false h) h)
theorem pK{p:Prop}[Decidable p]{a b:List XC}{s:St}(h1:p->decide p=true->M T X G (b.map .code++w) s Q)(h2:¬p->decide p=false->M T X G (a.map .code++w) s Q):MB T X G (.bool (!decide p)) a b w s Q:=
 ni (fun h=>have h:decide p=false:=(by simpa using h);h2 (of_decide_eq_false h) h) (fun h=>have h:decide p=true:=(by simpa using h);h1 (of_decide_eq_true h) h)
theorem pL{p:Prop}[Decidable p]{eZ:Bool}{o:XO}{s:St}(h1:p->decide p=true->MG T X G (.bool true) eZ o i os len tr w s Q)(h2:¬p->decide p=false->MG T X G (.bool false) eZ o i os len tr w s Q):MG T X G (.bool (decide p)) eZ o i os len tr w s Q:=
 n5 (fun h=>h1 (of_decide_eq_true h) h) (fun h=>h2 (of_decide_eq_false h) h)
theorem pM{p:Prop}[Decidable p]{eZ:Bool}{o:XO}{s:St}(h1:p->decide p=true->MG T X G (.bool false) eZ o i os len tr w s Q)(h2:¬p->decide p=false->MG T X G (.bool true) eZ o i os len tr w s Q):MG T X G (.bool (!decide p)) eZ o i os len tr w s Q:=
 n5 (fun h=>have h:decide p=false:=(by simpa using h);h2 (of_decide_eq_false h) h) (fun h=>have h:decide p=true:=(by simpa using h);h1 (of_decide_eq_true h) h)
theorem aiD(a b:Int):(a==b)=decide (a=b):=by by_cases h:a=b<;>simp[h]
theorem aiE(a b:Int):(a !=b)=!decide (a=b):=by by_cases h:a=b<;>simp[h]
end
attribute [go_sem] decide_true decide_false aiD aiE aiB D0 DX DY sM Bool.not_true Bool.not_false List.getElem?_cons_zero List.getElem?_cons_succ
end Go.Pi
end
section
namespace Go.Pi
theorem aR.len{y:List PV}(h:aR y):y.length=13:=by cases h;rfl
theorem jl.len{y:List PV}(h:jl y):y.length=4:=by cases h;rfl
theorem iV.len{y:List PV}(h:iV y):y.length=3:=by cases h;rfl
theorem eP.len{y:List PV}(h:eP y):y.length=4:=by cases h;rfl
theorem iz.len{y:List PV}(h:iz y):y.length=7:=by cases h;rfl
theorem jm.len{y:List PV}(h:jm y):y.length=5:=by cases h;rfl
theorem gu.len{y:List PV}(h:gu y):y.length=4:=by cases h;rfl
theorem iI.len{y:List PV}(h:iI y):y.length=6:=by cases h;rfl
theorem gH.len{y:List PV}(h:gH y):y.length=3:=by cases h;rfl
theorem jn.len{y:List PV}(h:jn y):y.length=5:=by cases h;rfl
theorem jo.len{y:List PV}(h:jo y):y.length=2:=by cases h;rfl
theorem bH.len{y:List PV}(h:bH y):y.length=11:=by cases h;rfl
theorem aR.deep{y:List PV}(h:aR y):aP y=true:=by cases h;assumption
theorem jl.deep{y:List PV}(h:jl y):aP y=true:=by cases h;assumption
theorem iV.deep{y:List PV}(h:iV y):aP y=true:=by cases h;assumption
theorem eP.deep{y:List PV}(h:eP y):aP y=true:=by cases h;assumption
theorem iz.deep{y:List PV}(h:iz y):aP y=true:=by cases h;assumption
theorem jm.deep{y:List PV}(h:jm y):aP y=true:=by cases h;assumption
theorem gu.deep{y:List PV}(h:gu y):aP y=true:=by cases h;assumption
theorem iI.deep{y:List PV}(h:iI y):aP y=true:=by cases h;assumption
theorem gH.deep{y:List PV}(h:gH y):aP y=true:=by cases h;assumption
theorem jn.deep{y:List PV}(h:jn y):aP y=true:=by cases h;assumption
theorem jo.deep{y:List PV}(h:jo y):aP y=true:=by cases h;assumption
theorem bH.deep{y:List PV}(h:bH y):aP y=true:=by cases h;assumption
def Je(r:PV):Prop:=∃b,r= .bool b
end Go.Pi
end
