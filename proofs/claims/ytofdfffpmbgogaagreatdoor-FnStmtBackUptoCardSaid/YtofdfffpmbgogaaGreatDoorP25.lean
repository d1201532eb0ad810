import Derived.Test.YtofdfffpmbgogaaGreatDoorP13
import Derived.Test.YtofdfffpmbgogaaGreatDoorP18
import Derived.Test.YtofdfffpmbgogaaGreatDoorP21
import Derived.Test.YtofdfffpmbgogaaGreatDoorP24
/- Part of the proof. -/
set_option linter.all false
set_option maxHeartbeats 0
set_option maxRecDepth 100000
section
open Go Go.Pi
namespace Go.Pi
variable{p q a:Prop}
section
variable{X:aS}{G:Nat->PV}
theorem azU:kL X G 15:=by
 intro m x deep ih hx hm hk;have bY:=hx;obtain⟨kind,op,aA,flags,str,exprs,kids,decls,cases,aC,aG,rfl,hr,ao,aN,aq,aL,aM,av,au⟩:=bY.open (hm);simp only[eg]at hk;subst hk;refine ay kh af ?_;refine nA (Kj ao.1 (Kj ao.2.1 (Kj aN.1 (Kj aN.2.1 (Kj aq.1 (Kj aq.2.1 (Kj aL.1 (Kj aL.2.1 (Kj aM.1 (Kj aM.2.1 (Kj av.1 (Kj av.2.1 (Kj au.1 au.2.1))))))))))))) ?_;open ke kg in exact b7
theorem azV:kL X G 16:=by
 intro m x deep ih hx hm hk;have bY:=hx;obtain⟨kind,op,aA,flags,str,exprs,kids,decls,cases,aC,aG,rfl,hr,ao,aN,aq,aL,aM,av,au⟩:=bY.open (hm);simp only[eg]at hk;subst hk;refine ay kh af ?_;refine nA (Kj ao.1 (Kj ao.2.1 (Kj aN.1 (Kj aN.2.1 (Kj aq.1 (Kj aq.2.1 (Kj aL.1 (Kj aL.2.1 (Kj aM.1 (Kj aM.2.1 (Kj av.1 (Kj av.2.1 (Kj au.1 au.2.1))))))))))))) ?_;open ke kg in exact b7
theorem azW:kL X G 17:=by
 intro m x deep ih hx hm hk;have bY:=hx;obtain⟨kind,op,aA,flags,str,exprs,kids,decls,cases,aC,aG,rfl,hr,ao,aN,aq,aL,aM,av,au⟩:=bY.open (hm);simp only[eg]at hk;subst hk;refine ay kh af ?_;refine nA (Kj ao.1 (Kj ao.2.1 (Kj aN.1 (Kj aN.2.1 (Kj aq.1 (Kj aq.2.1 (Kj aL.1 (Kj aL.2.1 (Kj aM.1 (Kj aM.2.1 (Kj av.1 (Kj av.2.1 (Kj au.1 au.2.1))))))))))))) ?_;open ke kg in exact b7
theorem azX:kL X G 18:=by
 intro m x deep ih hx hm hk;have bY:=hx;obtain⟨kind,op,aA,flags,str,exprs,kids,decls,cases,aC,aG,rfl,hr,ao,aN,aq,aL,aM,av,au⟩:=bY.open (hm);simp only[eg]at hk;subst hk;refine ay kh af ?_;refine nA (Kj ao.1 (Kj ao.2.1 (Kj aN.1 (Kj aN.2.1 (Kj aq.1 (Kj aq.2.1 (Kj aL.1 (Kj aL.2.1 (Kj aM.1 (Kj aM.2.1 (Kj av.1 (Kj av.2.1 (Kj au.1 au.2.1))))))))))))) ?_;open ke kg in exact b7
theorem azY:kL X G 19:=by
 intro m x deep ih hx hm hk;have bY:=hx;obtain⟨kind,op,aA,flags,str,exprs,kids,decls,cases,aC,aG,rfl,hr,ao,aN,aq,aL,aM,av,au⟩:=bY.open (hm);simp only[eg]at hk;subst hk;refine ay kh af ?_;refine nA (Kj ao.1 (Kj ao.2.1 (Kj aN.1 (Kj aN.2.1 (Kj aq.1 (Kj aq.2.1 (Kj aL.1 (Kj aL.2.1 (Kj aM.1 (Kj aM.2.1 (Kj av.1 (Kj av.2.1 (Kj au.1 au.2.1))))))))))))) ?_;open ke kg in exact b7
theorem azZ:kL X G 20:=by
 intro m x deep ih hx hm hk;have bY:=hx;obtain⟨kind,op,aA,flags,str,exprs,kids,decls,cases,aC,aG,rfl,hr,ao,aN,aq,aL,aM,av,au⟩:=bY.open (hm);simp only[eg]at hk;subst hk;refine ay kh af ?_;refine nA (Kj ao.1 (Kj ao.2.1 (Kj aN.1 (Kj aN.2.1 (Kj aq.1 (Kj aq.2.1 (Kj aL.1 (Kj aL.2.1 (Kj aM.1 (Kj aM.2.1 (Kj av.1 (Kj av.2.1 (Kj au.1 au.2.1))))))))))))) ?_;open ke kg in exact b7
theorem az0:kL X G 21:=by
 intro m x deep ih hx hm hk;have bY:=hx;obtain⟨kind,op,aA,flags,str,exprs,kids,decls,cases,aC,aG,rfl,hr,ao,aN,aq,aL,aM,av,au⟩:=bY.open (hm);simp only[eg]at hk;subst hk;refine ay kh af ?_;refine nA (Kj ao.1 (Kj ao.2.1 (Kj aN.1 (Kj aN.2.1 (Kj aq.1 (Kj aq.2.1 (Kj aL.1 (Kj aL.2.1 (Kj aM.1 (Kj aM.2.1 (Kj av.1 (Kj av.2.1 (Kj au.1 au.2.1))))))))))))) ?_;open ke kg in exact b7
end
end Go.Pi
end
section
open Go Go.Pi
namespace Go.Pi
variable{p q a:Prop}
section
variable{X:aS}{G:Nat->PV}
namespace ady
theorem aU(x:a)(g:q)(h:a->q->p:=by(intro x g;exact nA (Kj x (Kj ao.1 (Kj ao.2.1 (Kj aN.1 (Kj aN.2.1 (Kj aq.1 (Kj aq.2.1 (Kj aL.1 (Kj aL.2.1 (Kj aM.1 (Kj aM.2.1 (Kj av.1 (Kj av.2.1 (Kj au.1 (Kj au.2.1 (Kj h0 (Kj h1 (Kj h2 (Kj h3 (Kj h4 (Kj h5 (Kj h6 (Kj h7 (Kj h8 (Kj h9 (Kj dN (Kj cp (Kj cI (Kj cS (Kj yz (Kj DF (Kj DG (Kj cM (Kj h18 (Kj h19 (Kj h20 (Kj ME (Kj aI eU)))))))))))))))))))))))))))))))))))))) g)):p:=h x g
theorem bw(h:p:=by
 first
 |exact SN
 |exact SU
 |exact akU
 |exact akd
 |fail):p:=h
end ady
theorem az1{m:Nat}{x:List PV}(deep:Int)(ih:mj X G m)(hx:bH x)(hm:SizeOf.sizeOf x<=m)(hk:eg x<0\/21<eg x):Pure ai X G 25 [.agg x,.int .i64 deep] (fm (dJ x)):=by
 have bY:=hx;obtain⟨kind,op,aA,flags,str,exprs,kids,decls,cases,aC,aG,rfl,hr,ao,aN,aq,aL,aM,av,au⟩:=bY.open (hm);simp only[eg]at hk;obtain⟨h0,h1,h2,h3,h4,h5,h6,h7,h8,h9,dN,cp,cI,cS,yz,DF,DG,cM,h18,h19,h20,ME⟩:decide (kind=0)=false/\decide (kind=1)=false/\decide (kind=2)=false/\decide (kind=3)=false/\decide (kind=4)=false/\decide (kind=5)=false/\decide (kind=6)=false/\decide (kind=7)=false/\decide (kind=8)=false/\decide (kind=9)=false/\decide (kind=10)=false/\decide (kind=11)=false/\decide (kind=12)=false/\decide (kind=13)=false/\decide (kind=14)=false/\decide (kind=15)=false/\decide (kind=16)=false/\decide (kind=17)=false/\decide (kind=18)=false/\decide (kind=19)=false/\decide (kind=20)=false/\decide (kind=21)=false:=by simp only[decide_eq_false_iff_not];omega
 refine ay kh af ?_;refine nA (Kj ao.1 (Kj ao.2.1 (Kj aN.1 (Kj aN.2.1 (Kj aq.1 (Kj aq.2.1 (Kj aL.1 (Kj aL.2.1 (Kj aM.1 (Kj aM.2.1 (Kj av.1 (Kj av.2.1 (Kj au.1 (Kj au.2.1 (Kj h0 (Kj h1 (Kj h2 (Kj h3 (Kj h4 (Kj h5 (Kj h6 (Kj h7 (Kj h8 (Kj h9 (Kj dN (Kj cp (Kj cI (Kj cS (Kj yz (Kj DF (Kj DG (Kj cM (Kj h18 (Kj h19 (Kj h20 ME))))))))))))))))))))))))))))))))))) ?_;open ady in exact b7
theorem s20{m:Nat}{x:List PV}(deep:Int)(ih:mj X G m)(hx:bH x)(hm:SizeOf.sizeOf x<=m):Pure ai X G 25 [.agg x,.int .i64 deep] (fm (dJ x)):=by
 by_cases h:eg x<0\/21<eg x
 ·exact az1 deep ih hx hm h
 have h2:eg x=0\/eg x=1\/eg x=2\/eg x=3\/eg x=4\/eg x=5\/eg x=6\/eg x=7\/eg x=8\/eg x=9\/eg x=10\/eg x=11\/eg x=12\/eg x=13\/eg x=14\/eg x=15\/eg x=16\/eg x=17\/eg x=18\/eg x=19\/eg x=20\/eg x=21:=by omega
 rcases h2 with h|h|h|h|h|h|h|h|h|h|h|h|h|h|h|h|h|h|h|h|h|h
 ·exact azF deep ih hx hm h
 ·exact azG deep ih hx hm h
 ·exact azH deep ih hx hm h
 ·exact azI deep ih hx hm h
 ·exact azJ deep ih hx hm h
 ·exact azK deep ih hx hm h
 ·exact azL deep ih hx hm h
 ·exact azM deep ih hx hm h
 ·exact azN deep ih hx hm h
 ·exact azO deep ih hx hm h
 ·exact azP deep ih hx hm h
 ·exact azQ deep ih hx hm h
 ·exact azR deep ih hx hm h
 ·exact azS deep ih hx hm h
 ·exact azT deep ih hx hm h
 ·exact azU deep ih hx hm h
 ·exact azV deep ih hx hm h
 ·exact azW deep ih hx hm h
 ·exact azX deep ih hx hm h
 ·exact azY deep ih hx hm h
 ·exact azZ deep ih hx hm h
 ·exact az0 deep ih hx hm h
end
end Go.Pi
end
section
open Go Go.Pi
namespace Go.Pi
variable{p q a:Prop}
section
variable{X:aS}{G:Nat->PV}
theorem aiR{P:List PV->Prop}{v:PV}{a b:List PV}(h:(ae v).length=2)(ha:(ae v)[(0:Int).toNat]?=some a)(hb:(ae v)[(1:Int).toNat]?=some b)(pa:P a)(pb:P b):∀y,y∈ae v->P y:=by
 intro y hy;obtain⟨j,hj,e⟩:=List.getElem_of_mem hy;have sn:j=0\/j=1:=by omega
 rcases sn with rfl|rfl
 ·have ha:(ae v)[0]?=some a:=ha;rw[List.getElem?_eq_getElem hj,e]at ha;cases ha;exact pa
 ·have hb:(ae v)[1]?=some b:=hb;rw[List.getElem?_eq_getElem hj,e]at hb;cases hb;exact pb
theorem aiS{P:List PV->Prop}{v w:PV}{a:List PV}(ha:(ae v)[(0:Int).toNat]?=some a)(hw:ae w=(ae v).drop (1:Int).toNat)(pa:P a)(pw:∀y,y∈ae w->P y):∀y,y∈ae v->P y:=by
 intro y hy;have hw:ae w=(ae v).drop 1:=hw;have ha:(ae v)[0]?=some a:=ha;rw[hw]at pw;cases h:ae v with
 |nil=>rw[h]at hy;cases hy
 |cons z zs=>
  rw[h]at hy ha pw;simp only[List.getElem?_cons_zero,Option.some.injEq]at ha;subst ha;rcases List.mem_cons.1 hy with rfl|hy
  ·exact pa
  ·exact pw y (by simpa using hy)
namespace adC
theorem bw(h:p:=by
 first
 |(refine aO (s93 hx hm) pE iW ?_;exact lz)
 |(refine aO (s94 hx hm) pE iW ?_;exact Qb)
 |(refine aO (s96 hx hm) pE iW ?_;exact Qb)
 |exact SN
 |exact SU
 |exact SJ
 |(refine aO (s95 _ ih ‹_›) pE iW ?_;exact lz)
 |(refine aO (s97 _ ih hx hm) pE iW ?_;exact lz)
 |(refine aO (ih.e ‹EZ _ _› _ _) pE iW ?_;exact lz)
 |exact ak3
 |exact ak5
 |exact akd
 |((refine⟨_,rfl,fun hq=>?_⟩;(try simp only[decide_eq_true_eq]at hq);first|exact(by have wR:=(‹kY _›:kY _) _ _ _ _ _ _ _ _ _ _ _ _ _ rfl;have az3:=wR;unfold fP at wR;exact .mk _ _ _ _ _ _ _ _ _ _ _ _ _ az3 (by unfold gN;omega) BV BV BV BV BV)|done|fail))<;>exact b7
 |fail):p:=h
end adC
theorem s65{m:Nat}{x:List PV}(here deep:Int)(ih:mj X G m)(hx:aR x)(hm:SizeOf.sizeOf x<=m):Pure ai X G 96 [.agg x,.int .i64 here,.int .i64 deep] (fm (cD x)):=by
 have bY:=hx;obtain⟨kind,op,aA,chain,flags,nn,str,text,kids,bf,parts,aC,aG,rfl,hn,ao,ht,aq,aE,aD,av,au⟩:=bY.open (hm);refine ay T96 af ?_;refine nA (Kj ao.1 (Kj ao.2.1 (Kj aq.1 (Kj aq.2.1 (Kj aE.1 (Kj aE.2.1 (Kj aD.1 (Kj aD.2.1 (Kj av.1 (Kj av.2.1 (Kj au.1 au.2.1))))))))))) ?_;open adC jD in exact b7
end
end Go.Pi
end
section
open Go Go.Pi
namespace Go.Pi
variable{p q a:Prop}
section
variable{X:aS}{G:Nat->PV}
theorem ihs:∀m,mj X G m:=by
 intro m
 induction m with
 |zero=>exact⟨fun h=>absurd h.2 (Nat.not_lt_zero _),fun h=>absurd h.2 (Nat.not_lt_zero _),fun h=>absurd h.2 (Nat.not_lt_zero _)⟩
 |succ m ih=>exact⟨fun h _ _=>s65 _ _ ih h.1 (Nat.le_of_lt_succ h.2),fun h _=>s66 _ ih h.1 (Nat.le_of_lt_succ h.2),fun h _=>s20 _ ih h.1 (Nat.le_of_lt_succ h.2)⟩
namespace adD
theorem bw(h:p:=by
 first
 |(refine aO (F9 _ (ihs m) lv) pE iW ?_;rintro _ ⟨c,rfl,hc⟩;refine aU aI ?_;exact b7)
 |exact⟨_,rfl,hc⟩
 |fail):p:=h
end adD
theorem s5{m:Nat}{v:PV}(lv:aB (SZ m) v):Pure ai X G 5 [v] (fm (∀y,y∈ae v->dJ y)):=by
 refine ay T5 af ?_;refine P9 ?_;open adD GB in exact b7
end
end Go.Pi
end
