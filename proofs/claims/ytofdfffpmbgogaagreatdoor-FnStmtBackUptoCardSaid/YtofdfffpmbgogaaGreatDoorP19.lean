import Derived.Test.YtofdfffpmbgogaaGreatDoorP15
import Derived.Test.YtofdfffpmbgogaaGreatDoorP16
import Derived.Test.YtofdfffpmbgogaaGreatDoorP18
/- Part of the proof. -/
set_option linter.all false
section
namespace Go.Pi
abbrev GU:Nat:=4607182418800017408
def fP(K op aA ch fl:Int)(nn us tx nk np nq nf nc:Nat):Prop:=
 (K≠13/\K≠14/\K≠18->op=0)/\(K=13->0<=op/\op<=10)/\(K=14->11<=op/\op<=52)/\(K=18->op=0\/op=2)/\(K≠8/\K≠32->aA=0)/\0<=ch/\ch<=2/\(K≠16/\K≠17/\K≠18->ch=0)/\
  (K=2->nn=0\/nn=GU)/\(K≠2/\K≠3->nn=0)/\(0<us->K=4\/K=20/\nk≠1)/\(0<tx->K=5\/K=6\/K=16\/K=20/\nk=1)/\(0<np->K=12)/\(0<nq->K=20)/\(0<nf->K=21\/K=22)/\(0<nc->K=30)/\
  (K=29->fl=0\/fl=512)/\(K=13->fl=0\/fl=16\/fl=32)/\(K≠29/\K≠13->fl=0)
def gN(K n aA flags nf nc:Int):Prop:=
 (K=8\/K=32->0<=aA/\aA<1000)/\(K=10\/K=13\/K=28\/K=16->n=1)/\(K=20->n<=1)/\(K=29->n<=1/\(flags=0\/n=1))/\(K=14\/K=17->n=2)/\(K=15->n=3)/\(K=18\/K=19->1<=n)/\
  (K<=9\/K=12\/K=21\/K=22\/K=25\/K=26\/K=30\/K=31\/K=32->n=0)/\(K=21\/K=22->nf=1)/\(K=30->nc=1)/\0<=K/\K<=32/\K≠23/\K≠24/\K≠27
def Sy(n:Int):Prop:=n=-1\/0<=n/\n<1000
def ii(K op aA fl:Int)(us ne nk nd nw nf nc:Nat):Prop:=
 0<=K/\K<=21/\(K≠4->op=0)/\(K=4->0<=op/\op<=2/\1<=nd/\nd<=100)/\(K≠17/\K≠20/\K≠21->aA=-1)/\(K=17->0<=aA/\aA<1000)/\(K=20\/K=21->Sy aA)/\(K≠15/\K≠11->fl=0)/\(K=11->fl=0\/fl=2)/\
  (0<us->K=2)/\(0<nd->K=4\/K=15)/\(0<nw->K=16)/\(0<nf->K=5)/\(0<nc->K=6)/\(K=5->nf=1)/\(K=6->nc=1)/\
  (K=0\/K=1\/K=2\/K=4\/K=5\/K=6\/K=20\/K=21->ne=0/\nk=0)/\(K=3\/K=19->ne=1/\nk=0)/\(K=18->ne<=1/\nk=0)/\(K=7\/K=15->ne=0)/\(K=8->ne=1/\1<=nk/\nk<=2)/\(K=9->ne=2/\nk=2)/\
  (K=10\/K=11->ne=1/\nk=2)/\(K=12\/K=13\/K=14->ne=1/\nk=1)/\(K=16->ne=1/\nk=0)/\(K=17->ne=0/\nk=1)/\
  (K=15->fl=4/\nk=2/\nd<=1\/fl=8/\nk=2/\nd=0\/fl=12/\nk=3/\nd<=1)
mutual
inductive cD:List PV->Prop
 |mk (kind op aA chain flags:Int) (nn:Nat) (str:PV) (text:ByteArray) (kids bf parts aC aG:PV) (hf:fP kind op aA chain flags nn (ae str).length text.size (ae kids).length (ae bf).length (ae parts).length (ae aC).length (ae aG).length)
   (hx:gN kind (ae kids).length aA flags (ae aC).length (ae aG).length) (hk:∀y,y∈ae kids->cD y) (hp:∀y,y∈ae bf->ug y)
   (hq:∀y,y∈ae parts->qV y) (km:∀y,y∈ae aC->oB (kind==22) y) (hc:∀y,y∈ae aG->sj y):
   cD [.int .i64 kind,.int .i64 op,.int .i64 aA,.int .i64 chain,.int .i64 flags,.bR .f64 nn,str,.str text,kids,bf,parts,aC,aG]
inductive ug:List PV->Prop
 |mk (kind flags:Int) (key value:PV) (h:kind=5/\flags=0/\(ae key).length=0\/(kind=0\/kind=1\/kind=2\/kind=3)/\(flags=0\/flags=1\/flags=8\/flags=9)/\(ae key).length=1) (h2:(ae value).length=1)
   (hk:∀y,y∈ae key->cD y) (hv:∀y,y∈ae value->cD y):ug [.int .i64 kind,.int .i64 flags,key,value]
inductive qV:List PV->Prop
 |mk (value str text:PV) (h1:(ae value).length=1) (hv:∀y,y∈ae value->cD y):qV [value,str,text]
inductive nH:List PV->Prop
 |mk (kind aA:Int) (cj:PV) (rest:Bool) (h:kind=0/\aA=0/\rest=false/\(ae cj).length=0\/kind=1/\0<=aA/\aA<1000/\rest=false/\(ae cj).length=0\/kind=2/\aA=0\/kind=3/\aA=0/\rest=false)
   (hi:∀y,y∈ae cj->nI kind y):nH [.int .i64 kind,.int .i64 aA,cj,.bool rest]
inductive nI:Int->List PV->Prop
 |mk (pk flags:Int) (key dC b0 b1 b2 b3:PV) (h:pk=2/\flags=0/\(ae key).length=0\/pk=3/\flags=2/\(ae key).length=0/\(ae dC).length=0\/pk=3/\(flags=0\/flags=1\/flags=4\/flags=5)/\(ae key).length=1) (h2:(ae dC).length<=1)
   (hk:∀y,y∈ae key->cD y) (hd:∀y,y∈ae dC->cD y) (hb:nH [b0,b1,b2,b3]):nI pk [.int .i64 flags,key,dC,b0,b1,b2,b3]
inductive sm:List PV->Prop
 |mk (b0 b1 b2 b3 dC:PV) (hb:nH [b0,b1,b2,b3]) (h1:(ae dC).length<=1) (hd:∀y,y∈ae dC->cD y):sm [b0,b1,b2,b3,dC]
inductive oB:Bool->List PV->Prop
 |mk (a:Bool) (name flags:Int) (args body:PV) (h:a=true/\name=-1/\(flags=0\/flags=1\/flags=4\/flags=5\/flags=8\/flags=9\/flags=12\/flags=13)\/a=false/\Sy name/\0<=flags/\flags<=7) (h4:flags % 8≥4->1<=(ae args).length) (h8:8<=flags->1<=(ae body).length) (ha:∀y,y∈ae args->sm y) (hb:∀y,y∈ae body->dJ y):
   oB a [.int .i64 name,.int .i64 flags,args,body]
inductive vS:List PV->Prop
 |mk (kind flags:Int) (key value init block:PV) (h:kind=6/\(flags=0\/flags=2)/\(ae key).length=0/\(ae value).length=0/\(ae init).length=0\/(kind=0/\(ae value).length=0/\(ae init).length<=1\/(kind=1\/kind=2\/kind=3)/\(ae value).length=1/\(ae init).length=0)/\
      (flags=0\/flags=1\/flags=2\/flags=3\/flags=8\/flags=9\/flags=10\/flags=11)/\(ae key).length=1/\(ae block).length=0) (hk:∀y,y∈ae key->cD y) (hv:∀y,y∈ae value->cD y)
   (hi:∀y,y∈ae init->cD y) (hb:∀y,y∈ae block->dJ y):vS [.int .i64 kind,.int .i64 flags,key,value,init,block]
inductive sj:List PV->Prop
 |mk (name:Int) (ext fM:PV) (h:Sy name) (h1:(ae ext).length<=1) (he:∀y,y∈ae ext->cD y) (hm:∀y,y∈ae fM->vS y):sj [.int .i64 name,ext,fM]
inductive mS:List PV->Prop
 |mk (b0 b1 b2 b3 value:PV) (hb:nH [b0,b1,b2,b3]) (h1:(ae value).length<=1) (hv:∀y,y∈ae value->cD y):mS [b0,b1,b2,b3,value]
inductive Al:List PV->Prop
 |mk (value body:PV) (h1:(ae value).length<=1) (hv:∀y,y∈ae value->cD y) (hb:∀y,y∈ae body->dJ y):Al [value,body]
inductive dJ:List PV->Prop
 |mk (kind op aA flags:Int) (str exprs kids decls cases aC aG:PV) (hf:ii kind op aA flags (ae str).length (ae exprs).length (ae kids).length (ae decls).length (ae cases).length (ae aC).length (ae aG).length)
   (he:∀y,y∈ae exprs->cD y) (hk:∀y,y∈ae kids->dJ y) (hd:∀y,y∈ae decls->mS y) (Mk:∀y,y∈ae aC->oB false y) (vK:∀y,y∈ae aC->∃(n:Int)(l:List PV),y= .int .i64 n::l/\0<=n)
   (hc:∀y,y∈ae aG->sj y) (jA:∀y,y∈ae aG->∃(n:Int)(l:List PV),y= .int .i64 n::l/\0<=n) (hw:∀y,y∈ae cases->Al y)
   (ht:kind=15->(∀y,y∈ae kids->∃l:List PV,y= .int .i64 7::l)/\∀y,y∈ae decls->∃b0 b1 b2 b3 v:PV,y=[b0,b1,b2,b3,v]/\(ae v).length=0):
   dJ [.int .i64 kind,.int .i64 op,.int .i64 aA,.int .i64 flags,str,exprs,kids,decls,cases,aC,aG]
end
def fm(p:Prop)(r:PV):Prop:=∃b,r= .bool b/\(b=true->p)
def dL(P:List PV->Prop)(v:PV)(i:Nat):Prop:=∀j y,j<i->(ae v)[j]?=some y->P y
theorem dL.zero{P:List PV->Prop}{v:PV}:dL P v 0:=fun j y h=>absurd h (Nat.not_lt_zero _)
theorem dL.succ{P:List PV->Prop}{v:PV}{i:Nat}{y:List PV}(h:dL P v i)(hy:(ae v)[i]?=some y)(hp:P y):dL P v (i+1):=by
 intro j z hj hz;rcases Nat.lt_or_ge j i with sn|sn
 ·exact h j z sn hz
 ·have:j=i:=by omega
  subst this;rw[hy]at hz;cases hz;exact hp
theorem dL.akL{P:List PV->Prop}{v:PV}{i:Nat}(h:dL P v i)(hp:∀y,(ae v)[i]?=some y->P y):dL P v (i+1):=by
 intro j z hj hz;rcases Nat.lt_or_ge j i with sn|sn
 ·exact h j z sn hz
 ·have:j=i:=by omega
  subst this;exact hp z hz
theorem dL.all{P:List PV->Prop}{v:PV}{i:Nat}(h:dL P v i)(hi:(ae v).length<=i):∀y,y∈ae v->P y:=by
 intro y hy;obtain⟨j,hj,e⟩:=List.getElem_of_mem hy;exact h j y (by omega) (by rw[List.getElem?_eq_getElem hj,e])
theorem Jt{P:List PV->Prop}{v:PV}{y:List PV}(hl:(ae v).length=1)(hy:(ae v)[0]?=some y)(hp:P y):∀z,z∈ae v->P z:=by
 intro z hz;obtain⟨j,hj,e⟩:=List.getElem_of_mem hz;have:j=0:=by omega
 subst this;rw[List.getElem?_eq_getElem hj,e]at hy;cases hy;exact hp
theorem qM{P:List PV->Prop}{v:PV}(hl:(ae v).length=0):∀z,z∈ae v->P z:=fun z hz=>by rw[List.eq_nil_of_length_eq_zero hl]at hz;cases hz
end Go.Pi
end
section
namespace Go.Pi
abbrev oC:PV:= .alt (.sl [[.int .i64 (-1),.int .i64 0,.sl [],.sl []]]) (.sl [])
abbrev dV:PV:= .alt (.int .i64 (-1)) (.int .i64 0)
def GY(kind:Int)(P:List PV->Prop)(v:PV):Prop:=cellsOf v=some [v]/\aw v=true/\(aB P v\/v=oC/\(kind=21\/kind=22))
theorem GY.of{kind:Int}{P:List PV->Prop}{v:PV}(h:aQ v\/v=oC/\(kind=21\/kind=22))(hd:aw v=true)(hs:aQ v->aB P v):GY kind P v:=by
 rcases h with h|⟨rfl,h⟩
 ·refine⟨?_,hd,.inl (hs h)⟩;rcases h with rfl|⟨xs,rfl,_⟩<;>rfl
 ·exact⟨rfl,hd,.inr ⟨rfl,h⟩⟩
def nE(kind:Int)(v:PV):Prop:=cellsOf v=some [v]/\aw v=true/\((∃n,v= .int .i64 n)\/v=dV/\kind≠17/\kind≠20/\kind≠21)
theorem nE.of{kind:Int}{v:PV}(h:(∃n,v= .int .i64 n)\/v=dV/\kind≠17/\kind≠20/\kind≠21):nE kind v:=by
 rcases h with⟨n,rfl⟩|⟨rfl,h⟩
 ·exact⟨rfl,rfl,.inl ⟨n,rfl⟩⟩
 ·exact⟨rfl,rfl,.inr ⟨rfl,h⟩⟩
theorem nE.int{kind:Int}{v:PV}(h:nE kind v)(hk:kind=17\/kind=20\/kind=21):∃n,v= .int .i64 n:=by
 rcases h.2.2 with h|⟨_,h1,h2,h3⟩
 ·exact h
 ·omega
theorem nE.i17{v:PV}(h:nE 17 v):∃n,v= .int .i64 n:=h.int (by omega)
theorem nE.i20{v:PV}(h:nE 20 v):∃n,v= .int .i64 n:=h.int (by omega)
theorem nE.i21{v:PV}(h:nE 21 v):∃n,v= .int .i64 n:=h.int (by omega)
namespace R
mutual
inductive aR:List PV->Prop
 |mk (kind op aA chain flags:Int) (num str:PV) (text:ByteArray) (kids bf parts aC aG:PV) (hn:PI num) (hs:pI str) (ht:text.size<=1048576)
   (lk:aQ kids) (hk:∀x,x∈ae kids->aR x) (lp:aQ bf) (hp:∀x,x∈ae bf->jl x) (lq:aQ parts) (hq:∀x,x∈ae parts->iV x)
   (lf:aQ aC\/aC=oC/\(kind=21\/kind=22)) (hf:∀x,x∈ae aC->gu x) (lc:aQ aG) (hc:∀x,x∈ae aG->gH x)
   (hd:aP [.int .i64 kind,.int .i64 op,.int .i64 aA,.int .i64 chain,.int .i64 flags,num,str,.str text,kids,bf,parts,aC,aG]=true):
   aR [.int .i64 kind,.int .i64 op,.int .i64 aA,.int .i64 chain,.int .i64 flags,num,str,.str text,kids,bf,parts,aC,aG]
inductive jl:List PV->Prop
 |mk (kind flags:Int) (key value:PV) (lk:aQ key) (hk:∀x,x∈ae key->aR x) (lv:aQ value) (hv:∀x,x∈ae value->aR x)
   (hr:Rg flags) (hd:aP [.int .i64 kind,.int .i64 flags,key,value]=true):jl [.int .i64 kind,.int .i64 flags,key,value]
inductive iV:List PV->Prop
 |mk (value str:PV) (text:ByteArray) (lv:aQ value) (hv:∀x,x∈ae value->aR x) (hs:pI str) (ht:text.size<=1048576)
   (hd:aP [value,str,.str text]=true):iV [value,str,.str text]
inductive eP:List PV->Prop
 |mk (kind aA:Int) (cj:PV) (rest:Bool) (li:aQ cj) (hi:∀x,x∈ae cj->iz x)
   (hd:aP [.int .i64 kind,.int .i64 aA,cj,.bool rest]=true):eP [.int .i64 kind,.int .i64 aA,cj,.bool rest]
inductive iz:List PV->Prop
 |mk (flags:Int) (key dC:PV) (b0 b1 b2 b3:PV) (lk:aQ key) (hk:∀x,x∈ae key->aR x) (ld:aQ dC) (qF:∀x,x∈ae dC->aR x) (hb:eP [b0,b1,b2,b3])
   (hr:Rg flags) (hd:aP [.int .i64 flags,key,dC,b0,b1,b2,b3]=true):iz [.int .i64 flags,key,dC,b0,b1,b2,b3]
inductive jm:List PV->Prop
 |mk (b0 b1 b2 b3 dC:PV) (hb:eP [b0,b1,b2,b3]) (ld:aQ dC) (qF:∀x,x∈ae dC->aR x)
   (hd:aP [b0,b1,b2,b3,dC]=true):jm [b0,b1,b2,b3,dC]
inductive gu:List PV->Prop
 |mk (name flags:Int) (args body:PV) (la:aQ args) (ha:∀x,x∈ae args->jm x) (lb:aQ body) (hb:∀x,x∈ae body->bH x)
   (hr:Rg flags) (hd:aP [.int .i64 name,.int .i64 flags,args,body]=true):gu [.int .i64 name,.int .i64 flags,args,body]
inductive iI:List PV->Prop
 |mk (kind flags:Int) (key value init block:PV) (lk:aQ key) (hk:∀x,x∈ae key->aR x) (lv:aQ value) (hv:∀x,x∈ae value->aR x) (li:aQ init) (hi:∀x,x∈ae init->aR x) (lb:aQ block) (hb:∀x,x∈ae block->bH x)
   (hr:Rg flags) (hd:aP [.int .i64 kind,.int .i64 flags,key,value,init,block]=true):iI [.int .i64 kind,.int .i64 flags,key,value,init,block]
inductive gH:List PV->Prop
 |mk (name:Int) (ext fM:PV) (le:aQ ext) (he:∀x,x∈ae ext->aR x) (lm:aQ fM) (hm:∀x,x∈ae fM->iI x)
   (hd:aP [.int .i64 name,ext,fM]=true):gH [.int .i64 name,ext,fM]
inductive jn:List PV->Prop
 |mk (b0 b1 b2 b3 value:PV) (hb:eP [b0,b1,b2,b3]) (lv:aQ value) (hv:∀x,x∈ae value->aR x)
   (hd:aP [b0,b1,b2,b3,value]=true):jn [b0,b1,b2,b3,value]
inductive jo:List PV->Prop
 |mk (value body:PV) (lv:aQ value) (hv:∀x,x∈ae value->aR x) (lb:aQ body) (hb:∀x,x∈ae body->bH x)
   (hd:aP [value,body]=true):jo [value,body]
inductive bH:List PV->Prop
 |mk (kind op flags:Int) (aA str exprs kids decls cases aC aG:PV) (TT:(∃n,aA= .int .i64 n)\/aA=dV/\kind≠17/\kind≠20/\kind≠21) (hs:pI str) (le:aQ exprs) (he:∀x,x∈ae exprs->aR x) (lk:aQ kids) (hk:∀x,x∈ae kids->bH x)
   (ld:aQ decls) (gF:∀x,x∈ae decls->jn x) (lc:aQ cases) (hc:∀x,x∈ae cases->jo x) (lf:aQ aC) (hf:∀x,x∈ae aC->gu x) (ll:aQ aG) (ew:∀x,x∈ae aG->gH x)
   (hr:Rg flags) (hd:aP [.int .i64 kind,.int .i64 op,aA,.int .i64 flags,str,exprs,kids,decls,cases,aC,aG]=true):
   bH [.int .i64 kind,.int .i64 op,aA,.int .i64 flags,str,exprs,kids,decls,cases,aC,aG]
end
theorem aR.len{y:List PV}(h:aR y):y.length=13:=by cases h;rfl
theorem jl.len{y:List PV}(h:jl y):y.length=4:=by cases h;rfl
theorem iV.len{y:List PV}(h:iV y):y.length=3:=by cases h;rfl
theorem eP.len{y:List PV}(h:eP y):y.length=4:=by cases h;rfl
theorem iz.len{y:List PV}(h:iz y):y.length=7:=by cases h;rfl
theorem jm.len{y:List PV}(h:jm y):y.length=5:=by cases h;rfl
theorem gu.len{y:List PV}(h:gu y):y.length=4:=by cases h;rfl
theorem iI.len{y:List PV}(h:iI y):y.length=6:=by cases h;rfl
theorem gH.len{y:List PV}(h:gH y):y.length=3:=by cases h;rfl
theorem jn.len{y:List PV}(h:jn y):y.length=5:=by cases h;rfl
theorem jo.len{y:List PV}(h:jo y):y.length=2:=by cases h;rfl
theorem bH.len{y:List PV}(h:bH y):y.length=11:=by cases h;rfl
theorem aR.deep{y:List PV}(h:aR y):aP y=true:=by cases h;assumption
theorem jl.deep{y:List PV}(h:jl y):aP y=true:=by cases h;assumption
theorem iV.deep{y:List PV}(h:iV y):aP y=true:=by cases h;assumption
theorem eP.deep{y:List PV}(h:eP y):aP y=true:=by cases h;assumption
theorem iz.deep{y:List PV}(h:iz y):aP y=true:=by cases h;assumption
theorem jm.deep{y:List PV}(h:jm y):aP y=true:=by cases h;assumption
theorem gu.deep{y:List PV}(h:gu y):aP y=true:=by cases h;assumption
theorem iI.deep{y:List PV}(h:iI y):aP y=true:=by cases h;assumption
theorem gH.deep{y:List PV}(h:gH y):aP y=true:=by cases h;assumption
theorem jn.deep{y:List PV}(h:jn y):aP y=true:=by cases h;assumption
theorem jo.deep{y:List PV}(h:jo y):aP y=true:=by cases h;assumption
theorem bH.deep{y:List PV}(h:bH y):aP y=true:=by cases h;assumption
def EZ(m:Nat)(y:List PV):Prop:=aR y/\SizeOf.sizeOf y<m
def PZ(m:Nat)(y:List PV):Prop:=jl y/\SizeOf.sizeOf y<m
def QZ(m:Nat)(y:List PV):Prop:=iV y/\SizeOf.sizeOf y<m
def BZ(m:Nat)(y:List PV):Prop:=eP y/\SizeOf.sizeOf y<m
def IZ(m:Nat)(y:List PV):Prop:=iz y/\SizeOf.sizeOf y<m
def AZ(m:Nat)(y:List PV):Prop:=jm y/\SizeOf.sizeOf y<m
def FZ(m:Nat)(y:List PV):Prop:=gu y/\SizeOf.sizeOf y<m
def MZ(m:Nat)(y:List PV):Prop:=iI y/\SizeOf.sizeOf y<m
def CZ(m:Nat)(y:List PV):Prop:=gH y/\SizeOf.sizeOf y<m
def DZ(m:Nat)(y:List PV):Prop:=jn y/\SizeOf.sizeOf y<m
def KZ(m:Nat)(y:List PV):Prop:=jo y/\SizeOf.sizeOf y<m
def SZ(m:Nat)(y:List PV):Prop:=bH y/\SizeOf.sizeOf y<m
theorem EZ.len{m:Nat}{y:List PV}(h:EZ m y):y.length=13:=h.1.len
theorem PZ.len{m:Nat}{y:List PV}(h:PZ m y):y.length=4:=h.1.len
theorem QZ.len{m:Nat}{y:List PV}(h:QZ m y):y.length=3:=h.1.len
theorem BZ.len{m:Nat}{y:List PV}(h:BZ m y):y.length=4:=h.1.len
theorem IZ.len{m:Nat}{y:List PV}(h:IZ m y):y.length=7:=h.1.len
theorem AZ.len{m:Nat}{y:List PV}(h:AZ m y):y.length=5:=h.1.len
theorem FZ.len{m:Nat}{y:List PV}(h:FZ m y):y.length=4:=h.1.len
theorem MZ.len{m:Nat}{y:List PV}(h:MZ m y):y.length=6:=h.1.len
theorem CZ.len{m:Nat}{y:List PV}(h:CZ m y):y.length=3:=h.1.len
theorem DZ.len{m:Nat}{y:List PV}(h:DZ m y):y.length=5:=h.1.len
theorem KZ.len{m:Nat}{y:List PV}(h:KZ m y):y.length=2:=h.1.len
theorem SZ.len{m:Nat}{y:List PV}(h:SZ m y):y.length=11:=h.1.len
theorem EZ.le{m:Nat}{y:List PV}(h:EZ m y):SizeOf.sizeOf y<=m:=Nat.le_of_lt h.2
theorem PZ.le{m:Nat}{y:List PV}(h:PZ m y):SizeOf.sizeOf y<=m:=Nat.le_of_lt h.2
theorem QZ.le{m:Nat}{y:List PV}(h:QZ m y):SizeOf.sizeOf y<=m:=Nat.le_of_lt h.2
theorem BZ.le{m:Nat}{y:List PV}(h:BZ m y):SizeOf.sizeOf y<=m:=Nat.le_of_lt h.2
theorem IZ.le{m:Nat}{y:List PV}(h:IZ m y):SizeOf.sizeOf y<=m:=Nat.le_of_lt h.2
theorem AZ.le{m:Nat}{y:List PV}(h:AZ m y):SizeOf.sizeOf y<=m:=Nat.le_of_lt h.2
theorem FZ.le{m:Nat}{y:List PV}(h:FZ m y):SizeOf.sizeOf y<=m:=Nat.le_of_lt h.2
theorem MZ.le{m:Nat}{y:List PV}(h:MZ m y):SizeOf.sizeOf y<=m:=Nat.le_of_lt h.2
theorem CZ.le{m:Nat}{y:List PV}(h:CZ m y):SizeOf.sizeOf y<=m:=Nat.le_of_lt h.2
theorem DZ.le{m:Nat}{y:List PV}(h:DZ m y):SizeOf.sizeOf y<=m:=Nat.le_of_lt h.2
theorem KZ.le{m:Nat}{y:List PV}(h:KZ m y):SizeOf.sizeOf y<=m:=Nat.le_of_lt h.2
theorem SZ.le{m:Nat}{y:List PV}(h:SZ m y):SizeOf.sizeOf y<=m:=Nat.le_of_lt h.2
theorem aR.open{m:Nat}{x:List PV}(hx:aR x)(hz:SizeOf.sizeOf x<=m):∃(kind:Int)(op:Int)(aA:Int)(chain:Int)(flags:Int)(nn:Nat)(str:PV)(text:ByteArray)(kids:PV)(bf:PV)(parts:PV)(aC:PV)(aG:PV),x=[.int .i64 kind,.int .i64 op,.int .i64 aA,.int .i64 chain,.int .i64 flags,.bR .f64 nn,str,.str text,kids,bf,parts,aC,aG]/\nn<18446744073709551616/\aB (fun y=>∃n:Int,y=[.int .u16 n]/\0<=n/\n<65536) str/\text.size<=1048576/\aB (EZ m) kids/\aB (PZ m) bf/\aB (QZ m) parts/\GY kind (FZ m) aC/\aB (CZ m) aG:=by
 obtain⟨kind,op,aA,chain,flags,num,str,text,kids,bf,parts,aC,aG,hn,hs,ht,lk,hk,lp,hp,lq,hq,lf,hf,lc,hc,hd⟩:=hx;obtain⟨nn,rfl,hn⟩:=hn;exact⟨kind,op,aA,chain,flags,nn,str,text,kids,bf,parts,aC,aG,rfl,hn,aB.of (by simp) hz hs.1 hd hs.2 (fun y h _=>h),ht,aB.of (by simp) hz lk hd hk (fun y a b=>⟨a,b⟩),aB.of (by simp) hz lp hd hp (fun y a b=>⟨a,b⟩),aB.of (by simp) hz lq hd hq (fun y a b=>⟨a,b⟩),GY.of lf (qn hd aC (by simp)) (fun l=>aB.of (by simp) hz l hd hf (fun y a b=>⟨a,b⟩)),aB.of (by simp) hz lc hd hc (fun y a b=>⟨a,b⟩)⟩
theorem jl.open{m:Nat}{x:List PV}(hx:jl x)(hz:SizeOf.sizeOf x<=m):∃(kind:Int)(flags:Int)(key:PV)(value:PV),x=[.int .i64 kind,.int .i64 flags,key,value]/\Rg flags/\aB (EZ m) key/\aB (EZ m) value:=by
 obtain⟨kind,flags,key,value,lk,hk,lv,hv,hr,hd⟩:=hx;exact⟨kind,flags,key,value,rfl,hr,aB.of (by simp) hz lk hd hk (fun y a b=>⟨a,b⟩),aB.of (by simp) hz lv hd hv (fun y a b=>⟨a,b⟩)⟩
theorem iV.open{m:Nat}{x:List PV}(hx:iV x)(hz:SizeOf.sizeOf x<=m):∃(value:PV)(str:PV)(text:ByteArray),x=[value,str,.str text]/\aB (EZ m) value/\aB (fun y=>∃n:Int,y=[.int .u16 n]/\0<=n/\n<65536) str/\text.size<=1048576:=by
 obtain⟨value,str,text,lv,hv,hs,ht,hd⟩:=hx;exact⟨value,str,text,rfl,aB.of (by simp) hz lv hd hv (fun y a b=>⟨a,b⟩),aB.of (by simp) hz hs.1 hd hs.2 (fun y h _=>h),ht⟩
theorem eP.open{m:Nat}{x:List PV}(hx:eP x)(hz:SizeOf.sizeOf x<=m):∃(kind:Int)(aA:Int)(cj:PV)(rest:Bool),x=[.int .i64 kind,.int .i64 aA,cj,.bool rest]/\aB (IZ m) cj:=by
 obtain⟨kind,aA,cj,rest,li,hi,hd⟩:=hx;exact⟨kind,aA,cj,rest,rfl,aB.of (by simp) hz li hd hi (fun y a b=>⟨a,b⟩)⟩
theorem iz.open{m:Nat}{x:List PV}(hx:iz x)(hz:SizeOf.sizeOf x<=m):∃(flags:Int)(key:PV)(dC:PV)(gZ:Int)(hC:Int)(hJ:PV)(hY:Bool),x=[.int .i64 flags,key,dC,.int .i64 gZ,.int .i64 hC,hJ,.bool hY]/\Rg flags/\aB (EZ m) key/\aB (EZ m) dC/\BZ m [.int .i64 gZ,.int .i64 hC,hJ,.bool hY]/\aB (IZ m) hJ:=by
 obtain⟨flags,key,dC,b0,b1,b2,b3,lk,hk,ld,qF,hb,hr,hd⟩:=hx;have my:SizeOf.sizeOf [b0,b1,b2,b3]<m:=Nat.lt_of_lt_of_le (by simp;omega) hz;have mJ:=hb;obtain⟨gZ,hC,hJ,hY,qJ,pJ⟩:=hb.open (Nat.le_of_lt my);cases qJ;exact⟨flags,key,dC,gZ,hC,_,hY,rfl,hr,aB.of (by simp) hz lk hd hk (fun y a b=>⟨a,b⟩),aB.of (by simp) hz ld hd qF (fun y a b=>⟨a,b⟩),⟨mJ,my⟩,pJ⟩
theorem jm.open{m:Nat}{x:List PV}(hx:jm x)(hz:SizeOf.sizeOf x<=m):∃(gZ:Int)(hC:Int)(hJ:PV)(hY:Bool)(dC:PV),x=[.int .i64 gZ,.int .i64 hC,hJ,.bool hY,dC]/\BZ m [.int .i64 gZ,.int .i64 hC,hJ,.bool hY]/\aB (IZ m) hJ/\aB (EZ m) dC:=by
 obtain⟨b0,b1,b2,b3,dC,hb,ld,qF,hd⟩:=hx;have my:SizeOf.sizeOf [b0,b1,b2,b3]<m:=Nat.lt_of_lt_of_le (by simp;omega) hz;have mJ:=hb;obtain⟨gZ,hC,hJ,hY,qJ,pJ⟩:=hb.open (Nat.le_of_lt my);cases qJ;exact⟨gZ,hC,_,hY,dC,rfl,⟨mJ,my⟩,pJ,aB.of (by simp) hz ld hd qF (fun y a b=>⟨a,b⟩)⟩
theorem gu.open{m:Nat}{x:List PV}(hx:gu x)(hz:SizeOf.sizeOf x<=m):∃(name:Int)(flags:Int)(args:PV)(body:PV),x=[.int .i64 name,.int .i64 flags,args,body]/\Rg flags/\aB (AZ m) args/\aB (SZ m) body:=by
 obtain⟨name,flags,args,body,la,ha,lb,hb,hr,hd⟩:=hx;exact⟨name,flags,args,body,rfl,hr,aB.of (by simp) hz la hd ha (fun y a b=>⟨a,b⟩),aB.of (by simp) hz lb hd hb (fun y a b=>⟨a,b⟩)⟩
theorem iI.open{m:Nat}{x:List PV}(hx:iI x)(hz:SizeOf.sizeOf x<=m):∃(kind:Int)(flags:Int)(key:PV)(value:PV)(init:PV)(block:PV),x=[.int .i64 kind,.int .i64 flags,key,value,init,block]/\Rg flags/\aB (EZ m) key/\aB (EZ m) value/\aB (EZ m) init/\aB (SZ m) block:=by
 obtain⟨kind,flags,key,value,init,block,lk,hk,lv,hv,li,hi,lb,hb,hr,hd⟩:=hx;exact⟨kind,flags,key,value,init,block,rfl,hr,aB.of (by simp) hz lk hd hk (fun y a b=>⟨a,b⟩),aB.of (by simp) hz lv hd hv (fun y a b=>⟨a,b⟩),aB.of (by simp) hz li hd hi (fun y a b=>⟨a,b⟩),aB.of (by simp) hz lb hd hb (fun y a b=>⟨a,b⟩)⟩
theorem gH.open{m:Nat}{x:List PV}(hx:gH x)(hz:SizeOf.sizeOf x<=m):∃(name:Int)(ext:PV)(fM:PV),x=[.int .i64 name,ext,fM]/\aB (EZ m) ext/\aB (MZ m) fM:=by
 obtain⟨name,ext,fM,le,he,lm,hm,hd⟩:=hx;exact⟨name,ext,fM,rfl,aB.of (by simp) hz le hd he (fun y a b=>⟨a,b⟩),aB.of (by simp) hz lm hd hm (fun y a b=>⟨a,b⟩)⟩
theorem jn.open{m:Nat}{x:List PV}(hx:jn x)(hz:SizeOf.sizeOf x<=m):∃(gZ:Int)(hC:Int)(hJ:PV)(hY:Bool)(value:PV),x=[.int .i64 gZ,.int .i64 hC,hJ,.bool hY,value]/\BZ m [.int .i64 gZ,.int .i64 hC,hJ,.bool hY]/\aB (IZ m) hJ/\aB (EZ m) value:=by
 obtain⟨b0,b1,b2,b3,value,hb,lv,hv,hd⟩:=hx;have my:SizeOf.sizeOf [b0,b1,b2,b3]<m:=Nat.lt_of_lt_of_le (by simp;omega) hz;have mJ:=hb;obtain⟨gZ,hC,hJ,hY,qJ,pJ⟩:=hb.open (Nat.le_of_lt my);cases qJ;exact⟨gZ,hC,_,hY,value,rfl,⟨mJ,my⟩,pJ,aB.of (by simp) hz lv hd hv (fun y a b=>⟨a,b⟩)⟩
theorem jo.open{m:Nat}{x:List PV}(hx:jo x)(hz:SizeOf.sizeOf x<=m):∃(value:PV)(body:PV),x=[value,body]/\aB (EZ m) value/\aB (SZ m) body:=by
 obtain⟨value,body,lv,hv,lb,hb,hd⟩:=hx;exact⟨value,body,rfl,aB.of (by simp) hz lv hd hv (fun y a b=>⟨a,b⟩),aB.of (by simp) hz lb hd hb (fun y a b=>⟨a,b⟩)⟩
theorem bH.open{m:Nat}{x:List PV}(hx:bH x)(hz:SizeOf.sizeOf x<=m):∃(kind:Int)(op:Int)(aA:PV)(flags:Int)(str:PV)(exprs:PV)(kids:PV)(decls:PV)(cases:PV)(aC:PV)(aG:PV),x=[.int .i64 kind,.int .i64 op,aA,.int .i64 flags,str,exprs,kids,decls,cases,aC,aG]/\nE kind aA/\Rg flags/\aB (fun y=>∃n:Int,y=[.int .u16 n]/\0<=n/\n<65536) str/\aB (EZ m) exprs/\aB (SZ m) kids/\aB (DZ m) decls/\aB (KZ m) cases/\aB (FZ m) aC/\aB (CZ m) aG:=by
 obtain⟨kind,op,flags,aA,str,exprs,kids,decls,cases,aC,aG,TT,hs,le,he,lk,hk,ld,gF,lc,hc,lf,hf,ll,ew,hr,hd⟩:=hx;exact⟨kind,op,aA,flags,str,exprs,kids,decls,cases,aC,aG,rfl,nE.of TT,hr,aB.of (by simp) hz hs.1 hd hs.2 (fun y h _=>h),aB.of (by simp) hz le hd he (fun y a b=>⟨a,b⟩),aB.of (by simp) hz lk hd hk (fun y a b=>⟨a,b⟩),aB.of (by simp) hz ld hd gF (fun y a b=>⟨a,b⟩),aB.of (by simp) hz lc hd hc (fun y a b=>⟨a,b⟩),aB.of (by simp) hz lf hd hf (fun y a b=>⟨a,b⟩),aB.of (by simp) hz ll hd ew (fun y a b=>⟨a,b⟩)⟩
end R
end Go.Pi
end
section
namespace Go.Pi
abbrev ab:PV:= .int .i32 0
abbrev e0:PV:= .sl []
abbrev b0:PV:= .bool false
abbrev cq:ByteArray:=bs []
def fS(v:PV)(n:Nat):Prop:=aQ v/\aw v=true/\(ae v).length=n
abbrev Xd(K op aA ch fl:Int)(nn:Nat)(str:PV)(tx:ByteArray)(kids bf parts aC je:PV):List PV:=
 [.int .i64 K,.int .i64 op,.int .i64 aA,.int .i64 ch,.int .i64 fl,.bR .f64 nn,str,.str tx,kids,bf,parts,aC,je]
abbrev Xk(K op ch fl:Int)(tx:ByteArray)(ds:List (List PV)):List PV:=Xd K op 0 ch fl 0 e0 tx (.sl ds) e0 e0 e0 e0
abbrev Sd(K op:Int)(aA:PV)(fl:Int)(str:PV)(es ks ds ws fs cs:PV):List PV:=[.int .i64 K,.int .i64 op,aA,.int .i64 fl,str,es,ks,ds,ws,fs,cs]
abbrev Sk(K:Int)(es ks:List (List PV)):List PV:=Sd K 0 dV 0 e0 (.sl es) (.sl ks) e0 e0 e0 e0
inductive CN:PV->Int->Prop
 |none:CN .bF (-1)
 |some (n:Int) (h:0<=n/\n<1000):CN (.fp [ab,.int .u32 0,.int .u32 n]) n
abbrev nb(b:Bool):Nat:=if b then GU else 0
abbrev fg(b:Bool)(n:Int):Int:=if b then n else 0
mutual
inductive CE:List PV->List PV->Prop
 |null (ht:R.aR (Xk 0 0 0 0 cq [])):CE [.aj 176 (.fp [.int .u8 0]),ab] (Xk 0 0 0 0 cq [])
 |undef (ht:R.aR (Xk 1 0 0 0 cq [])):CE [.aj 177 (.fp [.int .u8 0]),ab] (Xk 1 0 0 0 cq [])
 |this (ht:R.aR (Xk 7 0 0 0 cq [])):CE [.aj 193 (.fp [.int .u8 0]),ab] (Xk 7 0 0 0 cq [])
 |sq (ht:R.aR (Xk 9 0 0 0 cq [])):CE [.aj 123 (.fp [.int .u8 0]),ab] (Xk 9 0 0 0 cq [])
 |TU (ht:R.aR (Xk 31 0 0 0 cq [])):CE [.aj 269 (.fp [.int .u8 0]),ab] (Xk 31 0 0 0 cq [])
 |TX (ht:R.aR (Xk 25 0 0 0 cq [])):CE [.aj 208 (.fp [ab,ab]),ab] (Xk 25 0 0 0 cq [])
 |TY (ht:R.aR (Xk 26 0 0 0 cq [])):CE [.aj 209 (.fp [ab]),ab] (Xk 26 0 0 0 cq [])
 |boolean (b:Bool) (ht:R.aR (Xd 2 0 0 0 0 (nb b) e0 cq e0 e0 e0 e0 e0)):CE [.aj 178 (.fp [.bool b]),ab] (Xd 2 0 0 0 0 (nb b) e0 cq e0 e0 e0 e0 e0)
 |number (nn:Nat) (ht:R.aR (Xd 3 0 0 0 0 nn e0 cq e0 e0 e0 e0 e0)):CE [.aj 182 (.fp [.bR .f64 nn]),ab] (Xd 3 0 0 0 0 nn e0 cq e0 e0 e0 e0 e0)
 |string (v:PV) (us:List (List PV)) (fF:fS v us.length) (oD:ae v=us) (ht:R.aR (Xd 4 0 0 0 0 0 (.sl us) cq e0 e0 e0 e0 e0)):CE [.aj 185 (.fp [v,ab,b0,b0,b0]),ab] (Xd 4 0 0 0 0 0 (.sl us) cq e0 e0 e0 e0 e0)
 |TZ (tx:ByteArray) (ht:R.aR (Xk 5 0 0 0 tx [])):CE [.aj 188 (.fp [.str tx]),ab] (Xk 5 0 0 0 tx [])
 |T0 (tx:ByteArray) (ht:R.aR (Xk 6 0 0 0 tx [])):CE [.aj 191 (.fp [.str tx]),ab] (Xk 6 0 0 0 tx [])
 |ident (n:Int) (hn:0<=n/\n<1000) (ht:R.aR (Xd 8 0 n 0 0 0 e0 cq e0 e0 e0 e0 e0)):CE [.aj 125 (.fp [.int .u32 0,.int .u32 n,b0,b0,b0]),ab] (Xd 8 0 n 0 0 0 e0 cq e0 e0 e0 e0 e0)
 |Ms (n:Int) (hn:0<=n/\n<1000) (ht:R.aR (Xd 32 0 n 0 0 0 e0 cq e0 e0 e0 e0 e0)):CE [.aj 270 (.fp [.int .u32 0,.int .u32 n]),ab] (Xd 32 0 n 0 0 0 e0 cq e0 e0 e0 e0 e0)
 |spread (k:PV) (dk:List PV) (bA:CE [k,ab] dk) (ht:R.aR (Xk 10 0 0 0 cq [dk])):CE [.aj 129 (.fp [k,ab]),ab] (Xk 10 0 0 0 cq [dk])
 |await (k:PV) (dk:List PV) (bA:CE [k,ab] dk) (ht:R.aR (Xk 28 0 0 0 cq [dk])):CE [.aj 255 (.fp [k,ab]),ab] (Xk 28 0 0 0 cq [dk])
 |T1 (ht:R.aR (Xk 29 0 0 0 cq [])):CE [.aj 257 (.fp [.aF,ab,b0]),ab] (Xk 29 0 0 0 cq [])
 |Mu (k:PV) (dk:List PV) (b:Bool) (bA:CE [k,ab] dk) (ht:R.aR (Xk 29 0 0 (fg b 512) cq [dk])):CE [.aj 257 (.fp [k,ab,.bool b]),ab] (Xk 29 0 0 (fg b 512) cq [dk])
 |array (v:PV) (ds:List (List PV)) (fF:fS v (ds).length) (fk:∀(i:Nat)(c d:List PV),(ae v)[i]?=some c->(ds)[i]?=some d->CE c d) (ht:R.aR (Xk 11 0 0 0 cq ds)):CE [.aj 133 (.fp [v,ab,ab,b0,b0]),ab] (Xk 11 0 0 0 cq ds)
 |C3 (v:PV) (ds:List (List PV)) (fF:fS v (ds).length) (fk:∀(i:Nat)(c d:List PV),(ae v)[i]?=some c->(ds)[i]?=some d->CP c d) (ht:R.aR (Xd 12 0 0 0 0 0 e0 cq e0 (.sl ds) e0 e0 e0)):CE [.aj 143 (.fp [v,ab,ab,b0,b0]),ab] (Xd 12 0 0 0 0 0 e0 cq e0 (.sl ds) e0 e0 e0)
 |unary (k:PV) (dk:List PV) (op:Int) (b1 b2:Bool) (ho:0<=op/\op<=10) (hb:b1=false\/b2=false) (bA:CE [k,ab] dk) (ht:R.aR (Xk 13 op 0 (fg b1 16+fg b2 32) cq [dk])):CE [.aj 211 (.fp [k,ab,.int .u8 op,.bool b1,.bool b2]),ab] (Xk 13 op 0 (fg b1 16+fg b2 32) cq [dk])
 |binary (k l:PV) (dk dl:List PV) (op:Int) (ho:11<=op/\op<=52) (bA:CE [k,ab] dk) (jB:CE [l,ab] dl) (ht:R.aR (Xk 14 op 0 0 cq [dk,dl])):CE [.aj 215 (.fp [k,ab,l,ab,.int .u8 op,b0]),ab] (Xk 14 op 0 0 cq [dk,dl])
 |cond (k l m:PV) (dk dl dm:List PV) (bA:CE [k,ab] dk) (jB:CE [l,ab] dl) (Mv:CE [m,ab] dm) (ht:R.aR (Xk 15 0 0 0 cq [dk,dl,dm])):CE [.aj 218 (.fp [k,ab,l,ab,m,ab]),ab] (Xk 15 0 0 0 cq [dk,dl,dm])
 |T2 (k:PV) (dk:List PV) (tx:ByteArray) (ch:Int) (hc:0<=ch/\ch<=2) (bA:CE [k,ab] dk) (ht:R.aR (Xk 16 0 ch 0 tx [dk])):CE [.aj 229 (.fp [k,ab,.str tx,ab,.int .u8 ch,b0,b0,b0]),ab] (Xk 16 0 ch 0 tx [dk])
 |index (k l:PV) (dk dl:List PV) (ch:Int) (hc:0<=ch/\ch<=2) (bA:CE [k,ab] dk) (jB:CE [l,ab] dl) (ht:R.aR (Xk 17 0 ch 0 cq [dk,dl])):CE [.aj 233 (.fp [k,ab,l,ab,ab,.int .u8 ch,b0,b0,b0]),ab] (Xk 17 0 ch 0 cq [dk,dl])
 |call (k v:PV) (dk:List PV) (ds:List (List PV)) (op:Int) (ho:op=0\/op=2) (ch:Int) (hc:0<=ch/\ch<=2) (bA:CE [k,ab] dk) (fF:fS v (ds).length) (fk:∀(i:Nat)(c d:List PV),(ae v)[i]?=some c->(ds)[i]?=some d->CE c d) (ht:R.aR (Xk 18 op ch 0 cq (dk::ds))):CE [.aj 236 (.fp [k,ab,v,ab,.int .u8 ch,.int .u8 op,b0,b0]),ab] (Xk 18 op ch 0 cq (dk::ds))
 |new (k v:PV) (dk:List PV) (ds:List (List PV)) (bA:CE [k,ab] dk) (fF:fS v (ds).length) (fk:∀(i:Nat)(c d:List PV),(ae v)[i]?=some c->(ds)[i]?=some d->CE c d) (ht:R.aR (Xk 19 0 0 0 cq (dk::ds))):CE [.aj 240 (.fp [k,ab,v,ab,b0,b0]),ab] (Xk 19 0 0 0 cq (dk::ds))
 |T4 (v w:PV) (us qs:List (List PV)) (tx:ByteArray) (fF:fS v us.length) (oD:ae v=us) (C4:fS w (qs).length) (C5:∀(i:Nat)(c d:List PV),(ae w)[i]?=some c->(qs)[i]?=some d->CQ c d) (ht:R.aR (Xd 20 0 0 0 0 0 (.sl us) tx e0 e0 (.sl qs) e0 e0)):CE [.aj 245 (.fp [.aF,ab,.str tx,v,w,ab,ab,b0,b0]),ab] (Xd 20 0 0 0 0 0 (.sl us) tx e0 e0 (.sl qs) e0 e0)
 |Ua (k v w:PV) (dk:List PV) (us qs:List (List PV)) (tx:ByteArray) (bA:CE [k,ab] dk) (fF:fS v us.length) (oD:ae v=us) (C4:fS w (qs).length) (C5:∀(i:Nat)(c d:List PV),(ae w)[i]?=some c->(qs)[i]?=some d->CQ c d) (ht:R.aR (Xd 20 0 0 0 0 0 (.sl us) tx (.sl [dk]) e0 (.sl qs) e0 e0)):CE [.aj 245 (.fp [k,ab,.str tx,v,w,ab,ab,b0,b0]),ab] (Xd 20 0 0 0 0 0 (.sl us) tx (.sl [dk]) e0 (.sl qs) e0 e0)
 |Ub (ar bd:PV) (r1 r2:Int) (b3:Bool) (la:fS ar 0) (lb:fS bd 0) (ht:R.aR (Xd 21 0 0 0 0 0 e0 cq e0 e0 e0 oC e0)):CE [.aj 194 (.fp [.bF,ar,bd,ab,ab,.int .u32 r1,.int .u32 r2,ab,b0,b0,.bool b3,b0,b0,b0,b0]),ab] (Xd 21 0 0 0 0 0 e0 cq e0 e0 e0 oC e0)
 |fn (nm ar bd:PV) (r1 r2:Int) (b1 b2 b3:Bool) (df:List PV) (hn:nm≠ .bF\/0<(ae ar).length\/0<(ae bd).length\/b1=true\/b2=true) (ue:CF [nm,ar,bd,ab,ab,.int .u32 r1,.int .u32 r2,ab,.bool b1,.bool b2,.bool b3,b0,b0,b0] df) (ht:R.aR (Xd 21 0 0 0 0 0 e0 cq e0 e0 e0 (.sl [df]) e0)):CE [.aj 194 (.fp [nm,ar,bd,ab,ab,.int .u32 r1,.int .u32 r2,ab,.bool b1,.bool b2,.bool b3,b0,b0,b0,b0]),ab] (Xd 21 0 0 0 0 0 e0 cq e0 e0 e0 (.sl [df]) e0)
 |Uc (ar bd:PV) (b3 b4:Bool) (la:fS ar 0) (lb:fS bd 0) (ht:R.aR (Xd 22 0 0 0 0 0 e0 cq e0 e0 e0 oC e0)):CE [.aj 205 (.fp [ar,bd,ab,ab,b0,.bool b3,.bool b4,b0,b0]),ab] (Xd 22 0 0 0 0 0 e0 cq e0 e0 e0 oC e0)
 |xV (ar bd:PV) (b1 b3 b4:Bool) (gs ss:List (List PV)) (hn:0<(ae ar).length\/0<(ae bd).length\/b1=true) (l4:fS ar (gs).length) (sw:∀(i:Nat)(c d:List PV),(ae ar)[i]?=some c->(gs)[i]?=some d->CA c d) (gO:fS bd (ss).length) (l5:∀(i:Nat)(c d:List PV),(ae bd)[i]?=some c->(ss)[i]?=some d->CS c d) (ht:R.aR (Xd 22 0 0 0 0 0 e0 cq e0 e0 e0 (.sl [[.int .i64 (-1),.int .i64 (fg b1 1+fg b3 4+fg b4 8),.sl gs,.sl ss]]) e0)):CE [.aj 205 (.fp [ar,bd,ab,ab,.bool b1,.bool b3,.bool b4,b0,b0]),ab] (Xd 22 0 0 0 0 0 e0 cq e0 e0 e0 (.sl [[.int .i64 (-1),.int .i64 (fg b1 1+fg b3 4+fg b4 8),.sl gs,.sl ss]]) e0)
 |je (nm k v:PV) (dc:List PV) (vN:CC [.ah,nm,k,ab,v,ab,ab,ab,ab,b0,.bool true] dc) (ht:R.aR (Xd 30 0 0 0 0 0 e0 cq e0 e0 e0 e0 (.sl [dc]))):CE [.aj 260 (.fp [.ah,nm,k,ab,v,ab,ab,ab,ab,b0,.bool true]),ab] (Xd 30 0 0 0 0 0 e0 cq e0 e0 e0 e0 (.sl [dc]))
inductive CO:List PV->List (List PV)->Prop
 |none:CO [.aF,ab] []
 |some (k:PV) (d:List PV) (h:CE [k,ab] d):CO [k,ab] [d]
inductive CP:List PV->List PV->Prop
 |mk (k v:PV) (dk dv:List (List PV)) (kind fl:Int) (hk:0<=kind/\kind<=5) (hf:0<=fl/\fl<=9) (bA:CO [k,ab] dk) (fk:CO [v,ab] dv) (ht:R.jl [.int .i64 kind,.int .i64 fl,.sl dk,.sl dv]):CP [.bF,k,ab,v,ab,.aF,ab,.ah,ab,ab,.int .u8 kind,.int .u8 fl] [.int .i64 kind,.int .i64 fl,.sl dk,.sl dv]
inductive CQ:List PV->List PV->Prop
 |mk (k v:PV) (dk:List PV) (us:List (List PV)) (tx:ByteArray) (bA:CE [k,ab] dk) (fF:fS v us.length) (oD:ae v=us) (ht:R.iV [.sl [dk],.sl us,.str tx]):CQ [k,ab,.str tx,v,ab] [.sl [dk],.sl us,.str tx]
inductive CB:List PV->List PV->Prop
 |sq (ht:R.eP [.int .i64 0,.int .i64 0,e0,b0]):CB [.aj 95 (.fp [.int .u8 0]),ab] [.int .i64 0,.int .i64 0,e0,b0]
 |name (n:Int) (h:0<=n/\n<1000) (ht:R.eP [.int .i64 1,.int .i64 n,e0,b0]):CB [.aj 98 (.fp [.int .u32 0,.int .u32 n]),ab] [.int .i64 1,.int .i64 n,e0,b0]
 |array (v:PV) (ds:List (List PV)) (b:Bool) (fF:fS v (ds).length) (fk:∀(i:Nat)(c d:List PV),(ae v)[i]?=some c->(ds)[i]?=some d->CI c d) (ht:R.eP [.int .i64 2,.int .i64 0,.sl ds,.bool b]):CB [.aj 105 (.fp [v,ab,.bool b,b0]),ab] [.int .i64 2,.int .i64 0,.sl ds,.bool b]
 |C3 (v:PV) (ds:List (List PV)) (fF:fS v (ds).length) (fk:∀(i:Nat)(c d:List PV),(ae v)[i]?=some c->(ds)[i]?=some d->CJ c d) (ht:R.eP [.int .i64 3,.int .i64 0,.sl ds,b0]):CB [.aj 115 (.fp [v,ab,b0]),ab] [.int .i64 3,.int .i64 0,.sl ds,b0]
inductive CI:List PV->List PV->Prop
 |mk (k v d0 d1 d2 d3:PV) (dv:List (List PV)) (bA:CB [k,ab] [d0,d1,d2,d3]) (fk:CO [v,ab] dv) (ht:R.iz [.int .i64 0,.sl [],.sl dv,d0,d1,d2,d3]):CI [k,ab,v,ab,ab] [.int .i64 0,.sl [],.sl dv,d0,d1,d2,d3]
inductive CJ:List PV->List PV->Prop
 |mk (k l v d0 d1 d2 d3:PV) (dl dv:List (List PV)) (b1 b2 b3:Bool) (bA:CB [k,ab] [d0,d1,d2,d3]) (jB:CO [l,ab] dl) (fk:CO [v,ab] dv) (ht:R.iz [.int .i64 (fg b1 1+fg b2 2+fg b3 4),.sl dl,.sl dv,d0,d1,d2,d3]):CJ [l,ab,k,ab,v,ab,ab,ab,.bool b1,.bool b2,.bool b3] [.int .i64 (fg b1 1+fg b2 2+fg b3 4),.sl dl,.sl dv,d0,d1,d2,d3]
inductive CA:List PV->List PV->Prop
 |mk (k v d0 d1 d2 d3:PV) (dv:List (List PV)) (bA:CB [k,ab] [d0,d1,d2,d3]) (fk:CO [v,ab] dv) (ht:R.jm [d0,d1,d2,d3,.sl dv]):CA [k,ab,v,ab,.ah,b0] [d0,d1,d2,d3,.sl dv]
inductive CF:List PV->List PV->Prop
 |mk (nm ar bd:PV) (r1 r2:Int) (b1 b2 b3:Bool) (n:Int) (gs ss:List (List PV)) (xW:CN nm n) (l4:fS ar (gs).length) (sw:∀(i:Nat)(c d:List PV),(ae ar)[i]?=some c->(gs)[i]?=some d->CA c d) (gO:fS bd (ss).length) (l5:∀(i:Nat)(c d:List PV),(ae bd)[i]?=some c->(ss)[i]?=some d->CS c d) (ht:R.gu [.int .i64 n,.int .i64 (fg b1 1+fg b2 2+fg b3 4),.sl gs,.sl ss]):CF [nm,ar,bd,ab,ab,.int .u32 r1,.int .u32 r2,ab,.bool b1,.bool b2,.bool b3,b0,b0,b0] [.int .i64 n,.int .i64 (fg b1 1+fg b2 2+fg b3 4),.sl gs,.sl ss]
inductive CM:List PV->List PV->Prop
 |mk (k v m:PV) (dk dv dm:List (List PV)) (kind fl:Int) (hk:0<=kind/\kind<=3) (hf:0<=fl/\fl<=11) (bA:CO [k,ab] dk) (fk:CO [v,ab] dv) (Mv:CO [m,ab] dm) (ht:R.iI [.int .i64 kind,.int .i64 fl,.sl dk,.sl dv,.sl dm,.sl []]):CM [.bF,k,ab,v,ab,m,ab,.ah,ab,ab,.int .u8 kind,.int .u8 fl] [.int .i64 kind,.int .i64 fl,.sl dk,.sl dv,.sl dm,.sl []]
 |block (bd:PV) (ss:List (List PV)) (kind fl:Int) (hf:fl=0\/fl=2) (gO:fS bd (ss).length) (l5:∀(i:Nat)(c d:List PV),(ae bd)[i]?=some c->(ss)[i]?=some d->CS c d) (ht:R.iI [.int .i64 6,.int .i64 fl,e0,e0,e0,.sl ss]):CM [.fp [bd,ab,ab],.aF,ab,.aF,ab,.aF,ab,.ah,ab,ab,.int .u8 kind,.int .u8 fl] [.int .i64 6,.int .i64 fl,e0,e0,e0,.sl ss]
inductive CC:List PV->List PV->Prop
 |mk (nm k v:PV) (n:Int) (dk ds:List (List PV)) (xW:CN nm n) (bA:CO [k,ab] dk) (fF:fS v (ds).length) (fk:∀(i:Nat)(c d:List PV),(ae v)[i]?=some c->(ds)[i]?=some d->CM c d) (ht:R.gH [.int .i64 n,.sl dk,.sl ds]):CC [.ah,nm,k,ab,v,ab,ab,ab,ab,b0,.bool true] [.int .i64 n,.sl dk,.sl ds]
inductive CD:List PV->List PV->Prop
 |mk (k v d0 d1 d2 d3:PV) (dv:List (List PV)) (bA:CB [k,ab] [d0,d1,d2,d3]) (fk:CO [v,ab] dv) (ht:R.jn [d0,d1,d2,d3,.sl dv]):CD [k,ab,v,ab] [d0,d1,d2,d3,.sl dv]
inductive CK:List PV->List PV->Prop
 |mk (k bd:PV) (dk ss:List (List PV)) (bA:CO [k,ab] dk) (gO:fS bd (ss).length) (l5:∀(i:Nat)(c d:List PV),(ae bd)[i]?=some c->(ss)[i]?=some d->CS c d) (ht:R.jo [.sl dk,.sl ss]):CK [k,ab,bd,ab] [.sl dk,.sl ss]
inductive CS:List PV->List PV->Prop
 |empty (ht:R.bH (Sk 0 [] [])):CS [.aj 307 (.fp [.int .u8 0]),ab] (Sk 0 [] [])
 |Ud (ht:R.bH (Sk 1 [] [])):CS [.aj 309 (.fp [.int .u8 0]),ab] (Sk 1 [] [])
 |directive (v:PV) (us:List (List PV)) (fF:fS v us.length) (oD:ae v=us) (ht:R.bH (Sd 2 0 dV 0 (.sl us) e0 e0 e0 e0 e0 e0)):CS [.aj 311 (.fp [v,ab]),ab] (Sd 2 0 dV 0 (.sl us) e0 e0 e0 e0 e0 e0)
 |expr (k:PV) (dk:List PV) (bA:CE [k,ab] dk) (ht:R.bH (Sk 3 [dk] [])):CS [.aj 314 (.fp [k,ab,b0]),ab] (Sk 3 [dk] [])
 |Ue (v:PV) (ds:List (List PV)) (op:Int) (ho:0<=op/\op<=2) (fF:fS v (ds).length) (fk:∀(i:Nat)(c d:List PV),(ae v)[i]?=some c->(ds)[i]?=some d->CD c d) (ht:R.bH (Sd 4 op dV 0 e0 e0 e0 (.sl ds) e0 e0 e0)):CS [.aj 331 (.fp [v,.int .u8 op,b0,b0]),ab] (Sd 4 op dV 0 e0 e0 e0 (.sl ds) e0 e0 e0)
 |fn (nm ar bd:PV) (r1 r2:Int) (b1 b2 b3:Bool) (df:List PV) (ue:CF [nm,ar,bd,ab,ab,.int .u32 r1,.int .u32 r2,ab,.bool b1,.bool b2,.bool b3,b0,b0,b0] df) (ht:R.bH (Sd 5 0 dV 0 e0 e0 e0 e0 e0 (.sl [df]) e0)):CS [.aj 337 (.fp [nm,ar,bd,ab,ab,.int .u32 r1,.int .u32 r2,ab,.bool b1,.bool b2,.bool b3,b0,b0,b0,b0]),ab] (Sd 5 0 dV 0 e0 e0 e0 e0 e0 (.sl [df]) e0)
 |je (nm k v:PV) (dc:List PV) (vN:CC [.ah,nm,k,ab,v,ab,ab,ab,ab,b0,.bool true] dc) (ht:R.bH (Sd 6 0 dV 0 e0 e0 e0 e0 e0 e0 (.sl [dc]))):CS [.aj 342 (.fp [.ah,nm,k,ab,v,ab,ab,ab,ab,b0,.bool true,b0]),ab] (Sd 6 0 dV 0 e0 e0 e0 e0 e0 e0 (.sl [dc]))
 |block (bd:PV) (ss:List (List PV)) (gO:fS bd (ss).length) (l5:∀(i:Nat)(c d:List PV),(ae bd)[i]?=some c->(ss)[i]?=some d->CS c d) (ht:R.bH (Sk 7 [] ss)):CS [.aj 362 (.fp [bd,ab]),ab] (Sk 7 [] ss)
 |Uf (k x:PV) (dk dx:List PV) (bA:CE [k,ab] dk) (eK:CS [x,ab] dx) (ht:R.bH (Sk 8 [dk] [dx])):CS [.aj 363 (.fp [k,ab,x,ab,.aF,ab,b0,b0]),ab] (Sk 8 [dk] [dx])
 |Ug (k x y:PV) (dk dx dy:List PV) (bA:CE [k,ab] dk) (eK:CS [x,ab] dx) (jC:CS [y,ab] dy) (ht:R.bH (Sk 8 [dk] [dx,dy])):CS [.aj 363 (.fp [k,ab,x,ab,y,ab,b0,b0]),ab] (Sk 8 [dk] [dx,dy])
 |for_ (x k l y:PV) (dx dk dl dy:List PV) (GZ:CH [x,ab] dx) (bA:CG [k,ab] dk) (jB:CG [l,ab] dl) (jC:CS [y,ab] dy) (ht:R.bH (Sk 9 [dk,dl] [dx,dy])):CS [.aj 345 (.fp [x,ab,k,ab,l,ab,y,ab,b0,b0]),ab] (Sk 9 [dk,dl] [dx,dy])
 |forIn (x k y:PV) (dx dk dy:List PV) (eK:CS [x,ab] dx) (bA:CE [k,ab] dk) (jC:CS [y,ab] dy) (ht:R.bH (Sk 10 [dk] [dx,dy])):CS [.aj 350 (.fp [x,ab,k,ab,y,ab,b0]),ab] (Sk 10 [dk] [dx,dy])
 |Mw (x k y:PV) (dx dk dy:List PV) (b:Bool) (eK:CS [x,ab] dx) (bA:CE [k,ab] dk) (jC:CS [y,ab] dy) (ht:R.bH (Sd 11 0 dV (fg b 2) e0 (.sl [dk]) (.sl [dx,dy]) e0 e0 e0 e0)):CS [.aj 353 (.fp [x,ab,k,ab,y,ab,ab,.int .i32 (fg b 5),b0]),ab] (Sd 11 0 dV (fg b 2) e0 (.sl [dk]) (.sl [dx,dy]) e0 e0 e0 e0)
 |Uh (x k:PV) (dx dk:List PV) (eK:CS [x,ab] dx) (bA:CE [k,ab] dk) (ht:R.bH (Sk 12 [dk] [dx])):CS [.aj 356 (.fp [x,ab,k,ab]),ab] (Sk 12 [dk] [dx])
 |Ui (x k:PV) (dx dk:List PV) (eK:CS [x,ab] dx) (bA:CE [k,ab] dk) (ht:R.bH (Sk 13 [dk] [dx])):CS [.aj 359 (.fp [k,ab,x,ab,b0]),ab] (Sk 13 [dk] [dx])
 |Uj (x k:PV) (dx dk:List PV) (eK:CS [x,ab] dx) (bA:CE [k,ab] dk) (ht:R.bH (Sk 14 [dk] [dx])):CS [.aj 366 (.fp [k,ab,x,ab,ab,b0]),ab] (Sk 14 [dk] [dx])
 |Uk (k p q d0 d1 d2 d3:PV) (dp dq:List PV) (bA:CB [k,ab] [d0,d1,d2,d3]) (iO:CS [.aj 362 (.fp [p,ab]),ab] dp) (js:CS [.aj 362 (.fp [q,ab]),ab] dq) (ht:R.bH (Sd 15 0 dV 4 e0 e0 (.sl [dp,dq]) (.sl [[d0,d1,d2,d3,e0]]) e0 e0 e0)):CS [.aj 391 (.fp [.fp [k,ab,q,ab,ab,ab],.bF,p,ab,ab]),ab] (Sd 15 0 dV 4 e0 e0 (.sl [dp,dq]) (.sl [[d0,d1,d2,d3,e0]]) e0 e0 e0)
 |Ul (p q:PV) (dp dq:List PV) (iO:CS [.aj 362 (.fp [p,ab]),ab] dp) (js:CS [.aj 362 (.fp [q,ab]),ab] dq) (ht:R.bH (Sd 15 0 dV 4 e0 e0 (.sl [dp,dq]) e0 e0 e0 e0)):CS [.aj 391 (.fp [.fp [.aF,ab,q,ab,ab,ab],.bF,p,ab,ab]),ab] (Sd 15 0 dV 4 e0 e0 (.sl [dp,dq]) e0 e0 e0 e0)
 |Um (p q:PV) (dp dq:List PV) (iO:CS [.aj 362 (.fp [p,ab]),ab] dp) (js:CS [.aj 362 (.fp [q,ab]),ab] dq) (ht:R.bH (Sd 15 0 dV 8 e0 e0 (.sl [dp,dq]) e0 e0 e0 e0)):CS [.aj 391 (.fp [.bF,.fp [q,ab,ab],p,ab,ab]),ab] (Sd 15 0 dV 8 e0 e0 (.sl [dp,dq]) e0 e0 e0 e0)
 |Uo (k p q r d0 d1 d2 d3:PV) (dp dq dr:List PV) (bA:CB [k,ab] [d0,d1,d2,d3]) (iO:CS [.aj 362 (.fp [p,ab]),ab] dp) (js:CS [.aj 362 (.fp [q,ab]),ab] dq) (ow:CS [.aj 362 (.fp [r,ab]),ab] dr) (ht:R.bH (Sd 15 0 dV 12 e0 e0 (.sl [dp,dq,dr]) (.sl [[d0,d1,d2,d3,e0]]) e0 e0 e0)):CS [.aj 391 (.fp [.fp [k,ab,q,ab,ab,ab],.fp [r,ab,ab],p,ab,ab]),ab] (Sd 15 0 dV 12 e0 e0 (.sl [dp,dq,dr]) (.sl [[d0,d1,d2,d3,e0]]) e0 e0 e0)
 |Up (p q r:PV) (dp dq dr:List PV) (iO:CS [.aj 362 (.fp [p,ab]),ab] dp) (js:CS [.aj 362 (.fp [q,ab]),ab] dq) (ow:CS [.aj 362 (.fp [r,ab]),ab] dr) (ht:R.bH (Sd 15 0 dV 12 e0 e0 (.sl [dp,dq,dr]) e0 e0 e0 e0)):CS [.aj 391 (.fp [.fp [.aF,ab,q,ab,ab,ab],.fp [r,ab,ab],p,ab,ab]),ab] (Sd 15 0 dV 12 e0 e0 (.sl [dp,dq,dr]) e0 e0 e0 e0)
 |switch (k v:PV) (dk:List PV) (ds:List (List PV)) (bA:CE [k,ab] dk) (fF:fS v (ds).length) (fk:∀(i:Nat)(c d:List PV),(ae v)[i]?=some c->(ds)[i]?=some d->CK c d) (ht:R.bH (Sd 16 0 dV 0 e0 (.sl [dk]) e0 e0 (.sl ds) e0 e0)):CS [.aj 375 (.fp [k,ab,v,ab,ab]),ab] (Sd 16 0 dV 0 e0 (.sl [dk]) e0 e0 (.sl ds) e0 e0)
 |label (x:PV) (dx:List PV) (n:Int) (hn:0<=n/\n<1000) (eK:CS [x,ab] dx) (ht:R.bH (Sd 17 0 (.int .i64 n) 0 e0 e0 (.sl [dx]) e0 e0 e0 e0)):CS [.aj 369 (.fp [x,ab,ab,.int .u32 0,.int .u32 n,b0]),ab] (Sd 17 0 (.int .i64 n) 0 e0 e0 (.sl [dx]) e0 e0 e0 e0)
 |Uq (ht:R.bH (Sk 18 [] [])):CS [.aj 317 (.fp [.aF,ab]),ab] (Sk 18 [] [])
 |Ur (k:PV) (dk:List PV) (bA:CE [k,ab] dk) (ht:R.bH (Sk 18 [dk] [])):CS [.aj 317 (.fp [k,ab]),ab] (Sk 18 [dk] [])
 |throw (k:PV) (dk:List PV) (bA:CE [k,ab] dk) (ht:R.bH (Sk 19 [dk] [])):CS [.aj 320 (.fp [k,ab]),ab] (Sk 19 [dk] [])
 |Us (nm:PV) (n:Int) (xW:CN nm n) (ht:R.bH (Sd 20 0 (.int .i64 n) 0 e0 e0 e0 e0 e0 e0 e0)):CS [.aj 322 (.fp [nm]),ab] (Sd 20 0 (.int .i64 n) 0 e0 e0 e0 e0 e0 e0 e0)
 |Ut (nm:PV) (n:Int) (xW:CN nm n) (ht:R.bH (Sd 21 0 (.int .i64 n) 0 e0 e0 e0 e0 e0 e0 e0)):CS [.aj 326 (.fp [nm]),ab] (Sd 21 0 (.int .i64 n) 0 e0 e0 e0 e0 e0 e0 e0)
inductive CG:List PV->List PV->Prop
 |none (ht:R.aR (Xk 9 0 0 0 cq [])):CG [.aF,ab] (Xk 9 0 0 0 cq [])
 |some (k:PV) (d:List PV) (h:CE [k,ab] d):CG [k,ab] d
inductive CH:List PV->List PV->Prop
 |none (ht:R.bH (Sk 0 [] [])):CH [.aF,ab] (Sk 0 [] [])
 |some (k:PV) (d:List PV) (h:CS [k,ab] d):CH [k,ab] d
end
end Go.Pi
end
section
namespace Go.Pi
open Ieee
section
variable{n:Nat}
set_option exponentiation.threshold 2000
theorem ML(h:n<4503599627370496):FloatKind.f64.format.read n= .number false n (-1074):=by
 have e1:FloatKind.f64.format.signWeight=9223372036854775808:=by rfl
 have e2:FloatKind.f64.format.binade=4503599627370496:=by rfl
 have e4:FloatKind.f64.format.leastPlace=-1074:=by rfl
 unfold Ieee.Format.read;rw[e1,e2,e4];simp only[];rw[if_pos (by omega),Nat.div_eq_of_lt (a:=n) (b:=9223372036854775808) (by omega),Nat.mod_eq_of_lt (a:=n) (b:=9223372036854775808) (by omega)];rfl
theorem MM(h0:4503599627370496<=n)(h:n<9218868437227405312):FloatKind.f64.format.read n= .number false (4503599627370496+n % 4503599627370496) (-1074+(n / 4503599627370496 - 1:Nat)):=by
 have e1:FloatKind.f64.format.signWeight=9223372036854775808:=by rfl
 have e2:FloatKind.f64.format.binade=4503599627370496:=by rfl
 have e3:FloatKind.f64.format.infRung=9218868437227405312:=by rfl
 have e4:FloatKind.f64.format.leastPlace=-1074:=by rfl
 unfold Ieee.Format.read;rw[e1,e2,e3,e4];simp only[];rw[if_neg (by omega),if_pos (by omega),Nat.div_eq_of_lt (a:=n) (b:=9223372036854775808) (by omega),Nat.mod_eq_of_lt (a:=n) (b:=9223372036854775808) (by omega)];rfl
theorem Vk(h0:9218868437227405312<=n)(h:n<9223372036854775808):FloatKind.f64.format.read n= .infinity false\/∃b t,FloatKind.f64.format.read n= .nan b t:=by
 have e1:FloatKind.f64.format.signWeight=9223372036854775808:=by rfl
 have e2:FloatKind.f64.format.binade=4503599627370496:=by rfl
 have e3:FloatKind.f64.format.infRung=9218868437227405312:=by rfl
 unfold Ieee.Format.read;rw[e1,e2,e3];simp only[];rw[if_neg (by omega),if_neg (by omega)];by_cases e:n % 9223372036854775808=9218868437227405312
 ·rw[if_pos e,Nat.div_eq_of_lt (by omega)];exact .inl rfl
 ·rw[if_neg e];exact .inr ⟨_,_,rfl⟩
theorem asH(h:n<9223372036854775808)(he:FloatKind.f64.format.order n 0=some .eq):n=0:=by
 have r0:FloatKind.f64.format.read 0= .number false 0 (-1074):=ML (by decide);unfold Ieee.Format.order at he;rw[r0]at he;by_cases h1:n<4503599627370496
 ·rw[ML h1]at he;simp only[Datum.order,Ieee.signed,Option.some.injEq,Int.compare_eq_eq]at he;simpa using he
 ·by_cases h2:n<9218868437227405312
  ·rw[MM (by omega) h2]at he;simp[Datum.order,Ieee.signed]at he;omega
  ·rcases Vk (by omega) h with e|⟨b,t,e⟩<;>rw[e]at he<;>simp[Datum.order]at he
theorem asI(h:n<9223372036854775808)(he:FloatKind.f64.format.order n 4607182418800017408=some .eq):n=4607182418800017408:=by
 have r0:FloatKind.f64.format.read 4607182418800017408= .number false 4503599627370496 (-52):=MM (by decide) (by decide);unfold Ieee.Format.order at he;rw[r0]at he;by_cases h1:n<4503599627370496
 ·rw[ML h1]at he;simp only[Datum.order,Ieee.signed,Option.some.injEq,Int.compare_eq_eq,Bool.false_eq_true,if_false,Nat.shiftLeft_eq]at he;have he:=Int.ofNat_inj.1 he;have k1:((-1074:Int) - min (-1074) (-52)).toNat=0:=by decide
  have k2:((-52:Int) - min (-1074) (-52)).toNat=1022:=by decide
  rw[k1,k2,Nat.pow_zero,Nat.mul_one]at he;have h4:4503599627370496*2 ^ 0<=4503599627370496*2 ^ 1022:=Nat.mul_le_mul_left _ (Nat.pow_le_pow_right (by omega) (by omega));rw[<-he]at h4;omega
 ·by_cases h2:n<9218868437227405312
  ·rw[MM (by omega) h2]at he;obtain⟨q,hq⟩:∃q,q=n / 4503599627370496:=⟨_,rfl⟩;obtain⟨r,hr⟩:∃r,r=n % 4503599627370496:=⟨_,rfl⟩;have hn:n=4503599627370496*q+r:=by omega
   rw[<-hq,<-hr]at he;simp only[Datum.order,Ieee.signed,Option.some.injEq,Int.compare_eq_eq,Bool.false_eq_true,if_false,Nat.shiftLeft_eq]at he;have he:=Int.ofNat_inj.1 he;by_cases h3:1022<=q - 1
   ·have k2:(-52 - min (-1074+((q - 1:Nat):Int)) (-52)).toNat=0:=by omega
    obtain⟨k,k1⟩:∃k,k=(-1074+((q - 1:Nat):Int) - min (-1074+((q - 1:Nat):Int)) (-52)).toNat:=⟨_,rfl⟩;rw[k2,<-k1,Nat.pow_zero,Nat.mul_one]at he;have hk:k=0:=by
     by_cases e:k=0
     ·exact e
     ·have h5:2 ^ 1<=2 ^ k:=Nat.pow_le_pow_right (by omega) (by omega);have h6:=Nat.mul_le_mul_left (4503599627370496+r) h5;omega
    subst hk;omega
   ·have k1:(-1074+((q - 1:Nat):Int) - min (-1074+((q - 1:Nat):Int)) (-52)).toNat=0:=by omega
    obtain⟨k,k2⟩:∃k,k=(-52 - min (-1074+((q - 1:Nat):Int)) (-52)).toNat:=⟨_,rfl⟩;rw[k1,<-k2,Nat.pow_zero,Nat.mul_one]at he;have h5:2 ^ 1<=2 ^ k:=Nat.pow_le_pow_right (by omega) (by omega);have h6:=Nat.mul_le_mul_left 4503599627370496 h5;omega
  ·rcases Vk (by omega) h with e|⟨b,t,e⟩<;>rw[e]at he<;>simp[Datum.order]at he
theorem aiO(h:n<18446744073709551616)(hs:¬IntKind.i64.wrap (n:Int)<0)(he:(FloatKind.f64.format.order n 0==some Ordering.eq)=true\/(FloatKind.f64.format.order n 4607182418800017408==some Ordering.eq)=true):n=0\/n=GU:=by
 have h1:n<9223372036854775808:=by
  by_cases e:n<9223372036854775808
  ·exact e
  ·exfalso;apply hs;have e:IntKind.wrap .i64 (n:Int)=if(n:Int) % 18446744073709551616≥9223372036854775808 then(n:Int) % 18446744073709551616 - 18446744073709551616 else(n:Int) % 18446744073709551616:=by
    simp[IntKind.wrap,IntKind.signed,IntKind.bits]
   rw[e];split<;>omega
 rcases he with he|he
 ·exact .inl (asH h1 (by simpa using he))
 ·exact .inr (asI h1 (by simpa using he))
end
theorem Vl(bs:ByteArray):∀(n i:Nat)(r:List UInt8),bs.size - i=n->(ByteArray.toList.loop bs i r).length=n+r.length:=by
 intro n
 induction n with
 |zero=>intro i r h;rw[ByteArray.toList.loop.eq_def];rw[if_neg (by omega)];simp
 |succ n ih=>intro i r h;rw[ByteArray.toList.loop.eq_def];rw[if_pos (by omega),ih _ _ (by omega)];simp;omega
theorem BE{text:ByteArray}(h:(!text.toList==(bs []).toList)=false):text.size=0:=by
 have h1:text.toList=(bs []).toList:=by simpa using h
 have h2:=Vl text _ 0 [] rfl;have h3:=Vl (bs []) _ 0 [] rfl;have h4:=congrArg List.length h1;unfold ByteArray.toList at h4;have h5:(bs []).size=0:=rfl;rw[h2,h3]at h4;simp at h4;omega
theorem asJ{n:Nat}(h:n<18446744073709551616)(hz:IntKind.i64.wrap (n:Int)=0):n=0:=by
 have e:IntKind.wrap .i64 (n:Int)=if(n:Int) % 18446744073709551616≥9223372036854775808 then(n:Int) % 18446744073709551616 - 18446744073709551616 else(n:Int) % 18446744073709551616:=by
  simp[IntKind.wrap,IntKind.signed,IntKind.bits]
 rw[e]at hz;split at hz<;>omega
theorem Vm{x:Int}{M:Nat}(hM:M<16)(hr:Rg x)(h:bits .andNot .i64 x M=0):0<=x/\x<16/\x.toNat &&& M=x.toNat:=by
 unfold bits at h;have h1:=asJ (BitVec.isLt _) h;have h2:BitVec.ofInt 64 x &&& ~~~ BitVec.ofInt 64 (M:Int)=0#64:=BitVec.eq_of_toNat_eq h1;have h3:BitVec.ofInt 64 x=BitVec.ofInt 64 x &&& BitVec.ofInt 64 (M:Int):=by
  apply BitVec.eq_of_getElem_eq;intro i hi;have:=congrArg (fun b:BitVec 64=>b[i]) h2;simp only[BitVec.getElem_and,BitVec.getElem_not]at this⊢;revert this;cases (BitVec.ofInt 64 x)[i]<;>cases (BitVec.ofInt 64 (M:Int))[i]<;>simp
 have hM2:(BitVec.ofInt 64 (M:Int)).toNat=M:=by
  simp[BitVec.toNat_ofInt];omega
 have h4:=congrArg BitVec.toNat h3;rw[BitVec.toNat_and,hM2]at h4;have h5:(BitVec.ofInt 64 x).toNat<=M:=by rw[h4];exact Nat.and_le_right
 have h6:(BitVec.ofInt 64 x).toNat=(x % 18446744073709551616).toNat:=by simp[BitVec.toNat_ofInt]
 obtain⟨r1,r2⟩:=hr;have h7:(x % 18446744073709551616).toNat=x.toNat:=by omega
 rw[h6,h7]at h4;exact⟨by omega,by omega,h4.symm⟩
theorem Db{x:Int}(P:Nat->Prop){M:Nat}(hM:M<16)(hr:Rg x)(h:bits .andNot .i64 x M=0)(hP:∀n,n<16->n &&& M=n->P n):∃n:Nat,x=n/\P n:=by
 obtain⟨h1,h2,h3⟩:=Vm hM hr h;exact⟨x.toNat,by omega,hP _ (by omega) h3⟩
theorem aiU{x:Int}(hr:Rg x)(h:bits .andNot .i64 x 15=0):0<=x/\x<=15:=by
 obtain⟨h1,h2,h3⟩:=Vm (M:=15) (by omega) hr h;omega
theorem an9{x:Int}(hr:Rg x)(h:bits .andNot .i64 x 9=0):x=0\/x=1\/x=8\/x=9:=by
 obtain⟨n,rfl,h⟩:=Db (fun n=>n=0\/n=1\/n=8\/n=9) (M:=9) (by omega) hr h (by decide);omega
theorem ajm{x:Int}(hr:Rg x)(h:bits .andNot .i64 x 11=0):x=0\/x=1\/x=2\/x=3\/x=8\/x=9\/x=10\/x=11:=by
 obtain⟨n,rfl,h⟩:=Db (fun n=>n=0\/n=1\/n=2\/n=3\/n=8\/n=9\/n=10\/n=11) (M:=11) (by omega) hr h (by decide);omega
theorem an5{x:Int}(hr:Rg x)(h:bits .andNot .i64 x 5=0):x=0\/x=1\/x=4\/x=5:=by
 obtain⟨n,rfl,h⟩:=Db (fun n=>n=0\/n=1\/n=4\/n=5) (M:=5) (by omega) hr h (by decide);omega
theorem an2{x:Int}(hr:Rg x)(h:bits .andNot .i64 x 2=0):x=0\/x=2:=by
 obtain⟨n,rfl,h⟩:=Db (fun n=>n=0\/n=2) (M:=2) (by omega) hr h (by decide);omega
theorem aiX{x:Int}(hr:Rg x)(h:bits .andNot .i64 x 12=0):x=0\/x=4\/x=8\/x=12:=by
 obtain⟨n,rfl,h⟩:=Db (fun n=>n=0\/n=4\/n=8\/n=12) (M:=12) (by omega) hr h (by decide);omega
theorem aiV{x:Int}(h0:0<=x)(h1:x<=15):(bits .and .i64 x 2=0↔x % 4<2)/\(bits .and .i64 x 4=0↔x % 8<4)/\(bits .and .i64 x 8=0↔x<8):=by
 have h:x=0\/x=1\/x=2\/x=3\/x=4\/x=5\/x=6\/x=7\/x=8\/x=9\/x=10\/x=11\/x=12\/x=13\/x=14\/x=15:=by omega
 rcases h with rfl|rfl|rfl|rfl|rfl|rfl|rfl|rfl|rfl|rfl|rfl|rfl|rfl|rfl|rfl|rfl<;>decide
theorem aiY{x:Int}(h:x=0\/x=4\/x=8\/x=12):(bits .and .i64 x 4=0↔x=0\/x=8)/\(bits .and .i64 x 8=0↔x=0\/x=4):=by
 rcases h with rfl|rfl|rfl|rfl<;>decide
end Go.Pi
end
section
namespace Go.Pi
theorem KS{p:Prop}(h:p:=by
 repeat' first
 |contradiction
 |exact E6
 |(simp only[cG];(try refine cA ?_))
 |(simp only[gX];(try refine cA ?_))
 |(simp only[gr];(try refine cA ?_))
 |(refine mw (fun hp hb=>?_) (fun hp hb=>?_)<;>(try subst hp)<;>refine cA ?_)
 |(refine pK (fun hp hb=>?_) (fun hp hb=>?_)<;>(try subst hp)<;>refine cA ?_)
 |(refine pL (fun hp hb=>?_) (fun hp hb=>?_)<;>(try subst hp)<;>refine cA ?_)
 |(refine pM (fun hp hb=>?_) (fun hp hb=>?_)<;>(try subst hp)<;>refine cA ?_)
 |(refine pN (fun hb=>?_) (fun hb=>?_)<;>(first|(subst hb;(try have dS:=dS rfl);(try simp only[decide_eq_true_eq]at dS);(try subst dS);first|contradiction|refine cA ?_)|refine cA ?_))
 |(refine ni (fun hb=>?_) (fun hb=>?_)<;>(first|(subst hb;(try have dS:=dS rfl);(try simp only[decide_eq_true_eq]at dS);(try subst dS);first|contradiction|refine cA ?_)|refine cA ?_))
 |(refine n5 (fun hb=>?_) (fun hb=>?_)<;>(first|(subst hb;(try have dS:=dS rfl);(try simp only[decide_eq_true_eq]at dS);(try subst dS);first|contradiction|refine cA ?_)|refine cA ?_))
 |exact BD
 |(refine zw (by assumption) rfl (‹aB _ _›:aB _ _).1 (by omega) ?_;refine cA ?_)
 |(refine wX (by omega) (by omega) ?_;refine cA ?_)
 |exact trivial
 |exact Qn
 |fail
 first|done|fail):p:=h
theorem PS{p:Prop}(h:p:=by
 repeat' first
 |contradiction
 |exact kA5
 |(simp only[cG];(try refine cA ?_))
 |(simp only[gX];(try refine cA ?_))
 |(simp only[gr];(try refine cA ?_))
 |(refine mw (fun hp hb=>?_) (fun hp hb=>?_)<;>(try subst hp)<;>refine cA ?_)
 |(refine pK (fun hp hb=>?_) (fun hp hb=>?_)<;>(try subst hp)<;>refine cA ?_)
 |(refine pL (fun hp hb=>?_) (fun hp hb=>?_)<;>(try subst hp)<;>refine cA ?_)
 |(refine pM (fun hp hb=>?_) (fun hp hb=>?_)<;>(try subst hp)<;>refine cA ?_)
 |(refine pN (fun hb=>?_) (fun hb=>?_)<;>(first|(subst hb;(try have dS:=dS rfl);(try simp only[decide_eq_true_eq]at dS);(try subst dS);first|contradiction|refine cA ?_)|refine cA ?_))
 |(refine ni (fun hb=>?_) (fun hb=>?_)<;>(first|(subst hb;(try have dS:=dS rfl);(try simp only[decide_eq_true_eq]at dS);(try subst dS);first|contradiction|refine cA ?_)|refine cA ?_))
 |(refine n5 (fun hb=>?_) (fun hb=>?_)<;>(first|(subst hb;(try have dS:=dS rfl);(try simp only[decide_eq_true_eq]at dS);(try subst dS);first|contradiction|refine cA ?_)|refine cA ?_))
 |exact kB5
 |(refine zw (by assumption) rfl (‹aB _ _›:aB _ _).1 (by omega) ?_;refine cA ?_)
 |(refine wX (by omega) (by omega) ?_;refine cA ?_)
 |exact trivial
 |exact Qo
 |fail
 first|done|fail):p:=h
end Go.Pi
end
