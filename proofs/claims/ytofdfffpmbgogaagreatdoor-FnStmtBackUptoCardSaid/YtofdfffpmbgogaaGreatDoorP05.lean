import Derived.LoopN
import Derived.Test.YtofdfffpmbgogaaGreatDoorP04
/- Part of the proof. -/
set_option linter.all false
section
namespace Go.Pi
open Go.RowKit
section
variable{P:Program}{aT:World}{N:Nat}{E0:Env}{wi:World}
structure mK(P:Program)(N:Nat)(bJ:aS)(G:Nat->PV)(ops:Array Oper)(rid:Nat)(xs:List XO)(S:Nat->St)(F:Nat->List Nat×List Nat):Prop where
 len:xs.length=ops.size
 comp:∀(j:Nat)(o:Oper),ops[j]?=some o->∃x,xs[j]?=some x/\wD P N ops rid j o=some x
 run:∀(j:Nat)(x:XO),xs[j]?=some x->gS bJ G j x (S j)=some (S (j+1))/\F j=ed G x (S j)
 O6:∀x,x∈xs->kV x.k=false
 back:∀(j:Nat)(o:Oper),ops[j]?=some o->∀e,e∈o.after->Region.binds .any e=true->e.on<j
 indep:∀(i j:Nat)(x y:XO),i<j->xs[i]?=some x->xs[j]?=some y->sU ops ops.size i j=true\/zk x y (F i) (F j)
def Bm(xs:List XO)(y i:Nat):Bool:=decide ((xs[i]?).bind (·.dst)=some y)
def sW(F:Nat->List Nat×List Nat)(b i:Nat):Bool:=decide (b∈(F i).2)
structure At(xs:List XO)(S:Nat->St)(F:Nat->List Nat×List Nat)(L:Nat->Bool)(s:St):Prop where
 n:s.n=(S 0).n
 t:∀y,s.t y=(S (last (fun i=>L i&&Bm xs y i) xs.length)).t y
 H:∀b,s.H b=(S (last (fun i=>L i&&sW F b i) xs.length)).H b
variable{bJ:aS}{G:Nat->PV}{ops:Array Oper}{rid:Nat}{xs:List XO}{S:Nat->St}{F:Nat->List Nat×List Nat}
def Bo(ops:Array Oper)(L:Nat->Bool):Prop:=∀j o,ops[j]?=some o->L j=true->∀e,e∈o.after->Region.binds .any e=true->L e.on=true
theorem mK.get(hP:mK P N bJ G ops rid xs S F){j:Nat}(hj:j<ops.size):∃o x,ops[j]?=some o/\xs[j]?=some x/\wD P N ops rid j o=some x:=by
 obtain⟨x,h1,h2⟩:=hP.comp j ops[j] (by simp[hj]);exact⟨_,x,by simp[hj],h1,h2⟩
theorem mK.later(hP:mK P N bJ G ops rid xs S F){L:Nat->Bool}(ew:Bo ops L){i j:Nat}(wK:j<i)(hi:i<ops.size){x:XO}(hx:xs[j]?=some x)(hL:L i=true)(hj:L j=false):
 ∃y,xs[i]?=some y/\zk x y (F j) (F i):=by
 obtain⟨o,y,ho,hy,_⟩:=hP.get hi;refine⟨y,hy,?_⟩;rcases hP.indep j i x y wK hx hy with h|h
 ·have:=O5 ew _ j i o ho (fun e he hb=>ew i o ho hL e he hb) h;rw[hj]at this;cases this
 ·exact h
theorem mK.O7(hP:mK P N bJ G ops rid xs S F){L:Nat->Bool}(ew:Bo ops L){i j:Nat}(wK:i<j)(hj:j<ops.size){y:XO}(hy:xs[j]?=some y){o:Oper}(ho:ops[j]?=some o)(hr:∀e,e∈o.after->Region.binds .any e=true->L e.on=true)(hL:L i=false):
 ∃x,xs[i]?=some x/\zk x y (F i) (F j):=by
 obtain⟨o',x,qm,hx,_⟩:=hP.get (j:=i) (by omega);refine⟨x,hx,?_⟩;rcases hP.indep i j x y wK hx hy with h|h
 ·have:=O5 ew _ i j o ho hr h;rw[hL]at this;cases this
 ·exact h
theorem IJ{x y:XO}(h:Eg x y=true):(∀d,x.dst=some d->d∉looks y)/\(∀d,x.dst=some d->y.dst≠some d)/\(∀d,y.dst=some d->d∉looks x):=by
 refine⟨fun d hd=>?_,fun d hd=>?_,fun d hd=>?_⟩<;>simp[Eg,hd]at h
 ·exact h.1.1
 ·exact h.1.2
 ·exact h.2
theorem zl{y i:Nat}{x:XO}(hx:xs[i]?=some x):Bm xs y i=decide (x.dst=some y):=by simp only[Bm,hx,Option.bind_some]
theorem mK.frame(hP:mK P N bJ G ops rid xs S F){j:Nat}{x:XO}(hx:xs[j]?=some x):(∀y,Bm xs y j=false->(S (j+1)).t y=(S j).t y)/\∀b,sW F b j=false->(S (j+1)).H b=(S j).H b:=by
 obtain⟨h1,h2⟩:=hP.run j x hx;obtain⟨h3,h4⟩:=afB (hP.O6 x (List.mem_of_getElem? hx)) h1;refine⟨fun y hy=>h3 y (by rw[zl hx]at hy;simpa using hy),fun b hb=>h4 b (by rw[<-h2];simpa[sW]using hb)⟩
theorem mK.ready(hP:mK P N bJ G ops rid xs S F){L:Nat->Bool}(ew:Bo ops L){j:Nat}(hj:j<ops.size){x:XO}(hx:xs[j]?=some x){o:Oper}(ho:ops[j]?=some o)(hr:∀e,e∈o.after->Region.binds .any e=true->L e.on=true)(hL:L j=false)
 {s:St}(hA:At xs S F L s):(∀y,y∈looks x->s.t y=(S j).t y)/\(∀b,b∈(F j).1->s.H b=(S j).H b)/\∀b,b∈(F j).2->s.H b=(S j).H b:=by
 have key:∀(p:Nat->Bool),(∀i,i<xs.length->j<i->L i=true->p i=false)->(∀i,i<j->L i=false->p i=false)->last (fun i=>L i&&p i) xs.length=last p j:=by
  intro p h1 h2;rw[En (j:=j) (by rw[hP.len];omega)]
  ·refine Em fun i hi=>?_
   cases h:L i with
   |true=>simp
   |false=>simp[h2 i hi h]
  ·intro i h3 h4;by_cases e:i=j
   ·subst e;simp[hL]
   ·cases h:L i with
    |true=>simp[h1 i h4 (by omega) h]
    |false=>simp
 have rI:∀i,i<j->∃y,xs[i]?=some y:=fun i hi=>by
  obtain⟨_,y,_,h,_⟩:=hP.get (j:=i) (by omega);exact⟨y,h⟩
 have kH:∀b,((∀y fi,zk x y (F j) fi->b∉fi.2)/\∀y fi,zk y x fi (F j)->b∉fi.2)->s.H b=(S j).H b:=by
  rintro b ⟨h1,h2⟩;rw[hA.H b,key (sW F b) ?_ ?_]
  ·exact Eo (f:=fun i=>(S i).H b) fun i hi hp=>by
    obtain⟨y,hy⟩:=rI i hi;exact(hP.frame hy).2 b hp
  ·intro i hi IK qy;obtain⟨y,hy,jI⟩:=hP.later ew IK (by rw[<-hP.len];exact hi) hx qy hL;simpa[sW]using h1 y _ jI
  ·intro i hi qy;obtain⟨y,hy,jI⟩:=hP.O7 ew hi hj hx ho hr qy;simpa[sW]using h2 y _ jI
 refine⟨fun y hy=>?_,fun b hb=>kH b ⟨fun y fi h=>h.2.2 b hb,fun y fi h fD=>(h.2.1 b fD).1 hb⟩,fun b hb=>kH b ⟨fun y fi h=>(h.2.1 b hb).2,fun y fi h fD=>(h.2.1 b fD).2 hb⟩⟩;rw[hA.t y,key (Bm xs y) ?_ ?_]
 ·exact Eo (f:=fun i=>(S i).t y) fun i hi hp=>by
   obtain⟨z,hz⟩:=rI i hi;exact(hP.frame hz).1 y hp
 ·intro i hi IK qy;obtain⟨z,hz,jI⟩:=hP.later ew IK (by rw[<-hP.len];exact hi) hx qy hL;rw[zl hz];simp only[decide_eq_false_iff_not];exact fun h=>(IJ jI.1).2.2 y h hy
 ·intro i hi qy;obtain⟨z,hz,jI⟩:=hP.O7 ew hi hj hx ho hr qy;rw[zl hz];simp only[decide_eq_false_iff_not];exact fun h=>(IJ jI.1).1 y h hy
theorem mK.step(hP:mK P N bJ G ops rid xs S F){L:Nat->Bool}(ew:Bo ops L){j:Nat}(hj:j<ops.size){x:XO}(hx:xs[j]?=some x){o:Oper}(ho:ops[j]?=some o)(hr:∀e,e∈o.after->Region.binds .any e=true->L e.on=true)(hL:L j=false)
 {s:St}(hA:At xs S F L s):∃s',gS bJ G j x s=some s'/\ed G x s=F j/\At xs S F (fun i=>L i||i==j) s':=by
 obtain⟨bC,hF⟩:=hP.run j x hx;obtain⟨ht,hR,hW⟩:=hP.ready ew hj hx ho hr hL hA;have hv:=hP.O6 x (List.mem_of_getElem? hx);have zm:(S j).n=(S 0).n:=IG (fun j x hx=>(hP.run j x hx).1) j (by rw[hP.len];omega);obtain⟨h1,h2⟩:=OZ hv bC (t2:=s.t) (H2:=s.H) ht (by rw[<-hF];exact hR) (by rw[<-hF];exact hW);have es:(⟨s.t,s.H,(S j).n⟩:St)=s:=by rw[zm,<-hA.n]
 rw[es]at h1 h2;refine⟨_,h1,h2.trans hF.symm,⟨zm,fun y=>?_,fun b=>?_⟩⟩
 ·by_cases e:x.dst=some y
  ·simp only[if_pos e];rw[En (j:=j+1) (by rw[hP.len];omega)]
   ·simp only[last];rw[if_pos (by rw[zl hx];simp[e])]
   ·intro i h3 h4;have dW:(i==j)=false:=by simp;omega
    simp only[dW,Bool.or_false];cases qy:L i with
    |false=>rfl
    |true=>
     obtain⟨z,hz,jI⟩:=hP.later ew (show j<i by omega) (by rw[<-hP.len];exact h4) hx qy hL;rw[zl hz];simpa using(IJ jI.1).2.1 y e
  ·simp only[if_neg e];rw[hA.t y];congr 2;refine Em fun i hi=>?_
   by_cases ei:i=j
   ·subst ei;rw[zl hx];simp[e]
   ·have dW:(i==j)=false:=by simpa using ei
    simp only[dW,Bool.or_false]
 ·rw[<-hF];by_cases e:b∈(F j).2
  ·simp only[lx,if_pos e];rw[En (j:=j+1) (by rw[hP.len];omega)]
   ·simp only[last];rw[if_pos (by simp[sW,e])]
   ·intro i h3 h4;have dW:(i==j)=false:=by simp;omega
    simp only[dW,Bool.or_false];cases qy:L i with
    |false=>rfl
    |true=>
     obtain⟨z,hz,jI⟩:=hP.later ew (show j<i by omega) (by rw[<-hP.len];exact h4) hx qy hL;simpa[sW]using(jI.2.1 b e).2
  ·simp only[lx,if_neg e];rw[hA.H b];congr 2;refine Em fun i hi=>?_
   by_cases ei:i=j
   ·subst ei;simp[sW,e]
   ·have dW:(i==j)=false:=by simpa using ei
    simp only[dW,Bool.or_false]
theorem mK.done(hP:mK P N bJ G ops rid xs S F){L:Nat->Bool}(hL:∀i,i<ops.size->L i=true){s:St}(hA:At xs S F L s):s=S xs.length:=by
 have lg:∀p:Nat->Bool,last (fun i=>L i&&p i) xs.length=last p xs.length:=fun p=>Em fun i hi=>by rw[hL i (by rw[<-hP.len];exact hi)];rfl
 have rI:∀i,i<xs.length->∃y,xs[i]?=some y:=fun i hi=>⟨xs[i],by simp[hi]⟩
 obtain⟨t,H,n⟩:=s;have e1:t=(S xs.length).t:=funext fun y=>by
  show(⟨t,H,n⟩:St).t y=_;rw[hA.t y,lg];exact Eo (f:=fun i=>(S i).t y) fun i hi hp=>by
   obtain⟨z,hz⟩:=rI i hi;exact(hP.frame hz).1 y hp
 have e2:H=(S xs.length).H:=funext fun b=>by
  show(⟨t,H,n⟩:St).H b=_;rw[hA.H b,lg];exact Eo (f:=fun i=>(S i).H b) fun i hi hp=>by
   obtain⟨z,hz⟩:=rI i hi;exact(hP.frame hz).2 b hp
 have e3:n=(S xs.length).n:=hA.n.trans (IG (fun j x hx=>(hP.run j x hx).1) _ (Nat.le_refl _)).symm;rw[e1,e2,e3]
def UL(n m:Nat)(F:Nat->List Nat×List Nat)(L:Nat->Bool):Nat->Nat->Prop:=fun b g=>g<n\/∃i,i<m/\L i=true/\g=n+i/\b∈(F i).2
theorem afH(hS:ic P aT bJ)(hG:pD aT G)(hP:mK P N bJ G ops rid xs S F){Q:Exit->Act->World->Prop}(hQ:∀a w,Rel P aT N E0 wi (UB (S 0).n ops.size) (S xs.length) a w->Q .normal a w):
 ∀(gk:Nat)(listed:Array Bool)(s:St)(a:Act)(w:World),listed.size=ops.size->listed.toList.count false=gk->Bo ops (fun i=>listed.getD i false)->At xs S F (fun i=>listed.getD i false) s->
  Rel P aT N E0 wi (UL (S 0).n ops.size F (fun i=>listed.getD i false)) s a w->wpAny P .any ops Q gk listed a w:=by
 have Es:∀(listed:Array Bool)(i:Nat),listed.size=ops.size->i<ops.size->listed.getD i true=listed.getD i false:=by
  intro listed i h hi;simp[Array.getD,h,hi]
 intro gk
 induction gk with
 |zero=>
  intro listed s a w fL hc ew hA hR;have lg:∀i,i<ops.size->listed.getD i false=true:=by
   intro i hi;have kO:i<listed.size:=by rw[fL];exact hi
   have h0:=List.count_eq_zero.1 hc;have hm:listed.toList[i]'(by simpa using kO)∈listed.toList:=List.getElem_mem _
   simp only[Array.getD,kO,dif_pos];have e:listed.getInternal i kO=listed.toList[i]'(by simpa using kO):=rfl
   rw[e];cases h:listed.toList[i]'(by simpa using kO)with
   |true=>rfl
   |false=>rw[h]at hm;exact absurd hm h0
  refine⟨?_,?_⟩
  ·cases hr:Region.ready .any ops listed with
   |nil=>rfl
   |cons i is=>
    have hm:i∈Region.ready .any ops listed:=by rw[hr];simp
    obtain⟨h1,o,ho,_⟩:=mem_ready.1 hm;have hi:=(Array.getElem?_eq_some_iff.1 ho).1;rw[Es listed i fL hi,lg i hi]at h1;cases h1
  ·have e:=hP.done lg hA;subst e;refine hQ a w ?_;obtain⟨E,h⟩:=hR;refine⟨E,h.inv,h.heap,h.oT,h.size,h.defers,fun b g hk=>?_,h.ext⟩;show g<(S 0).n+ops.size;rcases h.used b g hk with h|⟨i,h1,_,h2,_⟩<;>omega
 |succ gk ih=>
  intro listed s a w fL hc ew hA hR;refine⟨fun A1=>?_,fun i hi=>?_⟩
  ·exfalso;have hex:∃j,j<ops.size/\listed.getD j false=false:=by
    have:0<listed.toList.count false:=by omega
    obtain⟨j,hj,he⟩:=List.getElem_of_mem (List.count_pos_iff.1 this);have O8:j<listed.size:=by simpa using hj
    refine⟨j,by rw[<-fL];exact O8,?_⟩;simp only[Array.getD,O8,dif_pos];exact he
   obtain⟨j0,h0,h1⟩:=hex;have afI:∀n j,j<=n->j<ops.size->listed.getD j false=false->False:=by
    intro n
    induction n with
    |zero=>
     intro j hj wL IL;have:j=0:=by omega
     subst this;have hm:0∈Region.ready .any ops listed:=by
      refine mem_ready.2 ⟨by rw[Es listed 0 fL wL];exact IL,ops[0],by simp[wL],fun e he hb=>?_⟩;have:=hP.back 0 ops[0] (by simp[wL]) e he hb;omega
     rw[A1]at hm;cases hm
    |succ n IM=>
     intro j hj wL IL;have hm:j∈Region.ready .any ops listed:=by
      refine mem_ready.2 ⟨by rw[Es listed j fL wL];exact IL,ops[j],by simp[wL],fun e he hb=>?_⟩;have cE:=hP.back j ops[j] (by simp[wL]) e he hb;cases hq:listed.getD e.on false with
      |true=>rfl
      |false=>exact(IM e.on (by omega) (by omega) hq).elim
     rw[A1]at hm;cases hm
   exact afI j0 j0 (Nat.le_refl _) h0 h1
  ·obtain⟨hl,o,ho,he⟩:=mem_ready.1 hi;have zn:=(Array.getElem?_eq_some_iff.1 ho).1;rw[Es listed i fL zn]at hl;obtain⟨x,hx,hcx⟩:=hP.comp i o ho;obtain⟨s',bC,wI,hA'⟩:=hP.step ew zn hx ho he hl hA;have hn:s.n=(S 0).n:=hA.n;have eL:(fun k=>(listed.setIfInBounds i true).getD k false)=fun k=>listed.getD k false||k==i:=by
    funext k;by_cases e:k=i
    ·subst e;simp[Array.getD,fL,zn]
    ·rw[getD_set_ne false (Ne.symm e)];simp[e]
   refine OU hS hG hcx ho hR ?_ bC ?_
   ·rw[wI,hn];rintro b hb g hg (h|⟨i',h1,h2,h3,h4⟩)
    ·omega
    ·by_cases e:i'=i
     ·subst e;have Bp:listed.getD i' false=true:=h2;rw[hl]at Bp;cases Bp
     ·obtain⟨y,hy,jI⟩:=hP.later ew (show i<i' by omega) h1 hx h2 hl;exact(jI.2.1 b hb).2 h4
   ·intro a' w' rD;refine ih (listed.setIfInBounds i true) s' a' w' (by simpa using fL) ?_ ?_ (by rw[eL];exact hA') ?_
    ·rw[Array.toList_setIfInBounds];have kO:i<listed.toList.length:=by simpa[fL]using zn
     rw[List.count_set kO,hc];have:listed.toList[i]=false:=by
      have:=hl;simp only[Array.getD,fL,zn,dif_pos]at this;exact this
     simp[this]
    ·rw[eL];intro j o' qm hj e' iT eS;simp only[Bool.or_eq_true,beq_iff_eq]at hj⊢;rcases hj with hj|rfl
     ·exact .inl (ew j o' qm hj e' iT eS)
     ·rw[ho]at qm;cases qm;exact .inl (he e' iT eS)
    ·rw[eL];obtain⟨E,h⟩:=rD;refine⟨E,h.inv,h.heap,h.oT,h.size,h.defers,fun b g hk=>?_,h.ext⟩;rcases h.used b g hk with(h|⟨i',h1,h2,h3,h4⟩)|⟨h1,h2⟩
     ·exact .inl h
     ·exact .inr ⟨i',h1,by simp only[Bool.or_eq_true];exact .inl h2,h3,h4⟩
     ·exact .inr ⟨i,zn,by simp,by rw[h1,hn],by rw[<-wI];exact h2⟩
end
end Go.Pi
end
section
namespace Go.Pi
open Go.RowKit
def O9:Ex->Exit
 | .normal=> .normal
 | .exit id=> .exit id
 | .ret=> .ret
theorem afL{bJ:aS}{G:Nat->PV}{gk:Nat}:∀(xs ys:List XC)(s:St),iw bJ G gk (xs++ys) s=(iw bJ G gk xs s).bind fun r=>match r.1 with
 | .normal=>iw bJ G gk ys r.2
 |e=>some (e,r.2):=by
 intro xs
 induction xs with
 |nil=>intro ys s;simp[iw]
 |cons x xs ih=>
  intro ys s;simp only[List.cons_append,iw];cases h:fU bJ G gk x s with
  |none=>rfl
  |some r=>
   obtain⟨e,s1⟩:=r;cases e with
   |normal=>simp only[Option.bind_some];exact ih ys s1
   |exit id=>rfl
   |ret=>rfl
theorem wN{bJ:aS}{G:Nat->PV}{gk:Nat}{x:XC}{s:St}{r:Ex×St}(h:iw bJ G gk [x] s=some r):fU bJ G gk x s=some r:=by
 simp only[iw,Option.bind_eq_some_iff]at h;obtain⟨⟨e,s1⟩,h1,h2⟩:=h;cases e<;>simp only[Option.some.injEq]at h2<;>rw[h1,<-h2]
section
variable{P:Program}{aT:World}{N:Nat}{E0:Env}{wi:World}{bJ:aS}{G:Nat->PV}
theorem Rel.drew{U:Nat->Nat->Prop}{s:St}{a:Act}{w w':World}(ha:Alike w w')(h:Rel P aT N E0 wi U s a w):Rel P aT N E0 wi U s a w':=by
 obtain⟨E,h⟩:=h;exact⟨E,h.inv.alike ha,h.heap,h.oT,h.size,h.defers,h.used,h.ext.trans (Ext.alike ha)⟩
theorem Rel.mono{U U':Nat->Nat->Prop}{s:St}{a:Act}{w:World}(hU:∀b g,U b g->U' b g)(h:Rel P aT N E0 wi U s a w):Rel P aT N E0 wi U' s a w:=by
 obtain⟨E,h⟩:=h;exact⟨E,h.inv,h.heap,h.oT,h.size,h.defers,fun b g k=>hU b g (h.used b g k),h.ext⟩
theorem afM(hS:ic P aT bJ)(hG:pD aT G){id:Nat}{ops:Array Oper}{xs:List XO}(hc:qu P N ops id 0 ops.toList=some xs){s s':St}{a:Act}{w:World}(hr:Rel P aT N E0 wi (UB s.n 0) s a w)
 (bC:qt bJ G 0 xs s=some s'){Q:Exit->Act->World->Prop}(hQ:∀a' w',Rel P aT N E0 wi (UB (s'.n+xs.length) 0) ⟨s'.t,s'.H,s'.n+xs.length⟩ a' w'->Q .normal a' w'):(Code.region id ops false).wp P Q a w:=by
 have hl:=(OX ops.toList 0 xs hc).1;refine wp_region ?_;rw[List.range_eq_range'];refine afw hS hG ops.size 0 xs (by omega) (by simpa using hc) hr bC ?_;intro a' w' hn h;refine hQ a' w' ?_;obtain⟨E,h⟩:=h;refine⟨E,h.inv,h.heap,h.oT,h.size,h.defers,fun b g k=>?_,h.ext⟩;have:g<s.n+ops.size:=h.used b g k;show g<s'.n+xs.length+0;rw[hl,hn];simpa using this
theorem afN(hm:P.follows .mixedOrders=true)(hS:ic P aT bJ)(hG:pD aT G){id:Nat}{ops:Array Oper}{xs:List XO}(hc:qu P N ops id 0 ops.toList=some xs)(IP:Be ops xs=true)(hv:xs.all (fun x=>!kV x.k)=true)
 {s s':St}{a:Act}{w:World}(hr:Rel P aT N E0 wi (UB s.n 0) s a w)
 (bC:uR bJ G xs (Bd ops xs) s=some s'){Q:Exit->Act->World->Prop}(hQ:∀a' w',Rel P aT N E0 wi (UB (s'.n+xs.length) 0) ⟨s'.t,s'.H,s'.n+xs.length⟩ a' w'->Q .normal a' w'):(Code.region id ops true).wp P Q a w:=by
 obtain⟨hl,afO⟩:=OX ops.toList 0 xs hc;have hl:xs.length=ops.size:=by simpa using hl
 unfold uR at bC;split at bC
 ·rename_i sE ft Ep;split at bC
  ·rename_i Bh;simp only[Option.some.injEq]at bC;subst bC;obtain⟨S,uX,Pa,zo,rI⟩:=afC xs 0 s sE ft Ep;have hP:mK P N bJ G ops id xs S (fun j=>(ft[j]?).getD ([],[])):=by
    refine⟨hl,fun j o ho=>?_,fun j x hx=>?_,fun x hx=>?_,fun j o ho e he hb=>?_,fun i j x y wK hx hy=>?_⟩
    ·obtain⟨x,h1,h2⟩:=afO j o (by simpa using ho);exact⟨x,h1,by simpa using h2⟩
    ·obtain⟨h1,h2⟩:=rI j x hx;refine⟨by simpa using h1,?_⟩;simp only[h2,Option.getD_some]
    ·have:=(List.all_eq_true.1 hv) x hx;simpa using this
    ·simp only[Be,Bool.and_eq_true,List.all_eq_true,Prod.forall,List.mem_zipIdx_iff_getElem?]at IP;have:=(Array.all_eq_true_iff_forall_mem.1 (IP.1 o j (by simpa using ho))) e he;simpa[hb]using this
    ·have:=afF (G:=G) (S:=S) IP Bh (fun j x hx=>(rI j x hx).2) wK hx hy;simp only[(rI i x hx).2,(rI j y hy).2,Option.getD_some];exact this
   refine wp_region_any hm ?_;have hal:Alike w {w with drawn:=w.drawn+1}:=Alike.drew w;refine afH (E0:=E0) (wi:=wi) hS hG hP ?_ ops.size _ s a _ (by simp) (by simp) ?_ ?_ ?_
   ·intro a' w' h;refine hQ a' w' ?_;have hn:sE.n=s.n:=by rw[<-Pa,<-uX];exact IG (fun j x hx=>(hP.run j x hx).1) _ (Nat.le_refl _)
    rw[Pa]at h;obtain⟨E,h⟩:=h;refine⟨E,h.inv,h.heap,h.oT,h.size,h.defers,fun b g k=>?_,h.ext⟩;have:g<(S 0).n+ops.size:=h.used b g k;show g<sE.n+xs.length+0;rw[hl,hn,<-uX];simpa using this
   ·intro j o ho hj;have cE:=(Array.getElem?_eq_some_iff.1 ho).1;simp[Array.getD,cE]at hj
   ·have hz:∀p:Nat->Bool,last (fun i=>(Array.replicate ops.size false).getD i false&&p i) xs.length=0:=by
     intro p;rw[En (j:=0) (Nat.zero_le _)]
     ·rfl
     ·intro i _ hi;rw[hl]at hi;simp[Array.getD,hi]
    refine⟨by rw[uX],fun y=>by rw[hz,uX],fun b=>by rw[hz,uX]⟩
   ·refine(hr.drew hal).mono fun b g h=> .inl ?_
    have:g<s.n+0:=h;rw[uX];simpa using this
  ·cases bC
 ·cases bC
theorem afQ(hm:P.follows .mixedOrders=true)(hS:ic P aT bJ)(hG:pD aT G)(gk:Nat):∀(c:Code)(xs:List XC),l9 P N c=some xs->∀(s s':St)(ex:Ex)(a:Act)(w:World)(Q:Exit->Act->World->Prop),
 iw bJ G gk xs s=some (ex,s')->Rel P aT N E0 wi (UB s.n 0) s a w->(∀a' w',Rel P aT N E0 wi (UB s'.n 0) s' a' w'->Q (O9 ex) a' w')->c.wp P Q a w:=by
 intro c
 induction c with
 |skip=>
  intro xs hc s s' ex a w Q bC hr hQ;simp only[l9,Option.some.injEq]at hc;subst hc;simp only[iw,Option.some.injEq,Prod.mk.injEq]at bC;obtain⟨rfl,rfl⟩:=bC;exact wp_skip (hQ a w hr)
 |region id ops afR=>
  intro xs hc s s' ex a w Q bC hr hQ;cases afR with
  |false=>
   simp only[l9,bind,Option.bind_eq_some_iff,Option.some.injEq]at hc;obtain⟨ys,dY,rfl⟩:=hc;have h1:=wN bC;simp only[fU,Option.map_eq_some_iff,Prod.mk.injEq]at h1;obtain⟨s1,h1,rfl,rfl⟩:=h1;exact afM hS hG dY hr h1 hQ
  |true=>
   simp only[l9,bind,Option.bind_eq_some_iff]at hc;obtain⟨ys,dY,hc⟩:=hc;split at hc
   ·rename_i jK;simp only[Bool.and_eq_true]at jK;simp only[Option.some.injEq]at hc;subst hc;have h1:=wN bC;simp only[fU,Option.map_eq_some_iff,Prod.mk.injEq]at h1;obtain⟨s1,h1,rfl,rfl⟩:=h1;exact afN hm hS hG dY jK.1 jK.2 hr h1 hQ
   ·cases hc
 |seq x y IQ IR=>
  intro xs hc s s' ex a w Q bC hr hQ;simp only[l9,bind,Option.bind_eq_some_iff,Option.some.injEq]at hc;obtain⟨xa,wO,xb,wP,rfl⟩:=hc;rw[afL,Option.bind_eq_some_iff]at bC;obtain⟨⟨e1,s1⟩,h1,h2⟩:=bC;refine wp_seq (IQ xa wO s s1 e1 a w _ h1 hr ?_);intro a' w' ko;cases e1 with
  |normal=>exact IR xb wP s1 s' ex a' w' Q h2 ko hQ
  |exit id=>simp only[Option.some.injEq,Prod.mk.injEq]at h2;obtain⟨rfl,rfl⟩:=h2;exact hQ a' w' ko
  |ret=>simp only[Option.some.injEq,Prod.mk.injEq]at h2;obtain⟨rfl,rfl⟩:=h2;exact hQ a' w' ko
 |cond c x y IQ IR=>
  intro xs hc s s' ex a w Q bC hr hQ;simp only[l9,bind,Option.bind_eq_some_iff,Option.some.injEq]at hc;obtain⟨oc,hoc,xa,wO,xb,wP,rfl⟩:=hc;have h1:=wN bC;simp only[fU]at h1;split at h1
  ·rename_i t ht;have jw:a.eval c= .bool t:=by
    obtain⟨E,h⟩:=hr;have:=OK hG h.inv h.oT c oc hoc;rw[ht]at this;generalize a.eval c=z at this;cases this;rfl
   refine wp_cond jw ?_;cases t with
   |true=>simp only[if_true]at h1⊢;exact IQ xa wO s s' ex a w Q h1 hr hQ
   |false=>simp only[Bool.false_eq_true,if_false]at h1⊢;exact IR xb wP s s' ex a w Q h1 hr hQ
  ·cases h1
 |block id x ih=>
  intro xs hc s s' ex a w Q bC hr hQ;simp only[l9,bind,Option.bind_eq_some_iff,Option.some.injEq]at hc;obtain⟨xa,wO,rfl⟩:=hc;have h1:=wN bC;simp only[fU,Option.map_eq_some_iff]at h1;obtain⟨⟨e1,s1⟩,h1,h2⟩:=h1;refine wp_block (ih xa wO s s1 e1 a w _ h1 hr ?_);intro a' w' ko;cases e1 with
  |normal=>simp only[Prod.mk.injEq]at h2;obtain⟨rfl,rfl⟩:=h2;exact hQ a' w' ko
  |exit j=>
   simp only at h2;simp only[O9,Exit.inBlock];split at h2
   ·rename_i hj;simp only[Prod.mk.injEq]at h2;obtain⟨rfl,rfl⟩:=h2;rw[if_pos hj];exact hQ a' w' ko
   ·rename_i hj;simp only[Prod.mk.injEq]at h2;obtain⟨rfl,rfl⟩:=h2;rw[if_neg hj];exact hQ a' w' ko
  |ret=>simp only[Prod.mk.injEq]at h2;obtain⟨rfl,rfl⟩:=h2;exact hQ a' w' ko
 |loop x ih=>
  intro xs hc s s' ex a w Q bC hr hQ;simp only[l9,bind,Option.bind_eq_some_iff,Option.some.injEq]at hc;obtain⟨xa,wO,rfl⟩:=hc;have h1:=wN bC;simp only[fU]at h1;have key:∀(n:Nat)(s:St)(a:Act)(w:World),rounds (iw bJ G gk xa) n s=some (ex,s')->Rel P aT N E0 wi (UB s.n 0) s a w->Code.rounds P x Q n a w:=by
   intro n
   induction n with
   |zero=>intro s a w h;cases h
   |succ n IM=>
    intro s a w h hr;simp only[rounds,Option.bind_eq_some_iff]at h;obtain⟨⟨e1,s1⟩,h1,h2⟩:=h;rw[rounds_succ];refine ih xa wO s s1 e1 a w _ h1 hr ?_;intro a' w' ko;cases e1 with
    |normal=>exact IM s1 a' w' h2 ko
    |exit id=>simp only[Option.some.injEq,Prod.mk.injEq]at h2;obtain⟨rfl,rfl⟩:=h2;exact hQ a' w' ko
    |ret=>simp only[Option.some.injEq,Prod.mk.injEq]at h2;obtain⟨rfl,rfl⟩:=h2;exact hQ a' w' ko
  exact wp_loop_rounds gk (key gk s a w h1 hr)
 |exit id=>
  intro xs hc s s' ex a w Q bC hr hQ;simp only[l9,Option.some.injEq]at hc;subst hc;have h1:=wN bC;simp only[fU,Option.some.injEq,Prod.mk.injEq]at h1;obtain⟨rfl,rfl⟩:=h1;exact wp_exit (hQ a w hr)
 |ret=>
  intro xs hc s s' ex a w Q bC hr hQ;simp only[l9,Option.some.injEq]at hc;subst hc;have h1:=wN bC;simp only[fU,Option.some.injEq,Prod.mk.injEq]at h1;obtain⟨rfl,rfl⟩:=h1;exact wp_ret (hQ a w hr)
 |_=>intro xs hc;simp[l9]at hc
end
end Go.Pi
end
section
namespace Go.Pi
open Go.RowKit
def Bq(ag:Bool)(cs:List PV):Option PV:=
 if ag then some (.agg cs)else match cs with
  |[c]=>some c
  |_=>none
def rJ(t:Nat->PV)(H:al):List RV->Option (List PV)
 |[]=>some []
 | .tmp n::rs=>(rJ t H rs).map (t n::·)
 | .cell n ag k::rs=>
   match kN H k (t n),rJ t H rs with
   |some cs,some vs=>(Bq ag cs).map (·::vs)
   |_,_=>none
def wQ:List PV->PV
 |[v]=>v
 |vs=> .bZ vs
def Br(ch:Option Chunk)(H:al):Option (List PV):=
 match ch with
 |none=>some []
 |some c=>match H 0 with
  |some c'=>if c'.gen=0/\c'.e=c.e/\c'.s=c.s then some c'.cells else none
  |none=>none
def sX(bJ:aS)(G:Nat->PV)(gk:Nat)(fx:FX)(args:List PV)(ch:Option Chunk):Option (PV×List PV):=
 if args.length<=fx.n then
  match iw bJ G gk fx.body ⟨fun i=>args.getD i .undef,H0 ch,1⟩with
  |some (e,s)=>
   match e,rJ s.t s.H fx.jJ,Br ch s.H with
   | .exit _,_,_=>none
   |_,some vs,some cs=>
    match eh (settle depth s.H) (wQ vs::cs)with
    |some (r::cells,ids)=>if ids.contains 0 then none else some (r,cells)
    |_=>none
   |_,_,_=>none
  |none=>none
 else none
section
variable{P:Program}{aT:World}{E:Env}{w:World}
theorem afT(hI:Inv P aT E w){t:TypeId}{ag:Bool}{s:Nat}{x:PV}{v:Value}{cs:List PV}(sN:yY P t=some ag)(hs:im P t=some s)(hx:bD E x v)(hc:kN E.H (if ag then s else 1) x=some cs){r:PV}
 (hr:Bq ag cs=some r):∃z,(do loadVar t (<-asAddr v):Sem Value).run P w= .ok z w/\bD E r z:=by
 obtain⟨a,U,rfl,hl,zf,hf,hm⟩:=Oa hI hx hc;cases ag with
 |true=>
  simp only[Bq,if_true,Option.some.injEq]at hr hl;subst hr;refine⟨.agg U.toArray,?_,zf.agg hf⟩;have hU:U.length=s:=hl;simp only[asAddr,loadVar,Sem.run_bind,Sem.run_pure,Result.andThen_ok,D1 sN,if_true,pz hs,<-hU,run_loadCells w a U hm]
 |false=>
  simp only[Bq,Bool.false_eq_true,if_false]at hr hl;clear hc
  match U,hl with
  |[z],_=>
   obtain⟨aW,zf⟩:=zf
   match cs,aW,hr with
   |[c],_,hr=>
    simp only[Option.some.injEq]at hr;subst hr;refine⟨z,?_,zf 0 c z rfl rfl⟩;have h0:=hm 0 z rfl;have HX:a.add 0=a:=by simp[Addr.add]
    rw[HX]at h0;simp[asAddr,loadVar,D1 sN,h0]
def Et(tmps:Array Value):ResultVar->Sem Value
 | .tmp t=>pure (tmps.getD t undef)
 | .cell a t=>do loadVar t (<-asAddr (tmps.getD a undef))
theorem afU(fn:Func)(tmps:Array Value):results fn tmps=(fn.results.mapM (Et tmps) >>= fun vs=>pure (if h:vs.size=1 then vs[0]else .tuple vs)):=rfl
theorem afV(hI:Inv P aT E w){t:Nat->PV}{tmps:Array Value}(hs:∀x,bD E (t x) (tmps.getD x undef)):
 ∀(rs:List ResultVar)(xs:List RV)(vs:List PV),uS P rs=some xs->rJ t E.H xs=some vs->∃us,(rs.mapM (Et tmps)).run P w= .ok us w/\b9 E vs us:=by
 intro rs
 induction rs with
 |nil=>
  intro xs vs hc hr;simp only[uS,Option.some.injEq]at hc;subst hc;simp only[rJ,Option.some.injEq]at hr;subst hr;exact⟨[],by simp,b9.nil E⟩
 |cons r rs ih=>
  intro xs vs hc hr;cases r with
  |tmp n=>
   simp only[uS,bind,Option.bind_eq_some_iff,Option.some.injEq]at hc;obtain⟨ys,dY,rfl⟩:=hc;simp only[rJ,Option.map_eq_some_iff]at hr;obtain⟨IU,wm,rfl⟩:=hr;obtain⟨us,h1,h2⟩:=ih ys IU dY wm;refine⟨tmps.getD n undef::us,?_,.cons (hs n) h2⟩;rw[List.mapM_cons];simp only[Et,Sem.run_bind,Sem.run_pure,Result.andThen_ok,h1]
  |cell n ty=>
   simp only[uS,bind,Option.bind_eq_some_iff,Option.some.injEq]at hc;obtain⟨ag,sN,s,fL,ys,dY,rfl⟩:=hc;simp only[rJ]at hr;split at hr
   ·rename_i cs IU fC wm;obtain⟨us,h1,h2⟩:=ih ys IU dY wm;simp only[Option.map_eq_some_iff]at hr;obtain⟨r,pG,rfl⟩:=hr;obtain⟨z,h3,h4⟩:=afT hI sN fL (hs n) fC pG;refine⟨z::us,?_,.cons h4 h2⟩;rw[List.mapM_cons];simp only[Et,Sem.run_bind]at h3⊢;simp only[h3,Sem.run_pure,Result.andThen_ok,h1]
   ·cases hr
theorem afW(hI:Inv P aT E w){fn:Func}{t:Nat->PV}{tmps:Array Value}(hs:∀x,bD E (t x) (tmps.getD x undef)){xs:List RV}{vs:List PV}(hc:uS P fn.results.toList=some xs)(hr:rJ t E.H xs=some vs):
 ∃v,(results fn tmps).run P w= .ok v w/\bD E (wQ vs) v:=by
 obtain⟨us,h1,h2⟩:=afV hI hs fn.results.toList xs vs hc hr;refine⟨if h:us.toArray.size=1 then us.toArray[0]else .tuple us.toArray,?_,?_⟩
 ·rw[afU,Array.mapM_eq_mapM_toList];simp only[Sem.run_bind,Sem.run_map];rw[h1];rfl
 ·have hl:=h2.1
  match vs,us,hl,h2 with
  |[],[],_,h2=>exact h2.bZ
  |[v],[u],_,h2=>obtain⟨_,_,he,h,_⟩:=h2.head;cases he;exact h
  |v::v'::vs,u::u'::us,_,h2=>exact h2.bZ
def Env.nZ(E:Env)(b:Nat)(c:Chunk)(cells:List PV):Env:=⟨E.K,E.F,E.β,E.κ,E.H.put b (some ⟨c.e,c.gen,cells,c.s⟩)⟩
theorem IV{b:Nat}{c:Chunk}{cells:List PV}(hb:E.H b=some c):Le E (E.nZ b c cells):=by
 refine⟨fun _ _ h=>h,fun _ _ h=>h,fun x c' hx _=>?_⟩;by_cases e:x=b
 ·subst e;simp only[Env.nZ,al.fT,Option.some.injEq]at hx;subst hx;exact⟨c,hb,rfl,rfl,rfl⟩
 ·simp only[Env.nZ,al.gh _ _ e]at hx;exact⟨c',hx,rfl,rfl,rfl⟩
theorem afX(hI:Inv P aT E w){b:Nat}{c:Chunk}{cells:List PV}(hb:E.H b=some c)(hl:cells.length=c.cells.length)(hf:∀x,x∈cells->x.flat=true)(hd:∀cs:Array Value,w.heap[E.β b]?=some (.cells cs c.e (0,0))->b9 E cells (cs.toList.take c.cells.length)):Inv P aT (E.nZ b c cells) w:=by
 have aV:=IV (cells:=cells) hb;have Pb:∀y gQ,(E.nZ b c cells).H y=some gQ->∃c3,E.H y=some c3:=by
  intro y gQ hy;by_cases e:y=b
  ·subst e;exact⟨c,hb⟩
  ·simp only[Env.nZ,al.gh _ _ e]at hy;exact⟨gQ,hy⟩
 refine⟨hI.below,hI.cell,hI.old,fun x c' hx=>?_⟩;by_cases e:x=b
 ·subst e;simp only[Env.nZ,al.fT,Option.some.injEq]at hx;subst hx;have h:=hI.chunk x c hb;refine⟨h.used,h.last,h.own,fun y gQ hy he=>?_,h.free,?_,hf⟩
  ·obtain⟨c3,h3⟩:=Pb y gQ hy;exact h.apart y c3 h3 he
  ·obtain⟨cs,k1,k2,k3,k4⟩:=h.cells;refine⟨cs,k1,by rw[hl];exact k2,k3,?_⟩;show b9 _ cells _;rw[hl];exact(hd _ k1).mono aV
 ·simp only[Env.nZ,al.gh _ _ e]at hx;have h:=hI.chunk x c' hx;refine⟨h.used,h.last,h.own,fun y gQ hy he=>?_,h.free,?_,h.flat⟩
  ·obtain⟨c3,h3⟩:=Pb y gQ hy;exact h.apart y c3 h3 he
  ·obtain⟨cs,k1,k2,k3,k4⟩:=h.cells;exact⟨cs,k1,k2,k3,k4.mono aV⟩
theorem Ext.nZ{b:Nat}{c:Chunk}{cells:List PV}(hb:E.H b=some c):Ext E w (E.nZ b c cells) w:=by
 refine⟨IV hb,Nat.le_refl _,fun _ _ h=> .inl h,fun _ _ _=>rfl,fun x c' hx=>?_⟩;by_cases e:x=b
 ·subst e;exact .inr ⟨x,c,hb,rfl⟩
 ·simp only[Env.nZ,al.gh _ _ e]at hx;exact .inr ⟨x,c',hx,rfl⟩
theorem afY{n:Nat}{H:al}:∀(xs ys:List PV)(ids:List Nat),eh (settle n H) xs=some (ys,ids)->∀(i:Nat)(x y:PV),xs[i]?=some x->ys[i]?=some y->x.flat=true->y.flat=true:=by
 intro xs
 induction xs with
 |nil=>intro ys ids h i x y hx;simp at hx
 |cons z zs ih=>
  intro ys ids h i x y hx hy hf;simp only[eh]at h;split at h
  ·simp only[Option.some.injEq,Prod.mk.injEq]at h;obtain⟨rfl,_⟩:=h;rw[hx,Option.some.injEq]at hy;subst hy;exact hf
  ·split at h
   ·rename_i y0 i1 Pc i2 h1 h2;simp only[Option.some.injEq,Prod.mk.injEq]at h;obtain⟨rfl,_⟩:=h;cases i with
    |zero=>
     simp only[List.getElem?_cons_zero,Option.some.injEq]at hx hy;subst hx;subst hy;exact Ir h1 hf
    |succ i=>
     simp only[List.getElem?_cons_succ]at hx hy;exact ih Pc i2 h2 i x y hx hy hf
   ·cases h
theorem afZ{f:PV->Option (PV×List Nat)}:∀(xs ys:List PV)(ids:List Nat),eh f xs=some (ys,ids)->ys.length=xs.length:=by
 intro xs
 induction xs with
 |nil=>intro ys ids h;simp only[eh,Option.some.injEq,Prod.mk.injEq]at h;rw[<-h.1]
 |cons z zs ih=>
  intro ys ids h;simp only[eh]at h;split at h
  ·simp only[Option.some.injEq,Prod.mk.injEq]at h;rw[<-h.1]
  ·split at h
   ·rename_i y0 i1 Pc i2 h1 h2;simp only[Option.some.injEq,Prod.mk.injEq]at h;rw[<-h.1,List.length_cons,List.length_cons,ih _ _ h2]
   ·cases h
theorem IW{bJ:aS}{G:Nat->PV}(hm:P.follows .mixedOrders=true)(hS:ic P aT bJ)(hG:pD aT G){gk f:Nat}{fn:Func}{fx:FX}(km:P.funcs[f]?=some fn)(wR:wE P fn=some fx){args:List PV}{ch:Option Chunk}{r:PV}{cells:List PV}
 (bC:sX bJ G gk fx args ch=some (r,cells))(Bs:∀c,ch=some c->c.gen=0){vs:List Value}(hI:Inv P aT E w)(hH:E.H=H0 ch)(hK:∀b g,E.K b g->g<1)(hR:b9 E args vs):
 Calls P f vs.toArray w fun e w'=>∃v E',e= .returned v/\Iu P aT E w ch r cells v E' w':=by
 simp only[wE,bind,Option.bind_eq_some_iff,Option.some.injEq]at wR;obtain⟨c,hc,xr,sY,xb,wP,rfl⟩:=wR;unfold sX at bC;simp only at bC;split at bC
 ·rename_i bW;split at bC
  ·rename_i ex s A6;have rK:vs.length<=fn.ntmps:=by rw[<-hR.1];exact bW
   have ID:Rel P aT fn.ntmps E w (UB 1 0) ⟨fun i=>args.getD i .undef,H0 ch,1⟩ {tmps:=vs.toArray++Array.replicate (fn.ntmps - vs.toArray.size) undef,defers:=[]} w:=by
    refine⟨E,hI,hH,fun x=>?_,by simp;omega,rfl,fun b g h=>hK b g h,Ext.refl E w⟩;show bD E (args.getD x .undef) _;by_cases hx:x<args.length
    ·have h1:=hR.get x hx;have e1:args.getD x .undef=args[x]:=by simp[List.getD_eq_getElem?_getD,hx]
     have hxv:x<vs.length:=hR.1▸hx;have e2:(vs.toArray++Array.replicate (fn.ntmps - vs.toArray.size) undef).getD x undef=vs[x]:=by
      simp[Array.getD_eq_getD_getElem?,Array.getElem?_append,hxv]
     rw[e1,e2];exact h1
    ·have e1:args.getD x .undef= .undef:=by simp[List.getD_eq_getElem?_getD];rw[List.getElem?_eq_none (by omega)];rfl
     rw[e1];exact .undef _
   refine calls_of_wp km hc (afQ hm hS hG gk c xb wP _ s ex _ w _ A6 ID ?_);rintro a' w' ⟨E1,h⟩;split at bC
   ·cases bC
   ·rename_i ex _ _ _ us cs hex Pd nY;have Bj:∃v,(results fn a'.tmps).run P w'= .ok v w'/\∃v1 E',Ending.returned v= .returned v1/\Iu P aT E w ch r cells v1 E' w':=by
     rw[<-h.heap]at Pd nY bC;obtain⟨v,cc,cC⟩:=afW h.inv h.oT sY Pd;refine⟨v,cc,v,?_⟩;split at bC
     ·rename_i r0 zp ids eC;split at bC
      ·cases bC
      ·rename_i h0;simp only[Option.some.injEq,Prod.mk.injEq]at bC;obtain⟨rfl,rfl⟩:=bC;have h0':0∉ids:=by simpa using h0
       have za:=afZ _ _ _ eC;have nX:=Ext.freeze h.inv ids;cases ch with
       |none=>
        simp only[Br,Option.some.injEq]at nY;subst nY;obtain⟨h1,h2⟩:=Eh h.inv eC (.cons cC (b9.nil E1));obtain⟨_,_,he,h3,_⟩:=h1.head;cases he;simp only[aP,Bool.and_eq_true]at h2;exact⟨E1.freeze w' ids,rfl,h3,h2.1,A9 h.inv ids,h.ext.trans nX,fun c h=>by cases h⟩
       |some Pe=>
        simp only[Br]at nY;split at nY
        ·rename_i c' Iq;split at nY
         ·rename_i l8;simp only[Option.some.injEq]at nY;subst nY;have Pf:=h.inv.chunk 0 c' Iq;obtain⟨ws,k1,k2,k3,k4⟩:=Pf.cells;have Ic:zp.length=c'.cells.length:=by simpa using za
          have eF:(E1.freeze w' ids).H 0=some c':=by show(if 0∈ids then none else E1.H 0)=_;rw[if_neg h0',Iq]
          have iH:=A9 h.inv ids;have lg:∀xs,b9 E1 c'.cells xs->bD (E1.freeze w' ids) r0 v/\b9 (E1.freeze w' ids) zp xs/\aw r0=true/\aP zp=true:=by
           intro xs Eu;obtain⟨h1,h2⟩:=Eh h.inv eC (.cons cC Eu);obtain⟨_,_,he,h3,h4⟩:=h1.head;cases he;simp only[aP,Bool.and_eq_true]at h2;exact⟨h3,h4,h2.1,h2.2⟩
          obtain⟨a1,a2,a3,a4⟩:=lg _ k4;have sR:∀x,x∈zp->x.flat=true:=by
           intro x hx;obtain⟨i,hi,rfl⟩:=List.getElem_of_mem hx;refine afY _ _ _ eC (i+1) (c'.cells[i]'(by omega)) _ (by simp[Ic▸hi]) (by simp[hi]) (Pf.flat _ (List.getElem_mem _))
          have eX:∀cs:Array Value,w'.heap[(E1.freeze w' ids).β 0]?=some (.cells cs c'.e (0,0))->b9 (E1.freeze w' ids) zp (cs.toList.take c'.cells.length):=by
           intro cs fC;have Pg:w'.heap[E1.β 0]?=some (.cells cs c'.e (0,0)):=fC;rw[k1]at Pg;cases Pg;exact a2
          refine⟨(E1.freeze w' ids).nZ 0 c' zp,rfl,a1.mono (IV eF),a3,afX iH eF Ic sR eX,h.ext.trans (nX.trans (Ext.nZ eF)),fun c qz=>?_⟩;cases qz;refine⟨?_,a4⟩;simp only[Env.nZ,al.fT,l8.1,l8.2.1,l8.2.2]
         ·cases nY
        ·cases nY
     ·cases bC
    cases ex with
    |normal=>exact⟨h.defers,Bj⟩
    |exit id=>exact absurd rfl (hex id)
    |ret=>exact⟨h.defers,Bj⟩
   ·cases bC
  ·cases bC
 ·cases bC
end
end Go.Pi
end
section
namespace Go.Pi
open Go.RowKit
def iy:List PV->Option (List PV×List PV)
 |[]=>none
 | .alt p q::r=>if p.flat&&q.flat then some (p::r,q::r)else none
 |c::r=>(iy r).map fun t=>(c::t.1,c::t.2)
def qA(f:Nat)(args:List PV):Option (List PV×List PV):=
 if f==87 then match args with
  |[r,.agg cs,m]=>(iy cs).map fun t=>([r,.agg t.1,m],[r,.agg t.2,m])
  |_=>none
 else if f==88 then match args with
  |[r,k,g,y,.agg cs,m]=>(iy cs).map fun t=>([r,k,g,y,.agg t.1,m],[r,k,g,y,.agg t.2,m])
  |_=>none
 else none
open Classical in
noncomputable def both(a b:Option (PV×List PV)):Option (PV×List PV):=if a=b then a else none
noncomputable def gl(T:Nat->Option FX)(X:aS)(G:Nat->PV):Nat->aS
 |0=>fun _ _ _=>none
 |n+1=>fun f args ch=>
  match T f with
  |some fx=>match qA f args with
   |none=>sX (gl T X G n) G n fx args ch
   |some (a,b)=>both (sX (gl T X G n) G n fx a ch) (sX (gl T X G n) G n fx b ch)
  |none=>X f args ch
theorem Ph:∀{cs a b:List PV},iy cs=some (a,b)->(∀c,c∈cs->c.flat=true)->(∀c,c∈a->c.flat=true)/\∀c,c∈b->c.flat=true
 |[],_,_,h,_=>by cases h
 |c::r,a,b,h,hf=>by
  have hr:=fun x (hx:x∈r)=>hf x (List.mem_cons_of_mem _ hx)
  unfold iy at h;split at h
  ·cases h
  ·rename_i p q r' e;cases e;split at h
   ·rename_i A7;simp only[Bool.and_eq_true]at A7;cases h;exact⟨List.forall_mem_cons.2 ⟨A7.1,hr⟩,List.forall_mem_cons.2 ⟨A7.2,hr⟩⟩
   ·cases h
  ·rename_i e;cases e;simp only[Option.map_eq_some_iff,Prod.mk.injEq]at h;obtain⟨⟨a',b'⟩,h3,rfl,rfl⟩:=h;have k:=Ph h3 hr;exact⟨List.forall_mem_cons.2 ⟨hf _ (List.mem_cons_self ..),k.1⟩,List.forall_mem_cons.2 ⟨hf _ (List.mem_cons_self ..),k.2⟩⟩
theorem Pj{E:Env}:∀{cs a b:List PV}{vs:List Value},iy cs=some (a,b)->b9 E cs vs->b9 E a vs\/b9 E b vs
 |[],_,_,_,h,_=>by cases h
 |c::r,a,b,vs,h,hR=>by
  obtain⟨v,us,rfl,h1,h2⟩:=hR.head;unfold iy at h;split at h
  ·cases h
  ·rename_i p q r' e;cases e;split at h
   ·cases h;cases h1 with
    |qh _ _ _ _ h=>exact .inl (.cons h h2)
    |ru _ _ _ _ h=>exact .inr (.cons h h2)
   ·cases h
  ·rename_i e;cases e;simp only[Option.map_eq_some_iff,Prod.mk.injEq]at h;obtain⟨⟨a',b'⟩,h3,rfl,rfl⟩:=h;rcases Pj h3 h2 with k|k
   ·exact .inl (.cons h1 k)
   ·exact .inr (.cons h1 k)
theorem Pk{E:Env}{cs:List PV}{t:List PV×List PV}{v:Value}(h:iy cs=some t)(hR:bD E (.agg cs) v):bD E (.agg t.1) v\/bD E (.agg t.2) v:=by
 obtain⟨vs,rfl,h1,h2⟩:=hR.DU;have hf:=Ph h h2;rcases Pj h h1 with k|k
 ·exact .inl (k.agg hf.1)
 ·exact .inr (k.agg hf.2)
theorem af2{E:Env}{f:Nat}{args:List PV}{t:List PV×List PV}{vs:List Value}(h:qA f args=some t)(hR:b9 E args vs):b9 E t.1 vs\/b9 E t.2 vs:=by
 unfold qA at h;split at h
 ·split at h
  ·simp only[Option.map_eq_some_iff]at h;obtain⟨u,h1,rfl⟩:=h;obtain⟨v0,us,rfl,k0,hR⟩:=hR.head;obtain⟨v1,us,rfl,k1,hR⟩:=hR.head;rcases Pk h1 k1 with k|k
   ·exact .inl (.cons k0 (.cons k hR))
   ·exact .inr (.cons k0 (.cons k hR))
  ·cases h
 ·split at h
  ·split at h
   ·simp only[Option.map_eq_some_iff]at h;obtain⟨u,h1,rfl⟩:=h;obtain⟨v0,us,rfl,k0,hR⟩:=hR.head;obtain⟨v1,us,rfl,k1,hR⟩:=hR.head;obtain⟨v2,us,rfl,k2,hR⟩:=hR.head;obtain⟨v3,us,rfl,k3,hR⟩:=hR.head;obtain⟨v4,us,rfl,k4,hR⟩:=hR.head;rcases Pk h1 k4 with k|k
    ·exact .inl (.cons k0 (.cons k1 (.cons k2 (.cons k3 (.cons k hR)))))
    ·exact .inr (.cons k0 (.cons k1 (.cons k2 (.cons k3 (.cons k hR)))))
   ·cases h
  ·cases h
theorem Pl{a b:Option (PV×List PV)}{r:PV×List PV}(h:both a b=some r):a=some r/\b=some r:=by
 unfold both at h;split at h
 ·rename_i e;exact⟨h,e▸h⟩
 ·cases h
theorem Pm{a b:Option (PV×List PV)}{r:PV×List PV}(h:a=some r)(k:b=some r):both a b=some r:=by
 unfold both;rw[if_pos (h.trans k.symm),h]
section
variable{P:Program}{aT:World}
theorem Pn{T:Nat->Option FX}{X:aS}{G:Nat->PV}(hm:P.follows .mixedOrders=true)(hG:pD aT G)(hX:ic P aT X)
 (hT:∀f fx,T f=some fx->∃fn,P.funcs[f]?=some fn/\wE P fn=some fx/\(fn.name== "runtime.NumGoroutine")=false):∀n,ic P aT (gl T X G n):=by
 intro n
 induction n with
 |zero=>intro f args ch r cells h;cases h
 |succ n ih=>
  intro f args ch r cells h;simp only[gl]at h;split at h
  ·rename_i fx wR;obtain⟨fn,km,hc,nW⟩:=hT f fx wR;refine⟨⟨fn,km,?_,nW⟩,?_⟩
   ·simp only[wE,bind,Option.bind_eq_some_iff]at hc;obtain⟨c,hb,_⟩:=hc;rw[hb];rfl
   ·split at h
    ·exact fun Bs E w vs hI hH hK hR=>IW hm ih hG km hc h Bs hI hH hK hR
    ·rename_i a b ht;obtain⟨h1,h2⟩:=Pl h;intro Bs E w vs hI hH hK hR;rcases af2 ht hR with k|k
     ·exact IW hm ih hG km hc h1 Bs hI hH hK k
     ·exact IW hm ih hG km hc h2 Bs hI hH hK k
  ·exact hX f args ch r cells h
end
def oU(a b:aS):Prop:=∀f args ch r,a f args ch=some r->b f args ch=some r
theorem oU.refl(a:aS):oU a a:=fun _ _ _ _ h=>h
section
variable{a b:aS}{G:Nat->PV}
theorem Po(h:oU a b){H:al}{f:Nat}{args:List PV}{r:PV×al}(hr:lh a H f args=some r):lh b H f args=some r:=by
 unfold lh at hr⊢;split at hr
 ·split at hr
  ·split at hr
   ·rename_i hc;rw[if_pos hc];simp only[Option.bind_eq_some_iff]at hr⊢;obtain⟨r',h1,h2⟩:=hr;exact⟨r',h _ _ _ _ h1,h2⟩
   ·cases hr
  ·cases hr
 ·split at hr
  ·simp only[Option.map_eq_some_iff]at hr⊢;obtain⟨r',h1,h2⟩:=hr;exact⟨r',h _ _ _ _ h1,h2⟩
  ·cases hr
theorem Pp(h:oU a b){H:al}{f:Nat}{args:List PV}{r:PV×al}(hr:lK a H f args=some r):lK b H f args=some r:=by
 unfold lK at hr⊢;split at hr
 ·rename_i eT;rw[if_pos eT];unfold zh at hr⊢;split at hr
  ·split at hr
   ·rename_i h1 h2 h3;simp only[Po h h1,h2,h3];exact hr
   ·cases hr
  ·cases hr
 ·rename_i eT;rw[if_neg eT];exact Po h hr
theorem Pq(h:oU a b){ev:bK->PV}{H:al}{id st:Nat}{k:K}{r:PV×al}(hr:gW a ev H id st k=some r):gW b ev H id st k=some r:=by
 cases k with
 |call f as=>exact Pp h hr
 |m7 f as=>
  simp only[gW]at hr⊢;split at hr
  ·exact Pp h hr
  ·cases hr
 |_=>exact hr
theorem IX(h:oU a b){i:Nat}{o:XO}{s s':St}(hr:gS a G i o s=some s'):gS b G i o s=some s':=by
 unfold gS at hr⊢;split at hr
 ·simp only[Option.map_eq_some_iff]at hr⊢;obtain⟨r,h1,h2⟩:=hr;exact⟨r,Pq h h1,h2⟩
 ·split at hr
  ·split at hr
   ·rename_i hb;rw[if_pos hb];simp only[Option.map_eq_some_iff]at hr⊢;obtain⟨r,h1,h2⟩:=hr;exact⟨r,Pq h h1,h2⟩
   ·rename_i hb;rw[if_neg hb];exact hr
  ·exact hr
  ·cases hr
theorem af3(h:oU a b):∀(os:List XO)(i:Nat)(s s':St),qt a G i os s=some s'->qt b G i os s=some s':=by
 intro os
 induction os with
 |nil=>intro i s s' hr;exact hr
 |cons o os ih=>
  intro i s s' hr;simp only[qt,Option.bind_eq_some_iff]at hr⊢;obtain⟨s1,h1,h2⟩:=hr;exact⟨s1,IX h h1,ih _ _ _ h2⟩
theorem Ps(h:oU a b):∀(os:List XO)(i:Nat)(s:St)(r),nh a G i os s=some r->nh b G i os s=some r:=by
 intro os
 induction os with
 |nil=>intro i s r hr;exact hr
 |cons o os ih=>
  intro i s r hr;simp only[nh]at hr⊢;split at hr
  ·rename_i s1 h1;simp only[IX h h1];simp only[Option.map_eq_some_iff]at hr⊢;obtain⟨r',h1,h2⟩:=hr;exact⟨r',ih _ _ _ h1,h2⟩
  ·cases hr
theorem af4(h:oU a b){os:List XO}{ps:List (Nat×Nat)}{s s':St}(hr:uR a G os ps s=some s'):uR b G os ps s=some s':=by
 unfold uR at hr⊢;split at hr
 ·rename_i s1 ft h1;simp only[Ps h _ _ _ _ h1];exact hr
 ·cases hr
theorem Pt{f g:St->Option (Ex×St)}(hfg:∀s r,f s=some r->g s=some r):∀(n m:Nat)(s:St)(r),n<=m->rounds f n s=some r->rounds g m s=some r:=by
 intro n
 induction n with
 |zero=>intro m s r _ h;cases h
 |succ n ih=>
  intro m s r hm h;obtain⟨m,rfl⟩:∃k,m=k+1:=⟨m - 1,by omega⟩;simp only[rounds,Option.bind_eq_some_iff]at h⊢;obtain⟨⟨e,s1⟩,h1,h2⟩:=h;refine⟨(e,s1),hfg _ _ h1,?_⟩;cases e with
  |normal=>exact ih m s1 r (by omega) h2
  |_=>exact h2
mutual
theorem Pu(h:oU a b){n m:Nat}(dU:n<=m):∀(c:XC)(s:St)(r),fU a G n c s=some r->fU b G m c s=some r
 | .ng ops,s,r,hr=>by
   simp only[fU,Option.map_eq_some_iff]at hr⊢;obtain⟨s1,h1,h2⟩:=hr;exact⟨s1,af3 h _ _ _ _ h1,h2⟩
 | .uP ops ps,s,r,hr=>by
   simp only[fU,Option.map_eq_some_iff]at hr⊢;obtain⟨s1,h1,h2⟩:=hr;exact⟨s1,af4 h h1,h2⟩
 | .cond c x y,s,r,hr=>by
   simp only[fU]at hr⊢;split at hr
   ·rename_i t ht;cases t with
    |true=>exact wS h dU x s r hr
    |false=>exact wS h dU y s r hr
   ·cases hr
 | .block id x,s,r,hr=>by
   simp only[fU,Option.map_eq_some_iff]at hr⊢;obtain⟨s1,h1,h2⟩:=hr;exact⟨s1,wS h dU x _ _ h1,h2⟩
 | .loop x,s,r,hr=>by
   simp only[fU]at hr⊢;exact Pt (fun s r=>wS h dU x s r) n m s r dU hr
 | .exit id,s,r,hr=>hr
 | .ret,s,r,hr=>hr
theorem wS(h:oU a b){n m:Nat}(dU:n<=m):∀(c:List XC)(s:St)(r),iw a G n c s=some r->iw b G m c s=some r
 |[],s,r,hr=>hr
 |c::cs,s,r,hr=>by
  simp only[iw,Option.bind_eq_some_iff]at hr⊢;obtain⟨⟨e,s1⟩,h1,h2⟩:=hr;refine⟨(e,s1),Pu h dU c s _ h1,?_⟩;cases e with
  |normal=>exact wS h dU cs s1 r h2
  |exit id=>exact h2
  |ret=>exact h2
end
theorem IY(h:oU a b){n m:Nat}(dU:n<=m){fx:FX}{args:List PV}{ch:Option Chunk}{r:PV×List PV}(hr:sX a G n fx args ch=some r):sX b G m fx args ch=some r:=by
 unfold sX at hr⊢;split at hr
 ·rename_i hl;rw[if_pos hl];split at hr
  ·rename_i e s hb;rw[wS h dU _ _ _ hb];exact hr
  ·cases hr
 ·cases hr
end
theorem uY{T:Nat->Option FX}{X:aS}{G:Nat->PV}:∀(n m:Nat),n<=m->oU (gl T X G n) (gl T X G m):=by
 intro n
 induction n with
 |zero=>intro m _ f args ch r h;cases h
 |succ n ih=>
  intro m hm f args ch r h;obtain⟨m,rfl⟩:∃k,m=k+1:=⟨m - 1,by omega⟩;simp only[gl]at h⊢;split at h
  ·split at h
   ·exact IY (ih m (by omega)) (by omega) h
   ·obtain⟨h1,h2⟩:=Pl h;exact Pm (IY (ih m (by omega)) (by omega) h1) (IY (ih m (by omega)) (by omega) h2)
  ·exact h
end Go.Pi
end
