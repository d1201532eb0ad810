import Derived.Test.YtofdfffpmbgogaaGreatDoorP08
import Derived.Test.YtofdfffpmbgogaaGreatDoorP09
import Derived.Test.YtofdfffpmbgogaaGreatDoorP10
import Derived.Test.YtofdfffpmbgogaaGreatDoorP11
import Derived.Test.YtofdfffpmbgogaaGreatDoorP12
import Derived.Test.YtofdfffpmbgogaaGreatDoorP13
import Derived.Test.YtofdfffpmbgogaaGreatDoorP18
import Derived.Test.YtofdfffpmbgogaaGreatDoorP19
import Derived.Test.YtofdfffpmbgogaaGreatDoorP27
/- Part of the proof. -/
set_option linter.all false
section
namespace Go.Pi
section
variable{T:Nat->Option FX}{X:aS}{G:Nat->PV}{Q:Ex->St->Prop}{w:List Wk}
theorem ik{A:List Nat}{i len id n e s b:Nat}{tr:er}{d:Option Nat}{os:List XO}{t:Nat->PV}{H:al}{y x:bK}{ys zs:List (List PV)}{ids:List Nat}
 (hs:Go.Pi.settle depth H (ev G t x)=some (.sl zs,ids))(hg:aX A H e s (ev G t y) ys)(kn:id∈A)(qE:∀b,b∈ids->b∉A)(hz:∀z,z∈zs->z.length=s/\aP z=true)(dW:zs≠[])(hB:(ys.length+zs.length)*b<=140737488355328)
 (h:∀v H' z,aX A H' e s v (ys++zs)->(∀c,c∉A->c∉ids->H' c=H c)->M T X G (.ops (i+1) os len (push tr z)::w) ⟨put t d v,H',n⟩ Q):M T X G (.ops i (⟨d,none,id,.app e s b y x⟩::os) len tr::w) ⟨t,H,n⟩ Q:=by
 have ji:gE (H.drop ids) s (.sl zs)=some (zs.length,zs.flatten):=by
  simp only[gE];rw[if_pos];simp only[List.all_eq_true,beq_iff_eq];exact fun z wH=>(hz z wH).1
 have iv:zs.length≠0:=fun h0=>dW (List.length_eq_zero_iff.1 h0)
 have lg:∀y,y∈ys++zs->y.length=s/\aP y=true:=by
  intro y hy;rcases List.mem_append.1 hy with hy|hy
  ·exact hg.1 y hy
  ·exact hz y hy
 rw[EB];rcases hg.2 with⟨rfl,hv⟩|⟨c,st,hA,hv,hH⟩
 ·have ha:iU (H.drop ids) id (n+i) e s b (ev G t y) (.sl zs)=some (.row id (n+i) zs.length,some (id,⟨e,n+i,zs.flatten,s⟩)):=by
   simp only[iU,ji,if_neg iv,hv];rw[if_pos (by simpa using hB)]
  simp only[runK,hs,ha,Option.map_some,kp];refine h _ _ _ ⟨lg,.inr ⟨id,n+i,kn,by simp,by simp[al.fK,al.fT]⟩⟩ (fun c hc hi=>?_);simp only[al.fK];rw[al.gh _ _ (fun e=>hc (by rw[e];exact kn))];simp only[al.drop,if_neg hi]
 ·have hl:=wV (fun y hy=>(hg.1 y hy).1);have hd:(H.drop ids) c=some ⟨e,st,ys.flatten,s⟩:=by simp only[al.drop,if_neg (fun hi=>qE c hi hA),hH]
  have e1:ys.flatten.take (ys.length*s)=ys.flatten:=List.take_of_length_le (by omega);have ha:iU (H.drop ids) id (n+i) e s b (ev G t y) (.sl zs)=some (.row c (n+i) (ys.length+zs.length),some (c,⟨e,n+i,ys.flatten++zs.flatten,s⟩)):=by
   simp only[iU,ji,if_neg iv,hv,hd,e1];rw[if_pos (by refine⟨?_,?_,?_,?_⟩<;>first|trivial|omega)]
  simp only[runK,hs,ha,Option.map_some,kp];refine h _ _ _ ⟨lg,.inr ⟨c,n+i,hA,by simp,by simp[al.fK,al.fT]⟩⟩ (fun c' hc hi=>?_);simp only[al.fK];rw[al.gh _ _ (fun e=>hc (by rw[e];exact hA))];simp only[al.drop,if_neg hi]
theorem hZ{A:List Nat}{H:al}{e s:Nat}{v:PV}{ys:List (List PV)}(h:aX A H e s v ys):cellsOf v=some [v]:=by
 rcases h.2 with⟨_,rfl⟩|⟨a,st,_,rfl,_⟩<;>rfl
theorem vz{A:List Nat}{i len id kG GW n o so b a p O k r:Nat}{tr:er}{t:Nat->PV}{H:al}{v c0 c1 c2 c3 c5:PV}{ys zs:List (List PV)}{ids:List Nat}
 (hs:Go.Pi.settle depth H (t r)=some (.sl zs,ids))(hk:t k=v)(ho:t O= .ptr o so 0)(hO:H o=some ⟨30,so,[c0,c1,c2,c3,v,c5],0⟩)(hg:aX A H 30 6 v ys)(kn:id∈A)(TO:o∉A)(qE:∀b,b∈ids->b∉A/\b≠o)
 (hz:∀z,z∈zs->z.length=6/\aP z=true)(dW:zs≠[])(hB:(ys.length+zs.length)*b<=140737488355328)(hsl:O≠a/\O≠p/\a≠p)(ew:∀f1 f2 f3,qB (push (push (push tr f1) f2) f3)=true)
 (h:∀t' H' n' v',(∀i,i≠a->i≠p->t' i=t i)->H' o=some ⟨30,so,[c0,c1,c2,c3,v',c5],0⟩->aX A H' 30 6 v' (ys++zs)->(∀c,c∉A->c∉ids->c≠o->H' c=H c)->M T X G w ⟨t',H',n'⟩ Q):
 M T X G (.ops i [⟨some a,none,id,.app 30 6 b (.t k) (.t r)⟩,⟨some p,none,kG,.fa 4 (.t O)⟩,⟨none,none,GW,.st 1 (.t p) (.t a)⟩] len tr::w) ⟨t,H,n⟩ Q:=by
 obtain⟨h1,h2,h3⟩:=hsl;refine ik (A:=A) (ys:=ys) (zs:=zs) (ids:=ids) hs (by simp only[ev];rw[hk];exact hg) kn (fun b hb=>(qE b hb).1) hz dW hB ?_;intro v' H' z bI hf;have tI:H' o=some ⟨30,so,[c0,c1,c2,c3,v,c5],0⟩:=(hf o TO fun hi=>(qE o hi).2 rfl).trans hO;have jw:=hZ bI;rw[PD,show runK (ev G (put t (some a) v')) H' kG (n+(i+1)) (.fa 4 (.t O))=some (.ptr o so 4,H')by simp only[runK,cx,ev,qD h1,ho,Option.map_some,al.fK,Nat.zero_add],kp,PB,
  show runK (ev G (put (put t (some a) v') (some p) (.ptr o so 4))) H' GW (n+(i+1+1)) (.st 1 (.t p) (.t a))=some (.undef,H'.put o (some ⟨30,so,[c0,c1,c2,c3,v',c5],0⟩))by
   simp only[runK,cx,ev,fT,qD h3,wg,jw,tI,List.length_cons,List.length_nil,Option.map_some,al.fK];rw[if_pos (by refine⟨trivial,trivial,by omega⟩)];rfl,kp]
 rw[Py];refine⟨ew _ _ _,h _ _ _ _ (fun i ha hp=>?_) (al.fT _ _ _) (bI.frame fun b hb=>al.gh _ _ (fun e=>TO (by rw[<-e];exact hb))) fun c hc hi ho=>?_⟩
 ·rw[PG,qD hp,qD ha]
 ·rw[al.gh _ _ ho];exact hf c hc hi
end
end Go.Pi
namespace Go.Pi
def su(F:Int->ByteArray)(xs ys:List (List PV)):Prop:=∃l:List Int,uh xs l/\(∀n,n∈l->0<=n/\n<1000)/\sr ys (l.map fun n=>bs [118]++F n)
theorem su.nil{F:Int->ByteArray}:su F [] []:=⟨[],.nil,by simp,.nil⟩
theorem su.snoc{F:Int->ByteArray}{xs ys:List (List PV)}{flags:Int}{key dC b0 b1 b2 b3:PV}{c:List PV}{i:Nat}{zs:List (List PV)}(hz:zs[i]?=some [.int .i64 flags,key,dC,b0,b1,b2,b3])(hx:xs=zs.take i)(h:su F xs ys)(hb:mW F [b0,b1,b2,b3] c):su F (zs.take (i+1)) (ys++[c]):=by
 obtain⟨l,h1,h2,h3⟩:=h;obtain⟨l2,g1,g2,g3⟩:=hb;subst hx;rw[List.take_add_one,hz];refine⟨l++l2,h1.snoc g1,fun n hn=>?_,by rw[List.map_append];exact h3.snoc g3⟩;rcases List.mem_append.1 hn with h|h
 ·exact h2 n h
 ·exact g2 n h
theorem mW.sq{F:Int->ByteArray}{aA:Int}{cj:PV}{rest:Bool}{text more:ByteArray}{num at_:Int}{kids:PV}:mW F [.int .i64 0,.int .i64 aA,cj,.bool rest] [.int .i64 0,.str text,.str more,.int .u64 num,kids,.int .i64 at_]:=
 ⟨[],.sq _ _ _,by simp,.none _ _ _ _ _⟩
theorem mW.first{F:Int->ByteArray}{b:List PV}{k:Int}{text more:ByteArray}{num at_:Int}{c:List PV}{cs:List (List PV)}(hk:k=14\/k=42\/k=73)(h:mW F b c):mW F b [.int .i64 k,.str text,.str more,.int .u64 num,.sl (c::cs),.int .i64 at_]:=by
 obtain⟨l,h1,h2,h3⟩:=h;exact⟨l,h1,h2,.first _ _ _ _ _ _ _ _ _ hk rfl h3⟩
theorem mW.second{F:Int->ByteArray}{b:List PV}{text more:ByteArray}{num at_:Int}{c0 c:List PV}{cs:List (List PV)}(h:mW F b c):mW F b [.int .i64 72,.str text,.str more,.int .u64 num,.sl (c0::c::cs),.int .i64 at_]:=by
 obtain⟨l,h1,h2,h3⟩:=h;exact⟨l,h1,h2,.second _ _ _ _ _ _ _ _ _ rfl h3⟩
theorem mW.parts{F:Int->ByteArray}{kind aA:Int}{cj:PV}{rest:Bool}{k:Int}{text more:ByteArray}{num at_:Int}{kids:PV}(hb:kind=2\/kind=3)(hk:k=70\/k=71\/k=12)(h:su F (ae cj) (ae kids)):
 mW F [.int .i64 kind,.int .i64 aA,cj,.bool rest] [.int .i64 k,.str text,.str more,.int .u64 num,kids,.int .i64 at_]:=by
 obtain⟨l,h1,h2,h3⟩:=h;exact⟨l,.parts _ _ _ _ _ hb h1,h2,.parts _ _ _ _ _ _ _ hk h3⟩
end Go.Pi
namespace Go.Pi
def Hid(p:Prop):Prop:=p
end Go.Pi
namespace Go.Pi
section
variable{T:Nat->Option FX}{X:aS}{G:Nat->PV}{Q:Ex->St->Prop}{w:List Wk}
theorem arU{i len kG n b g d d2 e:Nat}{m:Int}{tr:er}{os:List XO}{t:Nat->PV}{H:al}(hH:H b=some ⟨e,g,[.int .i64 11,.int .i64 12,.int .i64 13],1⟩)(h0:0<=m)(cE:m<3)
 (k:∀p(kk:Int),(m=1->kk=12)->(kk=11\/kk=12\/kk=13)->M T X G (.ops (i+1) os len (push tr ([b],[]))::w) ⟨put (put t (some d) p) (some d2) (.int .i64 kk),H,n⟩ Q):
 eD T X G 1 (.row b g 3) (.int .i64 m) (some d) i (⟨some d2,none,kG,.ld false 1 (.t d)⟩::os) len tr w t H n Q:=by
 refine wX h0 (by omega) ?_;rw[I0];have e2:bU (ev G (put t (some d) (.ptr b g (m.toNat*1)))) H kG (.ld false 1 (.t d))=([b],[]):=by simp only[bU,ev,fT]
 rw[e2];have:m=0\/m=1\/m=2:=by omega
 rcases this with rfl|rfl|rfl
 ·have e1:runK (ev G (put t (some d) (.ptr b g ((0:Int).toNat*1)))) H kG (n+i) (.ld false 1 (.t d))=some (.int .i64 11,H):=by
   simp only[runK,cx,ev,fT,kN,hH];rfl
  rw[e1,kp];exact k _ 11 (by omega) (by omega)
 ·have e1:runK (ev G (put t (some d) (.ptr b g ((1:Int).toNat*1)))) H kG (n+i) (.ld false 1 (.t d))=some (.int .i64 12,H):=by
   simp only[runK,cx,ev,fT,kN,hH];rfl
  rw[e1,kp];exact k _ 12 (by omega) (by omega)
 ·have e1:runK (ev G (put t (some d) (.ptr b g ((2:Int).toNat*1)))) H kG (n+i) (.ld false 1 (.t d))=some (.int .i64 13,H):=by
   simp only[runK,cx,ev,fT,kN,hH];rfl
  rw[e1,kp];exact k _ 13 (by omega) (by omega)
end
inductive ui:List (List PV)->List Int->Prop
 |nil:ui [] []
 |cons (b0 b1 b2 b3 v:PV) (xs:List (List PV)) (l ls:List Int) (h:Bn [b0,b1,b2,b3] l) (hs:ui xs ls):ui ([b0,b1,b2,b3,v]::xs) (l++ls)
theorem ui.snoc{xs:List (List PV)}{l l2:List Int}{b0 b1 b2 b3 v:PV}(hb:Bn [b0,b1,b2,b3] l2)(h:ui xs l):ui (xs++[[b0,b1,b2,b3,v]]) (l++l2):=by
 induction h with
 |nil=>have:=ui.cons b0 b1 b2 b3 v [] l2 [] hb .nil;simpa using this
 |cons c0 c1 c2 c3 v' xs l ls h hs ih=>rw[List.cons_append,List.append_assoc];exact .cons _ _ _ _ _ _ _ _ h ih
def xU(F:Int->ByteArray)(xs ys:List (List PV)):Prop:=∃l:List Int,ui xs l/\(∀n,n∈l->0<=n/\n<1000)/\sr ys (l.map fun n=>bs [118]++F n)
theorem xU.nil{F:Int->ByteArray}:xU F [] []:=⟨[],.nil,by simp,.nil⟩
theorem xU.snoc{F:Int->ByteArray}{xs ys:List (List PV)}{b0 b1 b2 b3 v:PV}{c:List PV}{i:Nat}{zs:List (List PV)}(hz:zs[i]?=some [b0,b1,b2,b3,v])(hx:xs=zs.take i)(h:xU F xs ys)(hb:mW F [b0,b1,b2,b3] c):xU F (zs.take (i+1)) (ys++[c]):=by
 obtain⟨l,h1,h2,h3⟩:=h;obtain⟨l2,g1,g2,g3⟩:=hb;subst hx;rw[List.take_add_one,hz];refine⟨l++l2,h1.snoc g1,fun n hn=>?_,by rw[List.map_append];exact h3.snoc g3⟩;rcases List.mem_append.1 hn with h|h
 ·exact h2 n h
 ·exact g2 n h
def TP(F:Int->ByteArray)(op:Int)(ds:PV)(f:Bool)(r:PV):Prop:=∃c,r= .agg c/\Nd c/\(f=true->op=1->∃l:List Int,ui (ae ds) l/\(∀n,n∈l->0<=n/\n<1000)/\NB c (l.map fun n=>bs [118]++F n))
end Go.Pi
namespace Go.Pi
theorem arV{s:Nat}{cs:List PV}:group s 3 cs=[cs.take s,(cs.drop s).take s,(cs.drop (2*s)).take s]:=by
 simp only[group,List.range_succ,List.range_zero,List.nil_append,List.cons_append,List.map_cons,List.map_nil,Nat.zero_mul,List.drop_zero,Nat.one_mul]
theorem arW{s:Nat}{cs:List PV}:group s 4 cs=[cs.take s,(cs.drop s).take s,(cs.drop (2*s)).take s,(cs.drop (3*s)).take s]:=by
 simp only[group,List.range_succ,List.range_zero,List.nil_append,List.cons_append,List.map_cons,List.map_nil,Nat.zero_mul,List.drop_zero,Nat.one_mul]
attribute [go_sem] arV arW
end Go.Pi
end
section
namespace Go.Pi
def cd(a d:PV):Prop:=∀(E:Env)(v:Value),bD E a v->bD E d v
def dE(x d:List PV):Prop:=x.length=d.length/\(∀c,c∈d->c.flat=true)/\∀(i:Nat)(a b:PV),x[i]?=some a->d[i]?=some b->cd a b
def aK(xs ds:List (List PV)):Prop:=xs.length=ds.length/\∀(i:Nat)(x d:List PV),xs[i]?=some x->ds[i]?=some d->dE x d
def Pr(P:List PV->List PV->Prop)(cs ds:List (List PV)):Prop:=cs.length=ds.length/\∀(i:Nat)(c d:List PV),cs[i]?=some c->ds[i]?=some d->P c d
def br(P:List PV->List PV->Prop)(w:PV)(ds:List (List PV)):Prop:=fS w ds.length/\∀(i:Nat)(c d:List PV),(ae w)[i]?=some c->ds[i]?=some d->P c d
theorem cd.refl(a:PV):cd a a:=fun _ _ h=>h
theorem cd.qh{a b:PV}(h:a.flat=true):cd a (.alt a b):=fun _ v k=> .qh _ _ v (k.AM h) k
theorem cd.ru{a b:PV}(h:b.flat=true):cd b (.alt a b):=fun _ v k=> .ru _ _ v (k.AM h) k
theorem cd.trans{a b c:PV}(h:cd a b)(k:cd b c):cd a c:=fun _ _ x=>k _ _ (h _ _ x)
theorem dE.nil:dE [] []:=⟨rfl,by simp,by simp⟩
theorem dE.cons{a b:PV}{x d:List PV}(h:cd a b)(hb:b.flat=true)(k:dE x d):dE (a::x) (b::d):=
 ⟨by simp[k.1],by intro c hc;rcases List.mem_cons.1 hc with rfl|hc;exact hb;exact k.2.1 c hc,fun i p q hp hq=>by
  cases i with
  |zero=>simp at hp hq;subst hp;subst hq;exact h
  |succ i=>simp at hp hq;exact k.2.2 i p q hp hq⟩
theorem dE.same{a:PV}{x d:List PV}(ha:a.flat=true)(k:dE x d):dE (a::x) (a::d):= .cons (.refl a) ha k
theorem aK.nil:aK [] []:=⟨rfl,by simp⟩
theorem Pr.nil{P:List PV->List PV->Prop}:Pr P [] []:=⟨rfl,by simp⟩
theorem My{α:Type}{xs:List α}{y z:α}{i:Nat}(h:(xs++[y])[i]?=some z):xs[i]?=some z/\i<xs.length\/i=xs.length/\z=y:=by
 rcases Nat.lt_trichotomy i xs.length with hi|hi|hi
 ·rw[List.getElem?_append_left hi]at h;exact .inl ⟨h,hi⟩
 ·subst hi;simp at h;exact .inr ⟨rfl,h.symm⟩
 ·rw[List.getElem?_eq_none (by simp;omega)]at h;cases h
theorem Pr.snoc{P:List PV->List PV->Prop}{cs ds:List (List PV)}{c d:List PV}(h:Pr P cs ds)(hp:P c d):Pr P (cs++[c]) (ds++[d]):=by
 refine⟨by simp[h.1],fun i a b ha hb=>?_⟩;have hl:=h.1;rcases My ha with⟨h1,h2⟩|⟨rfl,rfl⟩
 ·rcases My hb with⟨h3,h4⟩|⟨rfl,rfl⟩
  ·exact h.2 i a b h1 h3
  ·omega
 ·rcases My hb with⟨h3,h4⟩|⟨_,rfl⟩
  ·omega
  ·exact hp
theorem aK.pr{xs ds:List (List PV)}:aK xs ds↔Pr dE xs ds:=Iff.rfl
theorem aK.snoc{xs ds:List (List PV)}{x d:List PV}(h:aK xs ds)(hp:dE x d):aK (xs++[x]) (ds++[d]):=Pr.snoc h hp
theorem aK.take{v:PV}{ds:List (List PV)}{i:Nat}{y d:List PV}(h:aK ((ae v).take i) ds)(hy:(ae v)[i]?=some y)(hp:dE y d):aK ((ae v).take (i+1)) (ds++[d]):=by
 rw[List.take_add_one,hy];exact aK.snoc h hp
theorem aK.whole{v:PV}{ds:List (List PV)}{i:Nat}(h:aK ((ae v).take i) ds)(hi:(ae v).length<=i):aK (ae v) ds:=by
 rwa [List.take_of_length_le hi]at h
theorem br.of{P:List PV->List PV->Prop}{w:PV}{cs ds:List (List PV)}(hs:mA w)(hd:aw w=true)(he:ae w=cs)(hl:cs.length<=1048576)(h:Pr P cs ds):br P w ds:=by
 refine⟨⟨hs.imp id fun⟨xs,e⟩=>⟨xs,e,?_⟩,hd,by rw[he];exact h.1⟩,fun i c d hc hd=>h.2 i c d (by rwa [he]at hc) hd⟩;subst e;simp only[ae]at he;subst he;exact hl
theorem cd.sl{a:PV}{ds:List (List PV)}(ha:aQ a)(h:aK (ae a) ds):cd a (.sl ds):=by
 intro E v hR;rcases ha with rfl|⟨xs,rfl,_⟩
 ·have:ds=[]:=by have:=h.1;simp[ae]at this;exact List.eq_nil_of_length_eq_zero this.symm
  subst this;cases hR;exact .oN _ _
 ·simp only[ae]at h;obtain⟨hl,h⟩:=h;have ww:∀(i:Nat)(hi:i<ds.length),dE (xs[i]'(hl▸hi)) ds[i]:=fun i hi=>h i _ _ (by simp[hl▸hi]) (by simp[hi])
  cases hR with
  |oN A c=>
   have:ds=[]:=List.eq_nil_of_length_eq_zero hl.symm;subst this;exact .oN _ _
  |sl _ a c s U hc hs hf hF hr=>
   rw[hl];refine .sl ds a c s U (hl▸hc) (fun i hi=>?_) (fun x hx=>?_) (fun i j hi hj=>hF i j (hl▸hi) hj) (fun i hi j hj=>?_)
   ·rw[<-(ww i hi).1];exact hs i _
   ·obtain⟨i,hi,rfl⟩:=List.getElem_of_mem hx;exact(ww i hi).2.1
   ·have sn:j<(xs[i]'(hl▸hi)).length:=by rw[(ww i hi).1];exact hj
    exact(ww i hi).2.2 j _ _ (by simp[sn]) (by simp[hj]) E _ (hr i _ j sn)
theorem dE.refl{x:List PV}(h:∀c,c∈x->c.flat=true):dE x x:=⟨rfl,h,fun i a b ha hb=>by rw[ha]at hb;cases hb;exact .refl a⟩
theorem aK.refl{xs:List (List PV)}(h:∀x,x∈xs->∀c,c∈x->c.flat=true):aK xs xs:=⟨rfl,fun i a b ha hb=>by rw[ha]at hb;cases hb;exact .refl (h a (List.mem_of_getElem? ha))⟩
theorem cd.e0{a:PV}(ha:aQ a)(h:(ae a).length=0):cd a e0:=cd.sl ha (by rw[List.eq_nil_of_length_eq_zero h];exact .nil)
theorem cd.ae{a:PV}(ha:aQ a)(h:∀x,x∈ae a->∀c,c∈x->c.flat=true):cd a (.sl (ae a)):=cd.sl ha (aK.refl h)
theorem bD.cells{E:Env}{x d:List PV}{v:Value}(h:dE x d)(k:bD E (.agg x) v):bD E (.agg d) v:=by
 obtain⟨vs,rfl,h1,h2⟩:=k.DU;refine .agg d vs h.2.1 (h.1▸h1.1) (fun i hi=>?_);have hx:i<x.length:=by rw[h.1];exact hi
 exact h.2.2 i _ _ (by simp[hx]) (by simp[hi]) E _ (h1.get i hx)
def ra(P:List PV->List PV->Prop)(xs:List (List PV))(r:PV):Prop:=∃w ds,r= .bZ [w,.bool true]/\br P w ds/\aK xs ds
def N1(P:List PV->List PV->Prop)(x:List PV)(r:PV):Prop:=∃t k d,r= .bZ [.agg [.aj t k,ab],.bool true]/\aw k=true/\P [.aj t k,ab] d/\dE x d
def NoR(xs:List (List PV))(r:PV):Prop:=∃k ds,r= .bZ [.agg [k,ab],.bool true]/\cellsOf k=some [k]/\aw k=true/\CO [k,ab] ds/\aK xs ds
end Go.Pi
end
section
namespace Go.Pi
theorem CE.ht{c d:List PV}(h:CE c d):R.aR d:=by cases h<;>assumption
theorem CP.ht{c d:List PV}(h:CP c d):R.jl d:=by cases h;assumption
theorem CQ.ht{c d:List PV}(h:CQ c d):R.iV d:=by cases h;assumption
theorem CB.ht{c d:List PV}(h:CB c d):R.eP d:=by cases h<;>assumption
theorem CI.ht{c d:List PV}(h:CI c d):R.iz d:=by cases h;assumption
theorem CJ.ht{c d:List PV}(h:CJ c d):R.iz d:=by cases h;assumption
theorem CA.ht{c d:List PV}(h:CA c d):R.jm d:=by cases h;assumption
theorem CF.ht{c d:List PV}(h:CF c d):R.gu d:=by cases h;assumption
theorem CM.ht{c d:List PV}(h:CM c d):R.iI d:=by cases h<;>assumption
theorem CC.ht{c d:List PV}(h:CC c d):R.gH d:=by cases h;assumption
theorem CD.ht{c d:List PV}(h:CD c d):R.jn d:=by cases h;assumption
theorem CK.ht{c d:List PV}(h:CK c d):R.jo d:=by cases h;assumption
theorem CS.ht{c d:List PV}(h:CS c d):R.bH d:=by cases h<;>assumption
def Ty(P:List PV->Prop)(ds:List (List PV)):Prop:=ds.length<=1048576/\∀d,d∈ds->P d
theorem Ty.nil{P:List PV->Prop}:Ty P []:=⟨by simp,by simp⟩
theorem Ty.one{P:List PV->Prop}{a:List PV}(h:P a):Ty P [a]:=⟨by simp,by simpa using h⟩
theorem Ty.two{P:List PV->Prop}{a b:List PV}(h:P a)(k:P b):Ty P [a,b]:=⟨by simp,by simpa using⟨h,k⟩⟩
theorem Ty.three{P:List PV->Prop}{a b c:List PV}(h:P a)(k:P b)(l:P c):Ty P [a,b,c]:=⟨by simp,by simpa using⟨h,k,l⟩⟩
theorem br.ty{P:List PV->List PV->Prop}{Q:List PV->Prop}{w:PV}{ds:List (List PV)}(h:br P w ds)(hQ:∀c d,P c d->Q d):Ty Q ds:=by
 have hl:=h.1.2.2;refine⟨by rw[<-hl];exact h.1.1.len,fun d hd=>?_⟩;obtain⟨i,hi,rfl⟩:=List.getElem_of_mem hd;exact hQ _ _ (h.2 i (ae w)[i] _ (by simp[hl,hi]) (by simp[hi]))
theorem CO.ty{c:List PV}{ds:List (List PV)}(h:CO c ds):Ty R.aR ds:=by
 cases h with
 |none=>exact .nil
 |some k d h=>exact .one h.ht
theorem Ty.sl{P:List PV->Prop}{ds:List (List PV)}(h:Ty P ds):aQ (.sl ds):= .sl h.1
theorem Ty.deep{P:List PV->Prop}{ds:List (List PV)}(h:Ty P ds)(hP:∀d,P d->aP d=true):aw (.sl ds)=true:=by
 simp only[aw];have h:=h.2;revert h
 induction ds with
 |nil=>intro _;rfl
 |cons a gs ih=>intro h;simp only[jx,Bool.and_eq_true];exact⟨hP _ (h a (by simp)),ih ⟨by have:=(‹Ty P (a::gs)›).1;simp at this;omega,fun d hd=>h d (by simp[hd])⟩ fun d hd=>h d (by simp[hd])⟩
theorem R.aR.flat{d:List PV}(h:R.aR d):∀c,c∈d->c.flat=true:=by
 cases h with
 |mk kind op aA chain flags num str text kids bf parts aC aG hn hs ht lk hk lp hp lq hq lf hf lc hc hd=>
  obtain⟨n,rfl,_⟩:=hn;have F:∀v,aQ v->v.flat=true:=fun v h=>by rcases h with rfl|⟨_,rfl,_⟩<;>rfl
  have MA:aC.flat=true:=by rcases lf with h|⟨rfl,_⟩;exact F _ h;rfl
  intro c hc;simp only[List.mem_cons,List.not_mem_nil,or_false]at hc;rcases hc with rfl|rfl|rfl|rfl|rfl|rfl|rfl|rfl|rfl|rfl|rfl|rfl|rfl<;>first|rfl|exact F _ hs.1|exact F _ lk|exact F _ lp|exact F _ lq|exact MA|exact F _ lc
def Un(x:List PV):Prop:=∃n:Int,x=[.int .u16 n]/\0<=n/\n<65536
theorem MD{us:List (List PV)}(h:Ty Un us):pI (.sl us):=⟨h.sl,h.2⟩
theorem Un.deep{x:List PV}(h:Un x):aP x=true:=by obtain⟨n,rfl,_⟩:=h;rfl
theorem Un.flat{x:List PV}(h:Un x):∀c,c∈x->c.flat=true:=by obtain⟨n,rfl,_⟩:=h;intro c hc;simp at hc;subst hc;rfl
section
variable{K op aA ch fl:Int}{nn:Nat}{tx:ByteArray}{us dk dp dq df dc:List (List PV)}{fd str kids bf parts aC je:PV}
theorem XT(hn:nn<18446744073709551616)(hu:Ty Un us)(ht:tx.size<=1048576)(hk:Ty R.aR dk)(hp:Ty R.jl dp)(hq:Ty R.iV dq)(hf:fd= .sl df/\Ty R.gu df\/fd=oC/\(K=21\/K=22))(hc:Ty R.gH dc):
 R.aR (Xd K op aA ch fl nn (.sl us) tx (.sl dk) (.sl dp) (.sl dq) fd (.sl dc)):=by
 have d1:=hu.deep fun _=>Un.deep
 have d2:=hk.deep fun _=>R.aR.deep
 have d3:=hp.deep fun _=>R.jl.deep
 have d4:=hq.deep fun _=>R.iV.deep
 have d5:=hc.deep fun _=>R.gH.deep
 have d6:aw fd=true:=by rcases hf with⟨rfl,h⟩|⟨rfl,_⟩;exact h.deep fun _=>R.gu.deep;rfl
 refine .mk K op aA ch fl (.bR .f64 nn) (.sl us) tx (.sl dk) (.sl dp) (.sl dq) fd (.sl dc) ⟨nn,rfl,hn⟩ (MD hu) ht hk.sl hk.2 hp.sl hp.2 hq.sl hq.2 ?_ ?_ hc.sl hc.2 (by simp only[aP,aw,Bool.and_true,Bool.true_and]at*;simp only[*,Bool.and_self])
 ·rcases hf with⟨rfl,h⟩|h
  ·exact .inl h.sl
  ·exact .inr h
 ·rcases hf with⟨rfl,h⟩|⟨rfl,_⟩
  ·exact h.2
  ·intro x hx;simp[ae]at hx
theorem XK(ht:tx.size<=1048576)(hk:Ty R.aR dk):R.aR (Xk K op ch fl tx dk):=XT (df:=[]) (by omega) .nil ht hk .nil .nil (.inl ⟨rfl,.nil⟩) .nil
theorem XL(ls:aQ str)(lk:aQ kids)(lp:aQ bf)(lq:aQ parts)(lc:aQ je)(hs:ae str=us)(hu:∀x,x∈us->Un x)(hk:aK (ae kids) dk)(hp:aK (ae bf) dp)(hq:aK (ae parts) dq)(hf:cd aC fd)(ff:fd.flat=true)(hc:aK (ae je) dc):
 dE (Xd K op aA ch fl nn str tx kids bf parts aC je) (Xd K op aA ch fl nn (.sl us) tx (.sl dk) (.sl dp) (.sl dq) fd (.sl dc)):=
 .same rfl (.same rfl (.same rfl (.same rfl (.same rfl (.same rfl (.cons (by subst hs;exact .ae ls fun x hx=>(hu x hx).flat) rfl (.same rfl (.cons (.sl lk hk) rfl (.cons (.sl lp hp) rfl (.cons (.sl lq hq) rfl (.cons hf ff (.cons (.sl lc hc) rfl .nil))))))))))))
theorem aK.zero{v:PV}(h:(ae v).length=0):aK (ae v) []:=by rw[List.eq_nil_of_length_eq_zero h];exact .nil
theorem mC{aC:PV}(ls:aQ str)(lk:aQ kids)(lp:aQ bf)(lq:aQ parts)(lf:aQ aC)(lc:aQ je)(hk:aK (ae kids) dk)(hs:ae str=[])(hp:ae bf=[])(hq:ae parts=[])(hf:ae aC=[])(hc:ae je=[]):
 dE [.int .i64 K,.int .i64 op,.int .i64 0,.int .i64 ch,.int .i64 fl,.bR .f64 0,str,.str tx,kids,bf,parts,aC,je] (Xk K op ch fl tx dk):=
 XL ls lk lp lq lc hs (by simp) hk (by rw[hp];exact .nil) (by rw[hq];exact .nil) (.e0 lf (by rw[hf];rfl)) rfl (by rw[hc];exact .nil)
end
section
variable{K op aA ch fl:Int}{nn:Nat}{tx:ByteArray}{str kids bf parts aC je:PV}
theorem oE(hn:nn<18446744073709551616)(ht:tx.size<=1048576):R.aR (Xd K op aA ch fl nn e0 tx e0 e0 e0 e0 e0):=XT (df:=[]) hn .nil ht .nil .nil .nil (.inl ⟨rfl,.nil⟩) .nil
theorem iC{v:PV}(h:aQ v)(k:ae v=[]):cd v e0:= .e0 h (by rw[k];rfl)
theorem oF(ls:aQ str)(lk:aQ kids)(lp:aQ bf)(lq:aQ parts)(lf:aQ aC)(lc:aQ je)(hs:ae str=[])(hk:ae kids=[])(hp:ae bf=[])(hq:ae parts=[])(hf:ae aC=[])(hc:ae je=[]):
 dE [.int .i64 K,.int .i64 op,.int .i64 aA,.int .i64 ch,.int .i64 fl,.bR .f64 nn,str,.str tx,kids,bf,parts,aC,je] (Xd K op aA ch fl nn e0 tx e0 e0 e0 e0 e0):=
 .same rfl (.same rfl (.same rfl (.same rfl (.same rfl (.same rfl (.cons (iC ls hs) rfl (.same rfl (.cons (iC lk hk) rfl (.cons (iC lp hp) rfl (.cons (iC lq hq) rfl (.cons (iC lf hf) rfl (.cons (iC lc hc) rfl .nil))))))))))))
end
theorem C6{str:PV}(l:aB Un str):Ty Un (ae str):=⟨l.1.len,l.2.2⟩
theorem C7{w str:PV}(h1:mA w)(h2:aw w=true)(h3:ae w=ae str)(l:aB Un str):fS w (ae str).length:=by
 refine⟨h1.imp id fun⟨xs,e⟩=>⟨xs,e,?_⟩,h2,by rw[h3]⟩;subst e;have:=l.1.len;rw[<-h3]at this;simpa[ae]using this
theorem XLs{K op aA ch fl:Int}{nn:Nat}{tx:ByteArray}{str kids bf parts aC je:PV}(ls:aB Un str)(lk:aQ kids)(lp:aQ bf)(lq:aQ parts)(lf:aQ aC)(lc:aQ je)(hk:ae kids=[])(hp:ae bf=[])(hq:ae parts=[])(hf:ae aC=[])(hc:ae je=[]):
 dE [.int .i64 K,.int .i64 op,.int .i64 aA,.int .i64 ch,.int .i64 fl,.bR .f64 nn,str,.str tx,kids,bf,parts,aC,je] (Xd K op aA ch fl nn (.sl (ae str)) tx e0 e0 e0 e0 e0):=
 .same rfl (.same rfl (.same rfl (.same rfl (.same rfl (.same rfl (.cons (.ae ls.1 fun x hx=>(ls.2.2 x hx).flat) rfl (.same rfl (.cons (iC lk hk) rfl (.cons (iC lp hp) rfl (.cons (iC lq hq) rfl (.cons (iC lf hf) rfl (.cons (iC lc hc) rfl .nil))))))))))))
theorem ia:ByteArray.empty=bs []:=rfl
end Go.Pi
end
section
namespace Go.Pi
section
variable{dk dv dm ds ss gs:List (List PV)}{kind fl n:Int}{b:Bool}{d0 d1 d2 d3:PV}
theorem ph{ds:List (List PV)}(h:Ty R.aR ds):aw (.sl ds)=true:=h.deep fun _=>R.aR.deep
theorem C9{ds:List (List PV)}(h:Ty R.bH ds):aw (.sl ds)=true:=h.deep fun _=>R.bH.deep
theorem PT(hr:Rg fl)(hk:Ty R.aR dk)(hv:Ty R.aR dv):R.jl [.int .i64 kind,.int .i64 fl,.sl dk,.sl dv]:=
 .mk kind fl _ _ hk.sl hk.2 hv.sl hv.2 hr (by have:=ph hk;have:=ph hv;simp only[aP, *,Bool.and_true];rfl)
theorem QT{us:List (List PV)}{tx:ByteArray}(hk:Ty R.aR dk)(hu:Ty Un us)(ht:tx.size<=1048576):R.iV [.sl dk,.sl us,.str tx]:=
 .mk _ _ tx hk.sl hk.2 (MD hu) ht (by have:=ph hk;have:=hu.deep fun _=>Un.deep;simp only[aP, *,Bool.and_true];rfl)
theorem BT(h:Ty R.iz ds):R.eP [.int .i64 kind,.int .i64 n,.sl ds,.bool b]:=
 .mk kind n _ b h.sl h.2 (by have:=h.deep fun _=>R.iz.deep;simp only[aP, *,Bool.and_true];rfl)
theorem IT(hr:Rg fl)(hk:Ty R.aR dk)(hv:Ty R.aR dv)(hb:R.eP [d0,d1,d2,d3]):R.iz [.int .i64 fl,.sl dk,.sl dv,d0,d1,d2,d3]:=
 .mk fl _ _ d0 d1 d2 d3 hk.sl hk.2 hv.sl hv.2 hb hr (by have:=ph hk;have:=ph hv;have h4:=hb.deep;simp only[aP,Bool.and_true,Bool.and_eq_true]at h4⊢;exact⟨rfl,by assumption,by assumption,h4⟩)
theorem AT(hv:Ty R.aR dv)(hb:R.eP [d0,d1,d2,d3]):R.jm [d0,d1,d2,d3,.sl dv]:=
 .mk d0 d1 d2 d3 _ hb hv.sl hv.2 (by have:=ph hv;have h4:=hb.deep;simp only[aP,Bool.and_true,Bool.and_eq_true]at h4⊢;exact⟨h4.1,h4.2.1,h4.2.2.1,h4.2.2.2,by assumption⟩)
theorem DT(hv:Ty R.aR dv)(hb:R.eP [d0,d1,d2,d3]):R.jn [d0,d1,d2,d3,.sl dv]:=
 .mk d0 d1 d2 d3 _ hb hv.sl hv.2 (by have:=ph hv;have h4:=hb.deep;simp only[aP,Bool.and_true,Bool.and_eq_true]at h4⊢;exact⟨h4.1,h4.2.1,h4.2.2.1,h4.2.2.2,by assumption⟩)
theorem FT(hr:Rg fl)(ha:Ty R.jm gs)(hs:Ty R.bH ss):R.gu [.int .i64 n,.int .i64 fl,.sl gs,.sl ss]:=
 .mk n fl _ _ ha.sl ha.2 hs.sl hs.2 hr (by have:=ha.deep fun _=>R.jm.deep;have:=C9 hs;simp only[aP, *,Bool.and_true];rfl)
theorem MT(hr:Rg fl)(hk:Ty R.aR dk)(hv:Ty R.aR dv)(hm:Ty R.aR dm)(hs:Ty R.bH ss):R.iI [.int .i64 kind,.int .i64 fl,.sl dk,.sl dv,.sl dm,.sl ss]:=
 .mk kind fl _ _ _ _ hk.sl hk.2 hv.sl hv.2 hm.sl hm.2 hs.sl hs.2 hr (by have:=ph hk;have:=ph hv;have:=ph hm;have:=C9 hs;simp only[aP, *,Bool.and_true];rfl)
theorem CT(hk:Ty R.aR dk)(hm:Ty R.iI ds):R.gH [.int .i64 n,.sl dk,.sl ds]:=
 .mk n _ _ hk.sl hk.2 hm.sl hm.2 (by have:=ph hk;have:=hm.deep fun _=>R.iI.deep;simp only[aP, *,Bool.and_true];rfl)
theorem KT(hk:Ty R.aR dk)(hs:Ty R.bH ss):R.jo [.sl dk,.sl ss]:=
 .mk _ _ hk.sl hk.2 hs.sl hs.2 (by have:=ph hk;have:=C9 hs;simp only[aP, *,Bool.and_true])
end
theorem ST{K op fl:Int}{aA:PV}{us es ks ds ws fs cs:List (List PV)}(hr:(∃n,aA= .int .i64 n)\/aA=dV/\K≠17/\K≠20/\K≠21)(hf:Rg fl)(h1:Ty Un us)(h2:Ty R.aR es)(h3:Ty R.bH ks)(h4:Ty R.jn ds)(h5:Ty R.jo ws)(h6:Ty R.gu fs)(h7:Ty R.gH cs):
 R.bH (Sd K op aA fl (.sl us) (.sl es) (.sl ks) (.sl ds) (.sl ws) (.sl fs) (.sl cs)):=by
 have d0:aw aA=true:=by rcases hr with⟨n,rfl⟩|⟨rfl,_⟩<;>rfl
 have d1:=h1.deep fun _=>Un.deep
 have d2:=ph h2;have d3:=C9 h3;have d4:=h4.deep fun _=>R.jn.deep
 have d5:=h5.deep fun _=>R.jo.deep
 have d6:=h6.deep fun _=>R.gu.deep
 have d7:=h7.deep fun _=>R.gH.deep
 refine .mk K op fl aA _ _ _ _ _ _ _ hr (MD h1) h2.sl h2.2 h3.sl h3.2 h4.sl h4.2 h5.sl h5.2 h6.sl h6.2 h7.sl h7.2 hf ?_;simp only[aP,Bool.and_true, *];rfl
theorem SK{K:Int}{es ks:List (List PV)}(hK:K≠17/\K≠20/\K≠21)(h2:Ty R.aR es)(h3:Ty R.bH ks):R.bH (Sk K es ks):=ST (.inr ⟨rfl,hK⟩) ⟨by omega,by omega⟩ .nil h2 h3 .nil .nil .nil .nil
theorem br.U4{w:PV}{ds xs:List (List PV)}(h:br CE w ds)(hl:aK xs ds)(hn:xs.length<=1):(ds=[]/\ae w=[])\/∃d u y,ds=[d]/\w= .sl [[.aj u y,ab]]/\aw y=true/\CE [.aj u y,ab] d:=by
 have h1:=hl.1;have h2:=h.1.2.2
 match ds,h,h1,h2 with
 |[],h,h1,h2=>exact .inl ⟨rfl,List.eq_nil_of_length_eq_zero h2⟩
 |[d],h,_,_=>
  obtain⟨⟨hs,hd,hn⟩,h⟩:=h;rcases hs with rfl|⟨xs,rfl,hl⟩
  ·simp[ae]at hn
  ·match xs,hn with
   |[c],_=>
    have hP:=h 0 c d (by simp[ae]) (by simp);obtain⟨u,x,rfl⟩:∃u x,c=[.aj u x,ab]:=by cases hP<;>exact⟨_,_,rfl⟩
    simp only[aw,jx,aP,Bool.and_eq_true,Bool.and_true]at hd;exact .inr ⟨d,u,x,rfl,rfl,hd,hP⟩
 |a::b::r,h,h1,h2=>simp at h1;omega
theorem br.U5{w:PV}{ds xs:List (List PV)}(h:br CE w ds)(hl:aK xs ds)(hn:xs.length=1):∃d u y,ds=[d]/\w= .sl [[.aj u y,ab]]/\aw y=true/\CE [.aj u y,ab] d:=by
 rcases h.U4 hl (by omega)with⟨rfl,_⟩|h
 ·have:=hl.1;rw[hn]at this;cases this
 ·exact h
theorem Ls{u:Nat}{y:PV}:db 2 (.sl [[.aj u y,ab]]) (.int .i64 0)=some (.fp [.aj u y,ab],none):=rfl
theorem Ck{c:List PV}:aQ (.sl [c]):= .sl (by simp)
theorem fh{c:List PV}:(ae (.sl [c])).length=1:=rfl
theorem CB.four{c d:List PV}(h:CB c d):∃d0 d1 d2 d3,d=[d0,d1,d2,d3]:=by cases h<;>exact⟨_,_,_,_,rfl⟩
theorem dE.append{x y d e:List PV}(h:dE x d)(k:dE y e):dE (x++y) (d++e):=by
 refine⟨by simp[h.1,k.1],by intro c hc;rcases List.mem_append.1 hc with hc|hc;exact h.2.1 c hc;exact k.2.1 c hc,fun i a b ha hb=>?_⟩;have hl:=h.1;rcases Nat.lt_or_ge i x.length with hi|hi
 ·rw[List.getElem?_append_left hi]at ha;rw[List.getElem?_append_left (by omega)]at hb;exact h.2.2 i a b ha hb
 ·rw[List.getElem?_append_right hi]at ha;rw[List.getElem?_append_right (by omega),<-hl]at hb;exact k.2.2 _ a b ha hb
theorem dE.xI{str:PV}{x d:List PV}(h:aB Un str)(k:dE x d):dE (str::x) (.sl (ae str)::d):= .cons (.ae h.1 fun x hx=>(h.2.2 x hx).flat) rfl k
theorem dE.sl{v:PV}{ds:List (List PV)}{x d:List PV}(h:aQ v)(hl:aK (ae v) ds)(k:dE x d):dE (v::x) (.sl ds::d):= .cons (.sl h hl) rfl k
end Go.Pi
end
section
namespace Go.Pi
def vl:List Int->Int
 |[]=>0
 |x::xs=>x+4294967296*vl xs
def eb(a:List Int):Prop:=∀x,x∈a->0<=x/\x<4294967296
theorem eb.nil:eb []:=fun x h=>absurd h (by simp)
theorem eb.snoc{a:List Int}{x:Int}(h:eb a)(h0:0<=x)(h1:x<4294967296):eb (a++[x]):=by
 intro y hy;rcases List.mem_append.1 hy with hy|hy
 ·exact h y hy
 ·simp only[List.mem_singleton]at hy;subst hy;exact⟨h0,h1⟩
theorem eb.get{a:List Int}(h:eb a){i:Nat}{x:Int}(hx:a[i]?=some x):0<=x/\x<4294967296:=h x (List.mem_of_getElem? hx)
theorem eb.take{a:List Int}(h:eb a)(i:Nat):eb (a.take i):=fun x hx=>h x (List.mem_of_mem_take hx)
theorem XF(a b:List Int):vl (a++b)=vl a+4294967296 ^ a.length*vl b:=by
 induction a with
 |nil=>simp[vl]
 |cons x xs ih=>simp only[List.cons_append,vl,ih,List.length_cons,Int.pow_succ];grind
theorem yh(a:List Int)(x:Int):vl (a++[x])=vl a+4294967296 ^ a.length*x:=by
 rw[XF];simp[vl]
theorem Dg{a:List Int}(h:eb a):0<=vl a:=by
 induction a with
 |nil=>simp[vl]
 |cons x xs ih=>
  have h1:=ih fun y hy=>h y (by simp[hy])
  have h2:=h x (by simp);simp only[vl];omega
theorem Av(n:Nat):(0:Int)<4294967296 ^ n:=Int.pow_pos (by decide)
theorem M2{a b:Nat}(h:a<=b):(4294967296:Int) ^ a<=4294967296 ^ b:=by
 obtain⟨c,rfl⟩:∃c,b=a+c:=⟨b - a,by omega⟩;rw[Int.pow_add];have h1:=Av a;have h2:=Av c;have h3:(4294967296:Int) ^ a*1<=4294967296 ^ a*4294967296 ^ c:=Int.mul_le_mul_of_nonneg_left (by omega) (by omega);omega
theorem Dh{a:List Int}(h:eb a):vl a<4294967296 ^ a.length:=by
 induction a with
 |nil=>simp[vl]
 |cons x xs ih=>
  have h1:=ih fun y hy=>h y (by simp[hy])
  have h2:=h x (by simp);simp only[vl,List.length_cons,Int.pow_succ];omega
theorem Qs(n:Nat):vl (List.replicate n 0)=0:=by
 induction n with
 |zero=>rfl
 |succ n ih=>simp only[List.replicate_succ,vl,ih];omega
theorem Aw{a:List Int}{i:Nat}{x:Int}(h:a[i]?=some x):vl (a.take (i+1))=vl (a.take i)+4294967296 ^ i*x:=by
 have hi:i<a.length:=by
  rcases Nat.lt_or_ge i a.length with h2|h2
  ·exact h2
  ·rw[List.getElem?_eq_none h2]at h;cases h
 rw[List.take_add_one,h];show vl (a.take i++[x])=_;rw[yh,List.length_take,Nat.min_eq_left (by omega)]
theorem XH{a:List Int}{i:Nat}{x:Int}(h:a[i]?=some x):vl a=vl (a.take i)+4294967296 ^ i*(x+4294967296*vl (a.drop (i+1))):=by
 have hi:i<a.length:=by
  rcases Nat.lt_or_ge i a.length with h2|h2
  ·exact h2
  ·rw[List.getElem?_eq_none h2]at h;cases h
 have e:a=a.take i++(x::a.drop (i+1)):=by
  have h3:a[i]=x:=by rw[List.getElem?_eq_getElem hi]at h;exact Option.some.inj h
  rw[<-h3,<-List.drop_eq_getElem_cons hi,List.take_append_drop]
 conv=>lhs;rw[e]
 rw[XF,List.length_take,Nat.min_eq_left (by omega),vl]
theorem auD{a b:List Int}{i:Nat}{x y:Int}(ha:eb a)(hb:eb b)(hx:a[i]?=some x)(hy:b[i]?=some y)(hd:a.drop (i+1)=b.drop (i+1))(h:x<y):vl a<vl b:=by
 rw[XH hx,XH hy,hd];have h1:=Dh (ha.take i);have h2:=Dg (hb.take i);have hi:(a.take i).length<=i:=by rw[List.length_take];omega
 have h3:(4294967296:Int) ^ (a.take i).length<=4294967296 ^ i:=M2 hi;have h4:=Av i;generalize (4294967296:Int) ^ i=p at*;generalize vl (List.drop (i+1) b)=z at*;have h5:p*(x+4294967296*z)+p<=p*(y+4294967296*z):=by
  have:p*(x+4294967296*z)+p=p*(x+4294967296*z+1):=by grind
  rw[this];exact Int.mul_le_mul_of_nonneg_left (by omega) (by omega)
 omega
def rZ(a:List Int):Prop:=∀x,a.getLast?=some x->x≠0
theorem rZ.nil:rZ []:=fun x h=>absurd h (by simp)
theorem XI{a:List Int}(ha:eb a)(ht:rZ a)(dW:a≠[]):4294967296 ^ (a.length - 1)<=vl a:=by
 obtain⟨l,x,rfl⟩:∃l x,a=l++[x]:=⟨a.dropLast,a.getLast dW,(List.dropLast_concat_getLast dW).symm⟩;have h1:=ht x (by simp);have h2:=ha x (by simp);have h3:=Dg (a:=l) fun y hy=>ha y (by simp[hy])
 rw[yh,List.length_append,List.length_singleton,Nat.add_sub_cancel];have h4:=Av l.length;have h5:(4294967296:Int) ^ l.length*1<=4294967296 ^ l.length*x:=Int.mul_le_mul_of_nonneg_left (by omega) (by omega);omega
theorem Hp{a b:List Int}(ha:eb a)(hb:eb b)(ht:rZ b)(h:a.length<b.length):vl a<vl b:=by
 have h1:=Dh ha;have h2:=XI hb ht (by intro e;subst e;simp at h);have h3:(4294967296:Int) ^ a.length<=4294967296 ^ (b.length - 1):=M2 (by omega);omega
theorem XJ{a:List Int}(ha:eb a)(ht:rZ a)(h:vl a=0):a=[]:=by
 rcases a with _|⟨x,xs⟩
 ·rfl
 ·have:=Hp (a:=[]) eb.nil ha ht (by simp);simp only[vl]at this h;omega
def fY(a:List Int):List (List PV):=a.map fun x=>[.int .u64 x]
def jy(v:PV)(a:List Int):Prop:=(v= .ah/\a=[])\/v= .sl (fY a)
def ez(N:Int)(L:Nat)(v:PV):Prop:=∃a,jy v a/\eb a/\rZ a/\vl a=N/\a.length<=L
theorem jy.ae{v:PV}{a:List Int}(h:jy v a):ae v=fY a:=by
 rcases h with⟨rfl,rfl⟩|rfl<;>rfl
theorem jy.qe{v:PV}{a:List Int}(h:jy v a):mA v:=by
 rcases h with⟨rfl,rfl⟩|rfl
 ·exact .inl rfl
 ·exact .inr ⟨_,rfl⟩
theorem auE(a:List Int):jx (fY a)=true:=qo fun y hy=>by
 simp only[fY,List.mem_map]at hy;obtain⟨x,_,rfl⟩:=hy;rfl
theorem jy.deep{v:PV}{a:List Int}(h:jy v a):aw v=true:=by
 rcases h with⟨rfl,rfl⟩|rfl
 ·rfl
 ·simp only[aw];exact auE a
theorem jy.len{v:PV}{a:List Int}(h:jy v a):(Go.Pi.ae v).length=a.length:=by rw[h.ae,fY,List.length_map]
theorem jy.get{v:PV}{a:List Int}(h:jy v a){i:Nat}{y:List PV}(hy:(Go.Pi.ae v)[i]?=some y):∃x,y=[.int .u64 x]/\a[i]?=some x:=by
 rw[h.ae,fY,List.getElem?_map]at hy;cases hx:a[i]? with
 |none=>rw[hx]at hy;cases hy
 |some x=>rw[hx]at hy;simp only[Option.map_some,Option.some.injEq]at hy;exact⟨x,hy.symm,rfl⟩
theorem auF(a:List Int)(x:Int):fY (a++[x])=fY a++[[.int .u64 x]]:=by simp[fY]
theorem M3(a:List Int):(fY a).length=a.length:=by simp[fY]
end Go.Pi
end
section
namespace Go.Pi
open Go.RowKit
section
variable{T:Nat->Option FX}{X:aS}{G:Nat->PV}{Q:Ex->St->Prop}{w:List Wk}
variable{i len id n:Nat}{tr:er}{d:Option Nat}{os:List XO}{t:Nat->PV}{H:al}
theorem sy{v:PV}{a:List Int}{m:Int}(h:jy v a)(h0:0<=m)(h1:m<(a.length:Int))(k:∀x,a[m.toNat]?=some x->M T X G (.ops i os len tr::w) ⟨put t d (.fp [.int .u64 x]),H,n⟩ Q):
 eD T X G 1 v (.int .i64 m) d i os len tr w t H n Q:=by
 obtain⟨p,rfl⟩:=Int.eq_ofNat_of_zero_le h0;have hp:p<a.length:=by omega
 have sv:p<(ae v).length:=by rw[h.len];exact hp
 have hy:(ae v)[p]=[.int .u64 a[p]]:=by
  have e:=h.ae;have:(ae v)[p]?=some [.int .u64 a[p]]:=by rw[e,fY,List.getElem?_map,List.getElem?_eq_getElem hp];rfl
  rw[List.getElem?_eq_getElem sv]at this;exact Option.some.inj this
 have kP:=C1 (s:=1) h.qe sv (by rw[hy];rfl);unfold eD;rw[kP,hy];exact k _ (by rw[Int.toNat_natCast,List.getElem?_eq_getElem hp])
theorem XM{v:PV}{a:List Int}{m x:Int}(h:jy v a)(hx:a[m.toNat]?=some x)(h0:0<=m)(k:M T X G (.ops i os len tr::w) ⟨put t d (.fp [.int .u64 x]),H,n⟩ Q):
 eD T X G 1 v (.int .i64 m) d i os len tr w t H n Q:=by
 have hl:m.toNat<a.length:=by
  rcases Nat.lt_or_ge m.toNat a.length with h2|h2
  ·exact h2
  ·rw[List.getElem?_eq_none h2]at hx;cases hx
 refine sy h h0 (by omega) fun y hy=>?_
 rw[hx]at hy;cases hy;exact k
theorem auG{x j:bK}{v:PV}{a:List Int}{m:Int}(hx:ev G t x=v)(hj:ev G t j= .int .i64 m)(h:jy v a)(h0:0<=m)(h1:m<=(a.length:Int))
 (k:∀v',jy v' (a.take m.toNat)->M T X G (.ops (i+1) os len (push tr ([],[]))::w) ⟨put t d v',H,n⟩ Q):M T X G (.ops i (⟨d,none,id,.kj 1 x none (some j)⟩::os) len tr::w) ⟨t,H,n⟩ Q:=by
 rw[PC];rcases h with⟨rfl,rfl⟩|rfl
 ·have hm:m=0:=by simp at h1;omega
  subst hm;have e:runK (ev G t) H id (n+i) (.kj 1 x none (some j))=some (.ah,H):=by
   simp only[runK,cx,hx,jh,hj];rfl
  rw[e,kp];exact k .ah (.inl ⟨rfl,by simp⟩)
 ·have hl:=M3 a;have ha:(fY a).all (fun c=>c.length==1)=true:=by
   simp only[fY,List.all_eq_true,List.mem_map,beq_iff_eq];rintro _ ⟨y,_,rfl⟩;rfl
  have e:runK (ev G t) H id (n+i) (.kj 1 x none (some j))=some (.sl ((fY a).take m.toNat),H):=by
   simp only[runK,cx,hx,jh,hj,if_pos h0];rw[if_pos ⟨by omega,by omega,ha⟩];rfl
  rw[e,kp];exact k _ (.inr (by simp[fY,List.map_take]))
theorem aX.nv{A:List Nat}{v:PV}{a:List Int}(h:aX A H 28 1 v (fY a)):jy (Go.Pi.gv v (fY a)) a:=by
 rcases h.2 with⟨h1,rfl⟩|⟨id,st,_,rfl,_⟩
 ·exact .inl ⟨rfl,by simpa[fY]using h1⟩
 ·exact .inr rfl
theorem aX.sub{A A':List Nat}{e s:Nat}{v:PV}{ys:List (List PV)}(h:aX A H e s v ys)(hs:∀b,b∈A->b∈A'):aX A' H e s v ys:=
 ⟨h.1,h.2.imp id fun⟨b,st,h1,h2,h3⟩=>⟨b,st,hs b h1,h2,h3⟩⟩
theorem Hs{A:List Nat}{f e s:Nat}{v:PV}{ys:List (List PV)}{R:PV->Prop}(hg:aX A H e s v ys)(hM:Pure T X G f [Go.Pi.gv v ys] R)
 (k:∀r,R r->M T X G (.ops i os len tr::w) ⟨put t d r,H.drop (gi v),n⟩ Q)(eT:lj f=false:=by rfl):MC T X G f [v] d i os len tr w t H n Q:=by
 obtain⟨r,cells,h1,h2⟩:=hM;have hs:eh (settle depth H) [v]=some ([Go.Pi.gv v ys],gi v):=by
  rw[P3,show Go.Pi.settle depth H v=some (Go.Pi.gv v ys,gi v)from hg.dF (n:=29),P2];simp[EJ]
 have dW:∀b g rest,[v]≠ .ptr b g 0::rest:=by
  intro b g rest h;rcases hg.2 with⟨_,rfl⟩|⟨id,st,_,rfl,_⟩<;>cases h
 exact pH eT dW hs ⟨r,cells,h1,k r h2⟩
theorem Di{A:List Nat}{e2 rid st:Nat}{y x:bK}{out:List Int}{x0:Int}
 (hx:ev G t x= .row rid st 1)(hr:H rid=some ⟨e2,st,[.int .u64 x0],1⟩)(hg:aX A H 28 1 (ev G t y) (fY out))(kn:id∈A)(Mm:rid∉A)(hB:out.length<=1099511627776)
 (h:∀v H' fb,aX A H' 28 1 v (fY (out++[x0]))->(∀c,c∉A->c≠rid->H' c=H c)->(tr=none->fb=none)->M T X G (.ops (i+1) os len fb::w) ⟨put t d v,H',n⟩ Q):M T X G (.ops i (⟨d,none,id,.app 28 1 8 y x⟩::os) len tr::w) ⟨t,H,n⟩ Q:=by
 refine GV (A:=A) hx hr rfl rfl hg kn Mm (by rw[M3];omega) ?_;intro v H' fb bI hf fq;exact h v H' fb (by rw[auF];exact bI) hf fq
end
theorem ez.nv{N:Int}{L:Nat}{v:PV}(h:ez N L v):∃a,jy v a/\eb a/\rZ a/\vl a=N/\a.length<=L:=h
theorem ez.mono{N:Int}{L L':Nat}{v:PV}(h:ez N L v)(hl:L<=L'):ez N L' v:=by
 obtain⟨a,h1,h2,h3,h4,h5⟩:=h;exact⟨a,h1,h2,h3,h4,by omega⟩
theorem ez.deep{N:Int}{L:Nat}{v:PV}(h:ez N L v):aw v=true:=by
 obtain⟨a,h1,_⟩:=h;exact h1.deep
theorem ez.EM{N:Int}{L:Nat}{b g o:Nat}(h:ez N L (.ptr b g o)):False:=by
 obtain⟨a,h1,_⟩:=h;rcases h1 with⟨h,_⟩|h<;>cases h
theorem jy.EM{a:List Int}{b g o:Nat}(h:jy (.ptr b g o) a):False:=by
 rcases h with⟨h,_⟩|h<;>cases h
end Go.Pi
end
section
open Go Go.Pi
namespace Go.Pi
variable{p q a:Prop}
set_option maxRecDepth 100000
set_option maxHeartbeats 0
section
variable{X:aS}{G:Nat->PV}
theorem Fe{a:List Int}{k:Int}(h:(a.length:Int)<=k):vl (a.take k.toNat)=vl a:=by rw[List.take_of_length_le ad]
theorem QI{a:List Int}{k x:Int}(hx:a[(k - 1).toNat]?=some x)(h0:x=0)(hk:k>0):vl (a.take (k - 1).toNat)=vl (a.take k.toNat):=by
 have:=Aw hx;rw[show(k - 1).toNat+1=k.toNat by omega,h0]at this;rw[this];omega
theorem auH{a:List Int}{v:PV}{k:Int}(h:jy v (a.take k.toNat))(ha:eb a)(hk:k<=a.length)(hv:vl (a.take k.toNat)=vl a)(ht:k>0->∃x,a[(k - 1).toNat]?=some x/\¬x=0):ez (vl a) a.length v:=by
 refine⟨_,h,ha.take _,?_,hv,by rw[List.length_take];omega⟩;intro y hy;by_cases qW:k>0
 ·obtain⟨x,hx,bY⟩:=ht qW;rw[List.getLast?_eq_getElem?,List.length_take,Nat.min_eq_left ad,List.getElem?_take,if_pos ad,show k.toNat - 1=(k - 1).toNat by omega,hx]at hy;cases hy;exact bY
 ·rw[show k.toNat=0 by omega]at hy;simp at hy
namespace XN
theorem bx(x:a)(g:q)(h:a->q->p:=by(intro x g;exact nA (Kj x (Kj h0 (Kj h3 (Kj hv (Kj bW aI))))) g)):p:=h x g
theorem gT(h:p:=by
 first
 |(refine next _ ?_ _ ⟨_,QR,QR,zP,zP,zP,rfl⟩;(first|exact wM|exact Fe ad|exact(QI ax ax ad).trans eu))
 |fail):p:=h
theorem cw(h:p:=by
 first
 |((refine sy h ad ad (fun x hx=>?_);refine nA (Kj h0 (Kj h3 (Kj hv bW))) ?_))<;>exact bN
 |((refine auG (sB (Kj h0 (Kj h3 (Kj hv bW)))) (sB (Kj h0 (Kj h3 (Kj hv bW)))) h ad ad (fun v' uw=>?_);refine nA (Kj h0 (Kj h3 (Kj hv (Kj bW uw.deep)))) ?_;exact auH uw ha ad eu (fun hk=>by first|omega|exact⟨_,ax,ax⟩)))<;>exact bN
 |fail):p:=h
end XN
namespace XP
theorem bj(h:p:=by
 first
 |skip
  refine b5 (fun m' s'=>∃(k:Int),s'.t 0=v/\s'.t 3= .int .i64 k/\(0<=k)/\(k<=a.length)/\(vl (a.take k.toNat)=vl a)/\m'=k.toNat) ?_ (n:=_) ⟨_,ny,ny,zP,zP,zP,rfl⟩;rintro m' ⟨t,H,k⟩ ⟨k,h0,h3,cg,dH,eu,hm⟩ next
  simp only at h0 h3;refine nA (Kj h0 (Kj h3 (Kj hv bW))) ?_;open XN in exact bN
  done
 |fail):p:=h
end XP
theorem Ax{v:PV}{a:List Int}(h:jy v a)(ha:eb a)(hl:a.length<=1099511627776):Pure ai X G 154 [v] (ez (vl a) a.length):=by
 have hv:=h.qe;have hd:=h.deep;have bW:=h.len;refine ay aqg af ?_;refine nA (Kj hv (Kj hd bW)) ?_;open XP Cq in exact bp
namespace XQ
theorem bw(h:p:=by
 first
 |((refine pH rfl bS (zB) ?_;obtain⟨r,cells,hf,hr⟩:=ht;have yj:=hr.deep;refine⟨_,_,hf,?_⟩;refine nA yj ?_;exact hr))<;>exact bp
 |fail):p:=h
end XQ
theorem F2(n:Int)(h0:0<=n)(h1:n<4294967296):Pure ai X G 132 [.int .i64 n] (ez n 1):=by
 refine ay ap1 af ?_;refine zA ?_;have hg:jy (.sl [[.int .u64 n]]) [n]:= .inr rfl;have hv:vl [n]=n:=by simp[vl]
 have ht:=Ax (X:=X) (G:=G) hg (by intro x hx;simp at hx;subst hx;exact⟨h0,h1⟩) af;rw[hv]at ht;open XQ Y1 in exact bp
theorem Qu{a out:List Int}{i x c m more:Int}(hx:a[i.toNat]?=some x)(hi:0<=i)(hl:out.length=i.toNat)(h:vl out+4294967296 ^ i.toNat*c=vl (a.take i.toNat)*m+more):
 vl (out++[(c+x*m) % 4294967296])+4294967296 ^ (i+1).toNat*((c+x*m) / 4294967296)=vl (a.take (i+1).toNat)*m+more:=by
 have e:(i+1).toNat=i.toNat+1:=by omega
 rw[yh,hl,e,Aw hx,Int.pow_succ];have h2:=Int.mul_ediv_add_emod (c+x*m) 4294967296;generalize (c+x*m) % 4294967296=r at*;generalize (c+x*m) / 4294967296=q at*;generalize (4294967296:Int) ^ i.toNat=p at*
 grind
namespace XR
theorem eV(x:a)(g:q)(h:a->q->p:=by(intro x g;exact nA (Kj x (Kj h0 (Kj h1 (Kj h2 (Kj h7 (Kj h8 (Kj hv (Kj bW aI)))))))) g)):p:=h x g
theorem xc(h:p:=by
 first
 |(refine next _ ?_ _ ⟨_,_,_,_,aiQ,aiQ,aiQ,aiQ,aiQ,mO,mO,mO,mO,mO,mO,mO,mO,rfl⟩;(first|exact wM|exact aX.nil|exact eb.nil|(simp[vl];done)|exact iL.snoc ad ad|(simp only[List.length_append,List.length_cons,List.length_nil];omega)|exact Qu hx dH lC xd))
 |fail):p:=h
end XR
namespace XS
theorem bx(x:a)(g:q)(h:a->q->p:=by(intro x g;exact nA (Kj x (Kj h0 (Kj h1 (Kj h2 (Kj h7 (Kj h8 (Kj hv (Kj bW aI)))))))) g)):p:=h x g
theorem cw(h:p:=by
 first
 |((refine sy h ad ad (fun x hx=>?_);refine nA (Kj h0 (Kj h1 (Kj h2 (Kj h7 (Kj h8 (Kj hv bW)))))) ?_))<;>exact bN
 |fail):p:=h
theorem iZ(h:p:=by
 first
 |skip
  obtain⟨bY,gG⟩:=ha.get hx;have Gj:=at7 bY gG M4 r7;simp(disch:=omega) only[wrap_u64,qK];refine Di (A:=[6005]) (rid:=6004) (x0:=(c+x*m) % 4294967296) (sB (Kj h0 (Kj h1 (Kj h2 (Kj h7 (Kj h8 (Kj hv bW))))))) (sB (Kj h0 (Kj h1 (Kj h2 (Kj h7 (Kj h8 (Kj hv bW))))))) (by refine nA (Kj h0 (Kj h1 (Kj h2 (Kj h7 (Kj h8 (Kj hv bW)))))) ?_;exact cg.frame pU) af af ad ?_;intro v' H' fb bI hf fq;have:=fq rfl;subst this;refine nA (Kj h0 (Kj h1 (Kj h2 (Kj h7 (Kj h8 (Kj hv bW)))))) ?_;open XR in exact jr
  done
 |fail):p:=h
theorem nD(h:p:=by
 first
 |skip
  refine Di (A:=[6005,8004]) (rid:=8003) (x0:=c) (sB (Kj h0 (Kj h1 (Kj h2 (Kj h7 (Kj h8 (Kj hv bW))))))) (sB (Kj h0 (Kj h1 (Kj h2 (Kj h7 (Kj h8 (Kj hv bW))))))) (by refine nA (Kj h0 (Kj h1 (Kj h2 (Kj h7 (Kj h8 (Kj hv bW)))))) ?_;exact(cg.frame pU).sub af) af af ad ?_;intro v' H' fb bI hf fq;have:=fq rfl;subst this;refine nA (Kj h0 (Kj h1 (Kj h2 (Kj h7 (Kj h8 (Kj hv bW)))))) ?_;refine Hs bI (Ax bI.nv (iL.snoc jT gn) zX) (fun r hr=>?_);have yj:=hr.deep;refine nA (Kj h0 (Kj h1 (Kj h2 (Kj h7 (Kj h8 (Kj hv (Kj bW yj))))))) ?_;have e:vl (out++[c])=vl a*m+more:=by
   rw[yh,lC,xd,Fe ad]
  rw[e]at hr;exact hr.mono zX;done
 |fail):p:=h
end XS
namespace XU
theorem bj(h:p:=by
 first
 |skip
  refine b5 (fun m' s'=>∃(i c:Int)(out:List Int)(g:PV),s'.t 0=v/\s'.t 1= .int .u64 m/\s'.t 2= .int .u64 c/\s'.t 7=g/\s'.t 8= .int .i64 i/\(aX [6005] s'.H 28 1 g (fY out))/\(0<=i)/\(i<=a.length)/\(0<=c)/\(c<4294967296)/\(eb out)/\(out.length=i.toNat)/\(vl out+4294967296 ^ i.toNat*c=vl (a.take i.toNat)*m+more)/\m'=(a.length - i).toNat) ?_ (n:=_) ⟨0,more,[],.ah,ny,ny,ny,ny,ny,mO,mO,mO,mO,mO,mO,mO,mO,rfl⟩;rintro m' ⟨t,H,k⟩ ⟨i,c,out,g,h0,h1,h2,h7,h8,cg,dH,eu,jT,gn,iL,lC,xd,hm⟩ next
  simp only at h0 h1 h2 h7 h8;refine nA (Kj h0 (Kj h1 (Kj h2 (Kj h7 (Kj h8 (Kj hv bW)))))) ?_;have aB4:=cg;open XS kU in exact bN
  done
 |fail):p:=h
end XU
theorem auI{v:PV}{a:List Int}(m more:Int)(h:jy v a)(ha:eb a)(hl:a.length<=1073741824)(M4:0<=m)(r7:m<4294967296)(cv:0<=more)(cy:more<4294967296):Pure ai X G 201 [v,.int .u64 m,.int .u64 more] (ez (vl a*m+more) (a.length+1)):=by
 have hv:=h.qe;have hd:=h.deep;have bW:=h.len;refine ay arD af ?_;refine nA (Kj hv (Kj hd bW)) ?_;open XU Cq in exact bp
end
end Go.Pi
end
section
open Go Go.Pi
namespace Go.Pi
variable{p q a:Prop}
set_option maxRecDepth 100000
set_option maxHeartbeats 0
section
variable{X:aS}{G:Nat->PV}
theorem XV{N:Int}{L:Nat}{v:PV}(m more:Int)(h:ez N L v)(hl:L<=1073741824)(M4:0<=m)(r7:m<4294967296)(cv:0<=more)(cy:more<4294967296):Pure ai X G 201 [v,.int .u64 m,.int .u64 more] (ez (N*m+more) (L+1)):=by
 obtain⟨a,h1,h2,h3,rfl,h5⟩:=h;obtain⟨r,c,hf,hr⟩:=auI (X:=X) (G:=G) m more h1 h2 ad M4 r7 cv cy;exact⟨r,c,hf,hr.mono ad⟩
namespace XW
theorem bx(x:a)(g:q)(h:a->q->p:=by(intro x g;exact nA (Kj x (Kj h0 (Kj h1 (Kj h2 (Kj h7 (Kj bP aI)))))) g)):p:=h x g
theorem gT(h:p:=by
 first
 |(refine next _ ?_ _ ⟨_,_,Fi,Fi,Fi,Fi,zL,zL,zL,rfl⟩;(first|exact wM|(have e:N*base ^ (0:Int).toNat=N:=af;rw[e];exact h.mono ad)|(have e:N*base ^ (i+1).toNat=N*base ^ i.toNat*base+0:=Re;rw[e];exact xi.mono ad)))
 |fail):p:=h
theorem gw(h:p:=by
 first
 |((have e:i.toNat=n.toNat:=ad;rw[e]at cg;exact cg))<;>exact bN
 |fail):p:=h
theorem cw(h:p:=by
 first
 |(refine aO (XV base 0 cg ad ad ad ad ad) pQ mM ?_;rintro gq xi;have bP:=xi.deep;refine bx bP ?_;exact bN)
 |fail):p:=h
end XW
namespace XX
theorem bj(h:p:=by
 first
 |skip
  refine b5 (fun m' s'=>∃(i:Int)(g:PV),s'.t 0=g/\s'.t 1= .int .i64 base/\s'.t 2= .int .i64 n/\s'.t 7= .int .i64 i/\(ez (N*base ^ i.toNat) (L+i.toNat) g)/\(0<=i)/\(i<=n)/\m'=(n - i).toNat) ?_ (n:=_) ⟨0,v,bV,bV,bV,bV,zL,zL,zL,rfl⟩;rintro m' ⟨t,H,k⟩ ⟨i,g,h0,h1,h2,h7,cg,dH,eu,hm⟩ next
  simp only at h0 h1 h2 h7;refine nA (Kj h0 (Kj h1 (Kj h2 h7))) ?_;have bP:=cg.deep;open XW in exact bN
  done
 |fail):p:=h
end XX
theorem sz{N:Int}{L:Nat}{v:PV}(base n:Int)(h:ez N L v)(hl:L<=1048576)(dX:0<=base)(dG:base<4294967296)(iv:0<=n)(gj:n<=1048576):Pure ai X G 183 [v,.int .i64 base,.int .i64 n] (ez (N*base ^ n.toNat) (L+n.toNat)):=by
 have hd:=h.deep;refine ay ark af ?_;refine nA hd ?_;open XX LA in exact bp
def auJ(N M:Int)(r:PV):Prop:=∃c,r= .int .i64 c/\(c=-1/\N<M\/c=0/\N=M\/c=1/\M<N)
theorem QH{a b:List Int}{k x y:Int}(hk:0<=k)(hx:a[k.toNat]?=some x)(hy:b[k.toNat]?=some y)(h:x=y)(hd:a.drop (k+1).toNat=b.drop (k+1).toNat):a.drop (k - 1+1).toNat=b.drop (k - 1+1).toNat:=by
 rw[show(k - 1+1).toNat=k.toNat by omega];rw[show(k+1).toNat=k.toNat+1 by omega]at hd;have ha:k.toNat<a.length:=by
  rcases Nat.lt_or_ge k.toNat a.length with h2|h2
  ·exact h2
  ·rw[List.getElem?_eq_none h2]at hx;cases hx
 have hb:k.toNat<b.length:=by
  rcases Nat.lt_or_ge k.toNat b.length with h2|h2
  ·exact h2
  ·rw[List.getElem?_eq_none h2]at hy;cases hy
 rw[List.drop_eq_getElem_cons ha,List.drop_eq_getElem_cons hb,hd];rw[List.getElem?_eq_getElem ha]at hx;rw[List.getElem?_eq_getElem hb]at hy;rw[Option.some.inj hx,Option.some.inj hy,h]
theorem XY{a b:List Int}{k x y:Int}(ha:eb a)(hb:eb b)(hk:0<=k)(hx:a[k.toNat]?=some x)(hy:b[k.toNat]?=some y)(hd:a.drop (k+1).toNat=b.drop (k+1).toNat)(h:x<y):vl a<vl b:=
 auD ha hb hx hy (by rw[show(k+1).toNat=k.toNat+1 by omega]at hd;exact hd) h
namespace XZ
theorem bx(x:a)(g:q)(h:a->q->p:=by(intro x g;exact nA (Kj x (Kj h0 (Kj h1 (Kj h5 (Kj hv (Kj bW (Kj gv (Kj jV aI)))))))) g)):p:=h x g
theorem gT(h:p:=by
 first
 |(refine next _ ?_ _ ⟨_,Ju,Ju,Ju,Fa,Fa,Fa,rfl⟩;(first|exact wM|(rw[List.drop_of_length_le ad,List.drop_of_length_le ad];done)|exact QH ad ax ax ax eu))
 |fail):p:=h
theorem gw(h:p:=by
 first
 |(exact⟨_,rfl,.inl ⟨rfl,XY mg yk ad ax ax eu ad⟩⟩)<;>exact bN
 |(exact⟨_,rfl,.inr (.inr ⟨rfl,XY yk mg ad ax ax eu.symm ad⟩)⟩)<;>exact bN
 |((have e:(k+1).toNat=0:=ad;rw[e]at eu;simp only[List.drop_zero]at eu;exact⟨_,rfl,.inr (.inl ⟨rfl,by rw[eu]⟩)⟩))<;>exact bN
 |fail):p:=h
theorem cw(h:p:=by
 first
 |((refine XM iR ax ad ?_;refine nA (Kj h0 (Kj h1 (Kj h5 (Kj hv (Kj bW (Kj gv jV)))))) ?_))<;>exact bN
 |((refine XM sC ax ad ?_;refine nA (Kj h0 (Kj h1 (Kj h5 (Kj hv (Kj bW (Kj gv jV)))))) ?_))<;>exact bN
 |((refine sy iR ad ad (fun x hx=>?_);refine nA (Kj h0 (Kj h1 (Kj h5 (Kj hv (Kj bW (Kj gv jV)))))) ?_))<;>exact bN
 |((refine sy sC ad ad (fun y hy=>?_);refine nA (Kj h0 (Kj h1 (Kj h5 (Kj hv (Kj bW (Kj gv jV)))))) ?_))<;>exact bN
 |fail):p:=h
end XZ
namespace X0
theorem cr(h:p:=by
 first
 |(exact⟨_,rfl,.inl ⟨rfl,Hp mg yk M5 ad⟩⟩)<;>exact bp
 |(exact⟨_,rfl,.inr (.inr ⟨rfl,Hp yk mg sD ad⟩)⟩)<;>exact bp
 |fail):p:=h
theorem bj(h:p:=by
 first
 |skip
  refine b5 (fun m' s'=>∃(k:Int),s'.t 0=v/\s'.t 1=u/\s'.t 5= .int .i64 k/\(-1<=k)/\(k<a.length)/\(a.drop (k+1).toNat=b.drop (k+1).toNat)/\m'=(k+1).toNat) ?_ (n:=_) ⟨_,vm,vm,vm,Fa,Fa,Fa,rfl⟩;rintro m' ⟨t,H,k⟩ ⟨k,h0,h1,h5,cg,dH,eu,hm⟩ next
  simp only at h0 h1 h5;refine nA (Kj h0 (Kj h1 (Kj h5 (Kj hv (Kj bW (Kj gv jV)))))) ?_;open XZ in exact bN
  done
 |fail):p:=h
end X0
theorem xG{N M:Int}{L L2:Nat}{v u:PV}(h:ez N L v)(g:ez M L2 u)(hl:L<=1099511627776)(aW:L2<=1099511627776):Pure ai X G 182 [v,u] (auJ N M):=by
 obtain⟨a,iR,mg,sD,rfl,uz⟩:=h;obtain⟨b,sC,yk,M5,rfl,X1⟩:=g;have hv:=iR.qe;have hd:=iR.deep;have bW:=iR.len;have gv:=sC.qe;have gd:=sC.deep;have jV:=sC.len;refine ay arj af ?_;refine nA (Kj hv (Kj hd (Kj bW (Kj gv (Kj gd jV))))) ?_;open X0 LB in exact bp
end
end Go.Pi
end
section
namespace Go.Pi
theorem auK{i j:Nat}(h:(2:Int) ^ i<2 ^ j):i<j:=by
 rcases Nat.lt_or_ge i j with h2|h2
 ·exact h2
 ·exfalso;obtain⟨c,rfl⟩:∃c,i=j+c:=⟨i - j,by omega⟩;rw[Int.pow_add]at h;have h1:(0:Int)<2 ^ j:=Int.pow_pos (by decide);have h3:(0:Int)<2 ^ c:=Int.pow_pos (by decide);have h4:(2:Int) ^ j*1<=2 ^ j*2 ^ c:=Int.mul_le_mul_of_nonneg_left (by omega) (by omega);omega
theorem vf{n x mh:Int}(hn:0<=n)(hx:0<x)(h1:2 ^ n.toNat*x<=mh)(h2:mh<2 ^ n.toNat*(x+1))(ht:mh<4294967296):
 2 ^ (n+1).toNat*(x / 2)<=mh/\mh<2 ^ (n+1).toNat*(x / 2+1)/\2 ^ (n+1 - 1).toNat<=mh/\n+1<=32:=by
 have e:(n+1).toNat=n.toNat+1:=by omega
 have e2:(n+1 - 1).toNat=n.toNat:=by omega
 have hp:(0:Int)<2 ^ n.toNat:=Int.pow_pos (by decide);have h3:(2:Int) ^ n.toNat*1<=2 ^ n.toNat*x:=Int.mul_le_mul_of_nonneg_left (by omega) (by omega);have h4:(2:Int) ^ n.toNat<2 ^ 32:=by
  have:(2:Int) ^ 32=4294967296:=by decide
  omega
 have h5:=auK h4;rw[e,e2,Int.pow_succ];have h6:(2:Int) ^ n.toNat*(2*(x / 2))<=2 ^ n.toNat*x:=Int.mul_le_mul_of_nonneg_left (by omega) (by omega);have h7:(2:Int) ^ n.toNat*(x+1)<=2 ^ n.toNat*(2*(x / 2+1)):=Int.mul_le_mul_of_nonneg_left (by omega) (by omega);have e3:(2:Int) ^ n.toNat*2*(x / 2)=2 ^ n.toNat*(2*(x / 2)):=by rw[Int.mul_assoc]
 have e4:(2:Int) ^ n.toNat*2*(x / 2+1)=2 ^ n.toNat*(2*(x / 2+1)):=by rw[Int.mul_assoc]
 rw[e3,e4];refine⟨by omega,by omega,by omega,by omega⟩
theorem X2(k:Nat):(4294967296:Int) ^ k=2 ^ (32*k):=by
 rw[Int.pow_mul];rfl
theorem auL{a:List Int}(ha:eb a){n mh:Int}(dW:a≠[])(Dj:a[((a.length:Int) - 1).toNat]?=some mh)(hn:1<=n)(h2:mh<2 ^ n.toNat)(h3:2 ^ (n - 1).toNat<=mh):
 vl a<2 ^ (32*((a.length:Int) - 1)+n).toNat/\2 ^ (32*((a.length:Int) - 1)+n - 1).toNat<=vl a:=by
 have hl:0<a.length:=List.length_pos_iff.2 dW;obtain⟨m,hm⟩:∃m,a.length=m+1:=⟨a.length - 1,by omega⟩;have e1:((a.length:Int) - 1).toNat=m:=by omega
 rw[e1]at Dj;have e2:=Aw Dj;rw[List.take_of_length_le (by omega)]at e2;have h4:=Dh (ha.take m);have h5:=Dg (ha.take m);have h6:(a.take m).length=m:=by rw[List.length_take];omega
 rw[h6]at h4;have e3:(32*((a.length:Int) - 1)+n).toNat=32*m+n.toNat:=by omega
 have e4:(32*((a.length:Int) - 1)+n - 1).toNat=32*m+(n - 1).toNat:=by omega
 rw[e2,e3,e4,Int.pow_add,Int.pow_add,<-X2];have hp:=Av m;have h7:(4294967296:Int) ^ m*(mh+1)<=4294967296 ^ m*2 ^ n.toNat:=Int.mul_le_mul_of_nonneg_left (by omega) (by omega);have h8:(4294967296:Int) ^ m*2 ^ (n - 1).toNat<=4294967296 ^ m*mh:=Int.mul_le_mul_of_nonneg_left (by omega) (by omega);rw[Int.mul_add,Int.mul_one]at h7;omega
theorem Qt{a out:List Int}{i x c:Int}{q r:Nat}(hx:a[i.toNat]?=some x)(hi:0<=i)(hl:out.length=q+i.toNat)(h:vl out+4294967296 ^ (q+i.toNat)*c=vl (a.take i.toNat)*2 ^ r*4294967296 ^ q):
 vl (out++[(x*2 ^ r+c) % 4294967296])+4294967296 ^ (q+(i+1).toNat)*((x*2 ^ r+c) / 4294967296)=vl (a.take (i+1).toNat)*2 ^ r*4294967296 ^ q:=by
 have e:(i+1).toNat=i.toNat+1:=by omega
 rw[yh,hl,e,Aw hx,<-Nat.add_assoc,Int.pow_succ,Int.pow_add]at*;have h2:=Int.mul_ediv_add_emod (x*2 ^ r+c) 4294967296;generalize (x*2 ^ r+c) % 4294967296=y at*;generalize (x*2 ^ r+c) / 4294967296=z at*;generalize (4294967296:Int) ^ i.toNat=p at*;generalize (4294967296:Int) ^ q=p2 at*;generalize (2:Int) ^ r=p3 at*
 grind
theorem auM{x c:Int}{r:Nat}(h0:0<=x)(h1:x<4294967296)(cv:0<=c)(cy:c<2 ^ r)(hr:r<32):0<=x*2 ^ r/\x*2 ^ r+c<18446744073709551616/\0<=(x*2 ^ r+c) / 4294967296/\(x*2 ^ r+c) / 4294967296<2 ^ r:=by
 have hp:(0:Int)<2 ^ r:=Int.pow_pos (by decide);have h3:0<=x*2 ^ r:=Int.mul_nonneg h0 (by omega);have h4:x*2 ^ r<=4294967295*2 ^ r:=Int.mul_le_mul_of_nonneg_right (by omega) (by omega);have h5:(2:Int) ^ r<=2 ^ 31:=by
  obtain⟨k,hk⟩:∃k,31=r+k:=⟨31 - r,by omega⟩;rw[hk,Int.pow_add];have h6:(0:Int)<2 ^ k:=Int.pow_pos (by decide);have h7:(2:Int) ^ r*1<=2 ^ r*2 ^ k:=Int.mul_le_mul_of_nonneg_left (by omega) (by omega);omega
 have h8:(2:Int) ^ 31=2147483648:=by decide
 generalize (2:Int) ^ r=p at*;refine⟨h3,by omega,by omega,?_⟩;have:x*p+c<4294967296*p:=by omega
 omega
theorem auN{n:Int}(h:0<=n)(N:Int):N*2 ^ (n % 32).toNat*4294967296 ^ (n / 32).toNat=N*2 ^ n.toNat:=by
 rw[X2,Int.mul_assoc,<-Int.pow_add];congr 2;omega
theorem X4(q:Nat):(fY (List.replicate q 0)).flatten=(List.replicate q [PV.int .u64 0]).flatten:=by
 simp[fY]
theorem aX.rR{H:al}{id st q:Nat}{A:List Nat}(hA:id∈A)(hH:H id=some ⟨28,st,(List.replicate q [PV.int .u64 0]).flatten,1⟩):aX A H 28 1 (.row id st q) (fY (List.replicate q 0)):=
 ⟨fun y hy=>by
  simp only[fY,List.map_replicate,List.mem_replicate]at hy;obtain⟨_,rfl⟩:=hy;exact⟨rfl,rfl⟩,.inr ⟨id,st,hA,by simp[fY],by rw[X4];exact hH⟩⟩
theorem eb.rR(q:Nat):eb (List.replicate q 0):=fun x hx=>by
 simp only[List.mem_replicate]at hx;omega
theorem E8{a b out:List Int}{i x y c c' d:Int}(hx:a[i.toNat]?=some x)(hy:vl (b.take (i+1).toNat)=vl (b.take i.toNat)+4294967296 ^ i.toNat*y)(hi:0<=i)(hl:out.length=i.toNat)
 (h:vl out=vl (a.take i.toNat) - vl (b.take i.toNat)+c*4294967296 ^ i.toNat)(hd:d=x - (c+y)+c'*4294967296):
 vl (out++[d])=vl (a.take (i+1).toNat) - vl (b.take (i+1).toNat)+c'*4294967296 ^ (i+1).toNat:=by
 have e:(i+1).toNat=i.toNat+1:=by omega
 rw[hy,yh,hl,e,Aw hx,Int.pow_succ,hd,h];generalize (4294967296:Int) ^ i.toNat=p at*
 grind
theorem Qw{b:List Int}{i y:Int}(hi:0<=i)(hy:b[i.toNat]?=some y):vl (b.take (i+1).toNat)=vl (b.take i.toNat)+4294967296 ^ i.toNat*y:=by
 rw[show(i+1).toNat=i.toNat+1 by omega,Aw hy]
theorem Qx{b:List Int}{i:Int}(hi:(b.length:Int)<=i):vl (b.take (i+1).toNat)=vl (b.take i.toNat)+4294967296 ^ i.toNat*0:=by
 rw[List.take_of_length_le (by omega),List.take_of_length_le (by omega)];omega
theorem auO{a b out:List Int}{c:Int}(ha:eb a)(hb:eb b)(ht:rZ b)(aV:vl b<=vl a)(ho:eb out)(hl:out.length=a.length)(hc:c=0\/c=1)(h:vl out=vl a - vl (b.take a.length)+c*4294967296 ^ a.length):vl out=vl a - vl b:=by
 have bW:b.length<=a.length:=by
  rcases Nat.lt_or_ge a.length b.length with h2|h2
  ·have:=Hp ha hb ht h2;omega
  ·exact h2
 rw[List.take_of_length_le bW]at h;have h3:=Dh ho;rw[hl]at h3;rcases hc with rfl|rfl
 ·omega
 ·omega
theorem X5{N M A q p:Int}(h:N=q*p*M+A)(hA:0<=A)(hM:0<M)(hp:0<p)(hq:0<=q):q<=N / M:=by
 rw[Int.le_ediv_iff_mul_le hM];have h1:q*M*1<=q*M*p:=Int.mul_le_mul_of_nonneg_left (by omega) (Int.mul_nonneg hq (Int.le_of_lt hM));have h2:q*p*M=q*M*p:=by grind
 omega
theorem M6{N M A q n:Int}(hn:0<=n)(h:N=q*2 ^ (n+1).toNat*M+A):N=q*2*2 ^ n.toNat*M+A:=by
 rw[h,show(n+1).toNat=n.toNat+1 by omega,Int.pow_succ];grind
theorem Jo{N M A q n:Int}(hn:0<=n)(h:N=q*2 ^ (n+1).toNat*M+A):N=(q*2+1)*2 ^ (n - 1+1).toNat*M+(A - M*2 ^ n.toNat):=by
 rw[M6 hn h,show(n - 1+1).toNat=n.toNat by omega];grind
theorem Qz{N M A q n:Int}(hn:0<=n)(h:N=q*2 ^ (n+1).toNat*M+A):N=q*2*2 ^ (n - 1+1).toNat*M+A:=by
 rw[M6 hn h,show(n - 1+1).toNat=n.toNat by omega]
theorem QA{M A n:Int}(hn:0<=n)(h:A<2 ^ (n+1).toNat*M):A - M*2 ^ n.toNat<2 ^ (n - 1+1).toNat*M:=by
 rw[show(n+1).toNat=n.toNat+1 by omega,Int.pow_succ]at h;rw[show(n - 1+1).toNat=n.toNat by omega];have e:(2:Int) ^ n.toNat*2*M=2*(2 ^ n.toNat*M):=by grind
 have e2:M*2 ^ n.toNat=2 ^ n.toNat*M:=Int.mul_comm _ _;omega
theorem QB{M A n:Int}(hn:0<=n)(h:A<M*2 ^ n.toNat):A<2 ^ (n - 1+1).toNat*M:=by
 rw[show(n - 1+1).toNat=n.toNat by omega,Int.mul_comm];exact h
theorem Qy{N M n m:Int}(tG:0<=N)(hM:0<M)(hn:0<=n)(h1:N<2 ^ n.toNat)(hm:1<=m)(h2:2 ^ (m - 1).toNat<=M):N<2 ^ (n - m+1).toNat*M:=by
 rcases Int.lt_or_le (n - m+1) 0 with h|h
 ·rw[show(n - m+1).toNat=0 by omega];obtain⟨k,hk⟩:∃k,(m - 1).toNat=n.toNat+k:=⟨(m - 1).toNat - n.toNat,by omega⟩;rw[hk,Int.pow_add]at h2;have h6:(0:Int)<2 ^ k:=Int.pow_pos (by decide);have h7:(2:Int) ^ n.toNat*1<=2 ^ n.toNat*2 ^ k:=Int.mul_le_mul_of_nonneg_left (by omega) (Int.le_of_lt (Int.pow_pos (by decide)));omega
 ·have e:n.toNat=(n - m+1).toNat+(m - 1).toNat:=by omega
  rw[e,Int.pow_add]at h1;have h7:(2:Int) ^ (n - m+1).toNat*2 ^ (m - 1).toNat<=2 ^ (n - m+1).toNat*M:=Int.mul_le_mul_of_nonneg_left h2 (Int.le_of_lt (Int.pow_pos (by decide)));omega
theorem auP{N M A q n:Int}(hn:¬n≥0)(h:N=q*2 ^ (n+1).toNat*M+A)(h0:0<=A)(h1:A<2 ^ (n+1).toNat*M):q=N / M/\A=N % M:=by
 rw[show(n+1).toNat=0 by omega]at h h1;have hM:0<M:=by omega
 have e:N=A+M*q:=by rw[h];grind
 have h2:A<M:=by omega
 constructor
 ·rw[e,Int.add_mul_ediv_left _ _ (by omega),Int.ediv_eq_zero_of_lt h0 h2];omega
 ·rw[e,Int.add_mul_emod_self_left,Int.emod_eq_of_lt h0 h2]
end Go.Pi
end
