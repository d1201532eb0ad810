import Derived.Test.YtofdfffpmbgogaaGreatDoorP09
import Derived.Test.YtofdfffpmbgogaaGreatDoorP10
import Derived.Test.YtofdfffpmbgogaaGreatDoorP11
import Derived.Test.YtofdfffpmbgogaaGreatDoorP12
import Derived.Test.YtofdfffpmbgogaaGreatDoorP13
import Derived.Test.YtofdfffpmbgogaaGreatDoorP18
import Derived.Test.YtofdfffpmbgogaaGreatDoorP19
import Derived.Test.YtofdfffpmbgogaaGreatDoorP26
/- Part of the proof. -/
set_option linter.all false
section
namespace Go.Pi
section
variable{T:Nat->Option FX}{X:aS}{G:Nat->PV}{Q:Ex->St->Prop}{w:List Wk}
theorem GV{A:List Nat}{i len id n e e2 s b rid st:Nat}{tr:er}{d:Option Nat}{os:List XO}{t:Nat->PV}{H:al}{y x:bK}{ys:List (List PV)}{c:List PV}
 (hx:ev G t x= .row rid st 1)(hr:H rid=some ⟨e2,st,c,s⟩)(hc:c.length=s)(jk:aP c=true)(hg:aX A H e s (ev G t y) ys)(kn:id∈A)(Mm:rid∉A)(hB:(ys.length+1)*b<=140737488355328)
 (h:∀v H' fb,aX A H' e s v (ys++[c])->(∀c,c∉A->c≠rid->H' c=H c)->(tr=none->fb=none)->M T X G (.ops (i+1) os len fb::w) ⟨put t d v,H',n⟩ Q):M T X G (.ops i (⟨d,none,id,.app e s b y x⟩::os) len tr::w) ⟨t,H,n⟩ Q:=
 PH (A:=A) (ys:=ys) (zs:=[c]) (ids:=[rid]) (by rw[hx];exact agS hr hc jk) hg kn (by simpa using Mm) (by intro z hz;simp at hz;subst hz;exact⟨hc,jk⟩) (by simp) (by simpa using hB)
  fun v H' fb h1 h2 h3=>h v H' fb h1 (fun c hc zu=>h2 c hc (by simpa using zu)) h3
theorem ajN{i len kG n b g l d d2 e s0:Nat}{m:Int}{tr:er}{os:List XO}{t:Nat->PV}{H:al}{cells:List PV}(hH:H b=some ⟨e,g,cells,s0⟩)(h0:0<=m)(cE:m<l)(hl:l<=cells.length)
 (hc:cells.all (fun c=>match c with| .str _=>true|_=>false)=true)
 (k:∀p s,M T X G (.ops (i+1) os len (push tr ([b],[]))::w) ⟨put (put t (some d) p) (some d2) (.str s),H,n⟩ Q):
 eD T X G 1 (.row b g l) (.int .i64 m) (some d) i (⟨some d2,none,kG,.ld false 1 (.t d)⟩::os) len tr w t H n Q:=by
 refine wX h0 cE ?_;rw[I0];obtain⟨p,rfl⟩:=Int.eq_ofNat_of_zero_le h0;have hp:p<cells.length:=by omega
 have hs:∃s,cells[p]= .str s:=by
  have:=List.all_eq_true.1 hc _ (List.getElem_mem hp);revert this;cases cells[p]<;>simp
 obtain⟨s,hs⟩:=hs;have e1:runK (ev G (put t (some d) (.ptr b g ((p:Int).toNat*1)))) H kG (n+i) (.ld false 1 (.t d))=some (.str s,H):=by
  simp only[runK,cx,ev,fT,Int.toNat_natCast,Nat.mul_one,kN,hH];rw[if_pos ⟨trivial,by omega⟩];have:(cells.drop p).take 1=[.str s]:=by
   rw[List.drop_eq_getElem_cons hp,hs];rfl
  simp only[this,Bool.false_eq_true,if_false,Option.map_some,al.fK]
 rw[e1,kp];have e2:bU (ev G (put t (some d) (.ptr b g ((p:Int).toNat*1)))) H kG (.ld false 1 (.t d))=([b],[]):=by simp only[bU,ev,fT]
 rw[e2];exact k _ _
theorem aX.arR{A:List Nat}{H:al}{e s:Nat}{v:PV}{ys:List (List PV)}(h:aX A H e s v ys):∃y ids,(∀n,Go.Pi.settle (n+1) H v=some (y,ids))/\(∀b,b∈ids->b∈A)/\((ys=[]/\y= .ah)\/y= .sl ys)/\aw y=true:=by
 rcases h.2 with⟨rfl,rfl⟩|⟨id,st,hA,rfl,hH⟩
 ·exact⟨.ah,[],fun n=>aH rfl,fun b hb=>(by cases hb),.inl ⟨rfl,rfl⟩,rfl⟩
 ·have hl:=wV (fun y hy=>(h.1 y hy).1);have e1:ys.flatten.take (ys.length*s)=ys.flatten:=List.take_of_length_le (by omega);refine⟨.sl ys,[id],fun n=>?_,fun b hb=>?_,.inr rfl,?_⟩
  ·rw[P4 hH rfl (by show ys.length*s<=ys.flatten.length;omega) (by rw[e1];exact I3 fun y hy=>(h.1 y hy).2)];show some (PV.sl (group s ys.length (ys.flatten.take (ys.length*s))),[id])=_;rw[e1,I2 s ys fun y hy=>(h.1 y hy).1]
  ·simp only[List.mem_singleton]at hb;subst hb;exact hA
  ·simp only[aw];exact qo fun y hy=>(h.1 y hy).2
def gv(v:PV)(ys:List (List PV)):PV:=match v with| .ah=> .ah|_=> .sl ys
def gi:PV->List Nat
 | .row b _ _=>[b]
 |_=>[]
theorem aX.dF{A:List Nat}{H:al}{e s n:Nat}{v:PV}{ys:List (List PV)}(h:aX A H e s v ys):Go.Pi.settle (n+1) H v=some (gv v ys,gi v):=by
 obtain⟨y,ids,h1,h2,h3,h4⟩:=h.arR;rcases h.2 with⟨rfl,rfl⟩|⟨id,st,hA,rfl,hH⟩
 ·exact aH rfl
 ·have hl:=wV (fun y hy=>(h.1 y hy).1);have e1:ys.flatten.take (ys.length*s)=ys.flatten:=List.take_of_length_le (by omega);rw[P4 hH rfl (by show ys.length*s<=ys.flatten.length;omega) (by rw[e1];exact I3 fun y hy=>(h.1 y hy).2)];show some (PV.sl (group s ys.length (ys.flatten.take (ys.length*s))),[id])=_;rw[e1,I2 s ys fun y hy=>(h.1 y hy).1];rfl
theorem aX.gv{A:List Nat}{H:al}{e s:Nat}{v:PV}{ys:List (List PV)}(h:aX A H e s v ys):mA (gv v ys)/\aw (gv v ys)=true/\ae (gv v ys)=ys/\∀b,b∈gi v->b∈A:=by
 rcases h.2 with⟨rfl,rfl⟩|⟨id,st,hA,rfl,hH⟩
 ·exact⟨.inl rfl,rfl,rfl,fun b hb=>by cases hb⟩
 ·exact⟨.inr ⟨_,rfl⟩,by simp only[Go.Pi.gv,aw];exact qo fun y hy=>(h.1 y hy).2,rfl,fun b hb=>by simp only[gi,List.mem_singleton]at hb;rw[hb];exact hA⟩
theorem aX.xn{A:List Nat}{H:al}{e s id st:Nat}{c:List PV}(hA:id∈A)(hH:H id=some ⟨e,st,c,s⟩)(hc:c.length=s)(hd:aP c=true):aX A H e s (.row id st 1) [c]:=
 ⟨fun y hy=>by simp at hy;subst hy;exact⟨hc,hd⟩,.inr ⟨id,st,hA,rfl,by simp[hH]⟩⟩
theorem oz{A:List Nat}{i len id n e s b:Nat}{tr:er}{d:Option Nat}{os:List XO}{t:Nat->PV}{H:al}{y x:bK}{ys:List (List PV)}{r:PV}
 (hx:ev G t x=r)(hS:mA r)(hd:aw r=true)(hr:∀c,c∈ae r->c.length=s)(hg:aX A H e s (ev G t y) ys)(kn:id∈A)(hB:(ys.length+(ae r).length)*b<=140737488355328)
 (h:∀v H' fb,aX A H' e s v (ys++ae r)->(∀c,c∉A->H' c=H c)->(tr=none->fb=none)->(∀f ps,tr=some (f,ps)->∃z,fb=some (f++[([],z)],ps)/\∀c,c∈z->c∈A)->M T X G (.ops (i+1) os len fb::w) ⟨put t d v,H',n⟩ Q):M T X G (.ops i (⟨d,none,id,.app e s b y x⟩::os) len tr::w) ⟨t,H,n⟩ Q:=by
 have eC:Go.Pi.settle depth H (ev G t x)=some (r,[]):=by rw[hx];exact aH hd
 have hz:∀f ps,tr=some (f,ps)->∃z,push tr (bU (ev G t) H id (.app e s b y x))=some (f++[([],z)],ps)/\∀c,c∈z->c∈A:=by
  intro f ps fq;subst fq;rcases hg.2 with⟨_,hv⟩|⟨b',st,hA,hv,_⟩
  ·exact⟨[id],by simp only[push,bU,eC,hv];rfl,fun c hc=>by simp at hc;rw[hc];exact kn⟩
  ·exact⟨[b'],by simp only[push,bU,eC,hv];rfl,fun c hc=>by simp at hc;rw[hc];exact hA⟩
 have hn:tr=none->push tr (bU (ev G t) H id (.app e s b y x))=none:=fun fq=>by subst fq;rfl
 rw[EB];simp only[runK,eC,oZ];by_cases h0:ae r=[]
 ·have ji:gE H s r=some (0,[]):=by
   rcases hS with rfl|⟨xs,rfl⟩
   ·rfl
   ·simp only[ae]at h0;subst h0;rfl
  have ha:iU H id (n+i) e s b (ev G t y) r=some (ev G t y,none):=by
   simp only[iU,ji,if_true];rcases hg.2 with⟨_,hv⟩|⟨b',st,hA,hv,hH⟩
   ·rw[hv]
   ·rw[hv];simp only[hH,if_true]
  simp only[ha,Option.map_some,kp,al.fK];exact h _ _ _ (by rw[h0,List.append_nil];exact hg) (fun _ _=>rfl) hn hz
 ·obtain⟨xs,rfl⟩:∃xs,r= .sl xs:=by
   rcases hS with rfl|h'
   ·exact absurd rfl h0
   ·exact h'
  simp only[ae]at h0 hr hB h;have ji:gE H s (.sl xs)=some (xs.length,xs.flatten):=by
   simp only[gE];rw[if_pos];simp only[List.all_eq_true,beq_iff_eq];exact hr
  have iv:xs.length≠0:=fun h=>h0 (List.length_eq_zero_iff.1 h)
  simp only[aw]at hd;have lg:∀y,y∈ys++xs->y.length=s/\aP y=true:=by
   intro y hy;rcases List.mem_append.1 hy with hy|hy
   ·exact hg.1 y hy
   ·exact⟨hr y hy,zg hd y hy⟩
  rcases hg.2 with⟨rfl,hv⟩|⟨c,st,hA,hv,hH⟩
  ·have ha:iU H id (n+i) e s b (ev G t y) (.sl xs)=some (.row id (n+i) xs.length,some (id,⟨e,n+i,xs.flatten,s⟩)):=by
    simp only[iU,ji,if_neg iv,hv];rw[if_pos (by simpa using hB)]
   simp only[ha,Option.map_some,kp];refine h _ _ _ ⟨lg,.inr ⟨id,n+i,kn,by simp,by simp[al.fK,al.fT]⟩⟩ (fun c hc=>?_) hn hz;simp only[al.fK];rw[al.gh _ _ (fun e=>hc (by rw[e];exact kn))]
  ·have hl:=wV (fun y hy=>(hg.1 y hy).1);have e1:ys.flatten.take (ys.length*s)=ys.flatten:=List.take_of_length_le (by omega);have ha:iU H id (n+i) e s b (ev G t y) (.sl xs)=some (.row c (n+i) (ys.length+xs.length),some (c,⟨e,n+i,ys.flatten++xs.flatten,s⟩)):=by
    simp only[iU,ji,if_neg iv,hv,hH,e1];rw[if_pos (by refine⟨?_,?_,?_,?_⟩<;>first|trivial|omega)]
   simp only[ha,Option.map_some,kp];refine h _ _ _ ⟨lg,.inr ⟨c,n+i,hA,by simp,by simp[al.fK,al.fT]⟩⟩ (fun c' hc=>?_) hn hz;simp only[al.fK];rw[al.gh _ _ (fun e=>hc (by rw[e];exact hA))]
def C2(lo:Nat)(g t:Nat->PV):Nat->PV:=fun i=>if i<lo then t i else g i
theorem TK{lo i:Nat}{g t:Nat->PV}(hl:i<lo):C2 lo g t i=t i:=if_pos hl
theorem TM{lo:Nat}{t t':Nat->PV}(h:∀i,i<lo->t' i=t i):t'=C2 lo t' t:=by
 funext i;by_cases hi:i<lo
 ·rw[TK hi,h i hi]
 ·simp only[C2,if_neg hi]
theorem arS{F:Prop}{ops:List XO}{c2:XC}{n e st:Nat}{t:Nat->PV}{H:al}(lo id:Nat){b0:Bool}(kn:id≠0)(h1:zt ops=some lo)(h0:H 0=some ⟨e,0,[.bool b0],0⟩)(bG:(H id).map (·.gen)=some st)(hF:b0=true->F)
 (h:∀R t0 H0,(∀i,t0 i=t i)->(∀i,H0 i=H i)->(∀t' H' n' nc b1,(∀i,i<lo->t' i=t0 i)->H' id=some ⟨30,st,nc,0⟩->H' 0=some ⟨e,0,[.bool b1],0⟩->(∀x,x≠id->x≠0->H' x=H0 x)->Nd nc->(b1=true->F)->M T X G R ⟨t',H',n'⟩ Q)->M T X G (.code (.ng ops):: .code c2::R) ⟨t0,H0,n⟩ Q)
 (hk:∀g n' nc b1,Nd nc->(b1=true->F)->M T X G w ⟨C2 lo g t,(H.put id (some ⟨30,st,nc,0⟩)).put 0 (some ⟨e,0,[.bool b1],0⟩),n'⟩ Q):M T X G (.code (.ng ops):: .code c2::w) ⟨t,H,n⟩ Q:=
 h w t H (fun _=>rfl) (fun _=>rfl) fun t' H' n' nc b1 hl Mn Mo Mp hN hF=>by
  have e1:H'=(H.put id (some ⟨30,st,nc,0⟩)).put 0 (some ⟨e,0,[.bool b1],0⟩):=by
   funext x;by_cases hx:x=0
   ·subst hx;rw[al.fT];exact Mo
   ·rw[al.gh _ _ hx];by_cases me:x=id
    ·subst me;rw[al.fT];exact Mn
    ·rw[al.gh _ _ me];exact Mp x me hx
  rw[e1,TM hl];exact hk _ _ _ _ hN hF
theorem Mq{ops:List XO}{c2:XC}{n:Nat}{t:Nat->PV}{H:al}(lo b:Nat)(h1:zt ops=some lo)
 (h:∀R t0 H0,(∀i,t0 i=t i)->(∀i,H0 i=H i)->(∀t' n' z,lO lo b t0 t'->t' b= .int .u64 z->M T X G R ⟨t',H0,n'⟩ Q)->M T X G (.code (.ng ops):: .code c2::R) ⟨t0,H0,n⟩ Q)
 (hk:∀z g n',M T X G w ⟨forget lo b (.int .u64 z) g t,H,n'⟩ Q):M T X G (.code (.ng ops):: .code c2::w) ⟨t,H,n⟩ Q:=
 h w t H (fun _=>rfl) (fun _=>rfl) fun t' n' z hl hb=>by rw[BA hl hb];exact hk _ _ _
end
attribute [go_sem] TK
end Go.Pi
end
section
namespace Go.Pi
mutual
inductive Bn:List PV->List Int->Prop
 |sq (aA:Int) (cj:PV) (rest:Bool):Bn [.int .i64 0,.int .i64 aA,cj,.bool rest] []
 |name (aA:Int) (cj:PV) (rest:Bool):Bn [.int .i64 1,.int .i64 aA,cj,.bool rest] [aA]
 |parts (kind aA:Int) (cj:PV) (rest:Bool) (l:List Int) (hk:kind=2\/kind=3) (h:uh (ae cj) l):Bn [.int .i64 kind,.int .i64 aA,cj,.bool rest] l
inductive uh:List (List PV)->List Int->Prop
 |nil:uh [] []
 |cons (flags:Int) (key dC b0 b1 b2 b3:PV) (xs:List (List PV)) (l ls:List Int) (h:Bn [b0,b1,b2,b3] l) (hs:uh xs ls):uh ([.int .i64 flags,key,dC,b0,b1,b2,b3]::xs) (l++ls)
end
theorem uh.snoc{xs:List (List PV)}{l l2:List Int}{flags:Int}{key dC b0 b1 b2 b3:PV}(hb:Bn [b0,b1,b2,b3] l2):uh xs l->uh (xs++[[.int .i64 flags,key,dC,b0,b1,b2,b3]]) (l++l2):=by
 induction xs generalizing l with
 |nil=>intro h;cases h;have:=uh.cons flags key dC b0 b1 b2 b3 [] l2 [] hb .nil;simpa using this
 |cons x xs ih=>
  intro h;cases h with
  |cons f k d c0 c1 c2 c3 _ l ls h hs=>rw[List.cons_append,List.append_assoc];exact .cons _ _ _ _ _ _ _ _ _ _ h (ih hs)
mutual
inductive NB:List PV->List ByteArray->Prop
 |name (text more:ByteArray) (num at_:Int) (kids:PV):NB [.int .i64 101,.str text,.str more,.int .u64 num,kids,.int .i64 at_] [text]
 |none (text more:ByteArray) (num at_:Int) (kids:PV):NB [.int .i64 0,.str text,.str more,.int .u64 num,kids,.int .i64 at_] []
 |parts (k:Int) (text more:ByteArray) (num at_:Int) (kids:PV) (l:List ByteArray) (hk:k=70\/k=71\/k=12) (h:sr (ae kids) l):NB [.int .i64 k,.str text,.str more,.int .u64 num,kids,.int .i64 at_] l
 |first(k:Int) (text more:ByteArray) (num at_:Int) (kids:PV) (c:List PV) (cs:List (List PV)) (l:List ByteArray) (hk:k=14\/k=42\/k=73) (he:ae kids=c::cs) (h:NB c l):NB [.int .i64 k,.str text,.str more,.int .u64 num,kids,.int .i64 at_] l
 |second (text more:ByteArray) (num at_:Int) (kids:PV) (c0 c:List PV) (cs:List (List PV)) (l:List ByteArray) (he:ae kids=c0::c::cs) (h:NB c l):NB [.int .i64 72,.str text,.str more,.int .u64 num,kids,.int .i64 at_] l
inductive sr:List (List PV)->List ByteArray->Prop
 |nil:sr [] []
 |cons (c:List PV) (cs:List (List PV)) (l ls:List ByteArray) (h:NB c l) (hs:sr cs ls):sr (c::cs) (l++ls)
end
theorem sr.snoc{cs:List (List PV)}{c:List PV}{l l2:List ByteArray}(hb:NB c l2):sr cs l->sr (cs++[c]) (l++l2):=by
 induction cs generalizing l with
 |nil=>intro h;cases h;have:=sr.cons c [] l2 [] hb .nil;simpa using this
 |cons x xs ih=>
  intro h;cases h with
  |cons _ _ l ls h hs=>rw[List.cons_append,List.append_assoc];exact .cons _ _ _ _ h (ih hs)
def mW(F:Int->ByteArray)(b:List PV)(c:List PV):Prop:=∃l:List Int,Bn b l/\(∀n,n∈l->0<=n/\n<1000)/\NB c (l.map fun n=>bs [118]++F n)
def mB(F:Int->ByteArray)(b:List PV)(f:Bool)(r:PV):Prop:=∃c,r= .agg c/\Nd c/\(f=true->mW F b c)
end Go.Pi
end
section
open Go Go.Pi
namespace Go.Pi.R
variable{p q a:Prop}
set_option maxRecDepth 100000
set_option maxHeartbeats 0
section
variable{X:aS}{G:Nat->PV}
structure iS(X:aS)(G:Nat->PV)(m:Nat):Prop where
 e:∀{y},EZ m y->Mt ai X G 24 [.agg y] (fun _=>da)
 s:∀{y},SZ m y->Mt ai X G 26 [.agg y] (fun _=>da)
 b:∀{y},BZ m y->Mt ai X G 103 [.agg y] (fun _=>da)
theorem RM(b:Bool):Mt ai X G 47 [.bool b] (fun f r=>r= .bool f/\(f=true->b=true)):=by
 intro e aZ;refine ay Tr af ?_;cases aZ
 ·refine P9 ?_;exact⟨_,rfl,af,rfl,af⟩
 ·refine P9 ?_;exact⟨_,rfl,af,rfl,af⟩
theorem Lj{c:List PV}(hc:Nd c):Pure ai X G 91 [.agg c] da:=by
 obtain⟨nk,nt,nm,nn,gJ,na,rfl,hN⟩:=hc.open;have hd:=hN.2.1;refine ay T91 af ?_;refine EL hd ?_;simp[jz,mz,wW,ma,kQ,hN,hc]
namespace YY
theorem bw(h:p:=by
 first
 |(refine xT (k:=129) ‹_› ad ad (fun y hy b6 hg=>?_);obtain⟨nk,nt,nm,nn,gJ,na,rfl,hN⟩:=hy.open;refine cA ?_)<;>exact az
 |fail):p:=h
end YY
theorem RT{c:List PV}(hc:Nd c):Pure ai X G 92 [.agg c] (fun r=>∃b,r= .bool b):=by
 obtain⟨nk,nt,nm,nn,gJ,na,rfl,hN⟩:=hc.open;have hd:=hN.2.1;have hs:=hN.1;have hi:=hN.2.2.2.2;refine ay T92 af ?_;refine cA ?_;open YY Gp in exact az
theorem RQ{m:Nat}{x:List PV}(hx:aR x)(hm:SizeOf.sizeOf x<=m):Pure ai X G 90 [.agg x] (fun r=>∃b,r= .bool b):=by
 obtain⟨kind,op,aA,chain,flags,nn,str,text,kids,bf,parts,aC,aG,rfl,hn,ao,ht,aq,aE,aD,av,au⟩:=hx.open (hm);refine ay T90 af ?_;refine cA ?_;open Gp in exact az
theorem r62{m:Nat}{x:List PV}(hx:aR x)(hm:SizeOf.sizeOf x<=m):Pure ai X G 94 [.agg x] (fun r=>∃b,r= .bool b):=by
 obtain⟨kind,op,aA,chain,flags,nn,str,text,kids,bf,parts,aC,aG,rfl,hn,ao,ht,aq,aE,aD,av,au⟩:=hx.open (hm);refine ay T94 af ?_;refine cA ?_;open Gp in exact az
theorem r50(n:Nat):Pure ai X G 83 [.bR .f64 n] (fun r=>∃b,r= .bool b):=by
 refine ay T83 af ?_;refine P9 ?_;exact⟨_,rfl⟩
theorem r79(n:Nat):Pure ai X G 129 [.bR .f64 n] (fun r=>r= .int .u64 n):=by
 refine ay aph af ?_;exact nB
theorem RN{m:Nat}{v:PV}(ih:iS X G m)(lv:aB (EZ m) v):Mt ai X G 41 [v] (fun _=>pf (ae v).length):=by
 intro e aZ;have hF:aZ=true->aZ=true:=id;refine ay T41 af ?_;have hv:=lv.1;have hB:=lv.1.len;refine EL hv ?_;refine b5 (fun n s=>∃(i:Nat)(b:Bool)(ys:List (List PV)),i+n=(ae v).length/\s.t 0= .ptr 0 0 0/\s.t 8=v/\s.t 9= .int .i64 (ae v).length/\s.t 10= .int .i64 i/\s.H 0=some ⟨e,0,[.bool b],0⟩/\(b=true->aZ=true)/\
  (∀y,y∈ys->Nd y)/\ys.length=i/\aX [5006] s.H 30 6 (s.t 5) ys) ?_ (n:=(ae v).length) ⟨0,aZ,[],af,nB,nB,nB,nB,nB,id,af,rfl,aiL⟩
 rintro n ⟨t,H,k⟩ ⟨i,b,ys,hi,h0,h8,h9,dN,e0,hF,dY,eY,lL⟩ next
 simp only at h0 h8 h9 dN e0 lL;refine EL (Kj h0 (Kj h8 (Kj h9 dN))) ?_;refine mw (fun hp hb=>?_) (fun hp hb=>?_)
 ·refine EL (Kj h0 (Kj h8 (Kj h9 dN))) ?_;refine cO (P:=EZ m) EZ.len lv ad hp (fun y hy b6 hg=>?_);have hM:=ih.e hy;obtain⟨kind,op,aA,chain,flags,nn,str,text,kids,bf,parts,aC,aG,rfl,hn,ao,ht,aq,aE,aD,av,au⟩:=hy.1.open (hy.le);refine EL (Kj h0 (Kj h8 (Kj h9 (Kj dN (Kj e0 (Kj ao.1 (Kj ao.2.1 (Kj aq.1 (Kj aq.2.1 (Kj aE.1 (Kj aE.2.1 (Kj aD.1 (Kj aD.2.1 (Kj av.1 (Kj av.2.1 (Kj au.1 au.2.1)))))))))))))))) ?_;refine dw (e:=e) (b0:=b) hM (sA e0) (sA (Kj ao.1 (Kj ao.2.1 (Kj aq.1 (Kj aq.2.1 (Kj aE.1 (Kj aE.2.1 (Kj aD.1 (Kj aD.2.1 (Kj av.1 (Kj av.2.1 (Kj au.1 au.2.1)))))))))))) hF ?_;rintro r b1 ⟨c,rfl,hc⟩ lR hF;obtain⟨nk,nt,nm,nn,gJ,na,rfl,hN⟩:=hc.open;have dR:=hN.2.1;refine EL (Kj h0 (Kj h8 (Kj h9 (Kj dN dR)))) ?_;refine GV (A:=[5006]) (ys:=ys) (nB) (nB) hc.len hc.deep ?_ af af ad ?_
  ·refine P9 ?_;exact lL.frame (fun b hb=>FD)
  ·intro v' H2 fb bI hf fq;have:=fq rfl;subst this;refine EL (Kj h0 (Kj h8 (Kj h9 dN))) ?_;generalize ec:ys++[_]=zs at bI;refine next (n - 1) ad _ ⟨i+1,b1,zs,ad,sA h0,sA h8,sA h9,ajk,?_,hF,?_,qO,?_⟩
   ·show H2 0=_;rw[hf 0 af af];exact nB
   ·intro y hy;rw[<-ec]at hy;rcases List.mem_append.1 hy with hy|hy
    ·exact dY y hy
    ·simp at hy;subst hy;exact hc
   ·refine P9 ?_;exact bI
 ·refine P9 ?_;obtain⟨y,ids,eC,qE,hy,Dp⟩:=lL.settle;have eC:Go.Pi.settle 30 H (t 5)=some (y,ids):=eC;refine EL (Kj eC e0) ?_;refine⟨FE,b,rfl,hF,?_⟩;have:ys.length=(ae v).length:=by omega
  rcases hy with⟨rfl,rfl⟩|rfl
  ·exact⟨.inl rfl,rfl,this,o0⟩
  ·exact⟨.inr ⟨_,rfl⟩,Dp,this,dY⟩
namespace YZ
theorem cr(h:p:=by
 first
 |(exact⟨_,rfl,hF,jz.2 (jb (tF ⟨hS,dR,jN,lS⟩ ad (fun h=>absurd h ad)))⟩)
 |exact kH
 |fail):p:=h
theorem bw(h:p:=by
 first
 |exact ja
 |(refine dw (RN ih lv) cB dM hF ?_;exact E3)
 |fail):p:=h
end YZ
theorem r23{m:Nat}{v:PV}(kind n:Int)(text:ByteArray)(hk:kind≠129/\kind≠25/\kind≠105/\kind≠106)(ih:iS X G m)(lv:aB (EZ m) v):Mt ai X G 40 [.int .i64 kind,.str text,v,.int .i64 n] (fun _=>da):=by
 intro e aZ;have hF:aZ=true->aZ=true:=id;refine ay T40 af ?_;have hv:=lv.1;have hB:=lv.1.len;have hd:=lv.2.1;refine cA ?_;open YZ in exact az
namespace Y0
theorem bw(h:p:=by
 first
 |exact ja
 |exact xu
 |fail):p:=h
end Y0
theorem R1{m:Nat}{v:PV}(ih:iS X G m)(lv:aB (EZ m) v):Mt ai X G 59 [v] (fun _=>da):=by
 intro e aZ;have hF:aZ=true->aZ=true:=id;refine ay T59 af ?_;have hv:=lv.1;have hd:=lv.2.1;refine cA ?_;open Y0 bi in exact az
namespace Za
theorem bw(h:p:=by
 first
 |exact ja
 |exact FN
 |exact JQ
 |(refine⟨_,rfl,?_,?_⟩;(first|exact hF|exact fun _=>trivial|exact fun h=>absurd h Bool.false_ne_true);exact jz.2 (jb (tF ⟨hS,dR,jN,lS⟩ (by have:=hv.1.len;rw[hg]at*;simp at*;omega) (fun h=>absurd h ad))))<;>exact az
 |fail):p:=h
end Za
theorem r61{m:Nat}{x:List PV}(ih:iS X G m)(hx:aR x)(hm:SizeOf.sizeOf x<=m)(h1:1<=(ae (x.getD 8 .undef)).length):Mt ai X G 93 [.agg x] (fun _=>da):=by
 intro e aZ;have hF:aZ=true->aZ=true:=id;obtain⟨kind,op,aA,chain,flags,nn,str,text,kids,bf,parts,aC,aG,rfl,hn,ao,ht,aq,aE,aD,av,au⟩:=hx.open (hm);have h1:1<=(ae kids).length:=h1;have:=ao.1;have:=ao.2.1;have:=aq.1;have:=aq.2.1;have:=aE.1;have:=aE.2.1;have:=aD.1;have:=aD.2.1;have:=av.1;have:=av.2.1;have:=au.1;have:=au.2.1;refine ay T93 af ?_;refine cA ?_;open Za bi in exact az
namespace Zb
theorem bw(h:p:=by
 first
 |exact ja
 |exact JQ
 |(refine dw (gD ‹CZ _ _›) cB dM hF ?_;exact fX)
 |fail):p:=h
end Zb
theorem r28{m:Nat}{x:List PV}(ih:iS X G m)(gD:∀{y},CZ m y->Mt ai X G 62 [.agg y] (fun _=>da))(hx:aR x)(hm:SizeOf.sizeOf x<=m):Mt ai X G 45 [.agg x] (fun _=>da):=by
 intro e aZ;have hF:aZ=true->aZ=true:=id;obtain⟨kind,op,aA,chain,flags,nn,str,text,kids,bf,parts,aC,aG,rfl,hn,ao,ht,aq,aE,aD,av,au⟩:=hx.open (hm);have:=ao.1;have:=ao.2.1;have:=aq.1;have:=aq.2.1;have:=aE.1;have:=aE.2.1;have:=aD.1;have:=aD.2.1;have:=av.1;have:=av.2.1;have:=au.1;have:=au.2.1;refine ay T45 af ?_;refine cA ?_;open Zb bi in exact az
end
end Go.Pi.R
end
section
open Go Go.Pi
namespace Go.Pi.R
variable{p q a:Prop}
set_option maxRecDepth 100000
set_option maxHeartbeats 0
section
variable{T:Nat->Option FX}{X:aS}{G:Nat->PV}{Q:Ex->St->Prop}{w:List Wk}
variable{i len n:Nat}{tr:er}{d:Option Nat}{os:List XO}{t:Nat->PV}{H:al}
def Mx(T:Nat->Option FX)(X:aS)(G:Nat->PV)(f:Nat)(args:List PV)(g:Bool)(r:Bool->PV):Prop:=
 ∀(e:Nat)(aZ:Bool),Fn T X G f (.ptr 0 0 0::args) (some ⟨e,0,[.bool aZ],0⟩) (r aZ) [.bool (aZ&&g)]
theorem jv{f e:Nat}{b0 g:Bool}{args:List PV}{r:Bool->PV}(hM:Mx T X G f args g r)(h0:H 0=some ⟨e,0,[.bool b0],0⟩)(hd:aP args=true)
 (k:M T X G (.ops i os len tr::w) ⟨put t d (r b0),H.put 0 (some ⟨e,0,[.bool (b0&&g)],0⟩),n⟩ Q)(eT:lj f=false:=by rfl):MC T X G f (.ptr 0 0 0::args) d i os len tr w t H n Q:=by
 refine qC eT h0 rfl dZ (ly hd) dZ ⟨_,_,hM e b0,rfl,?_⟩;rw[oZ];exact k
theorem Mx.of{f:Nat}{args:List PV}{g:Bool}{r:Bool->PV}(h:∀e aZ,∃r' c,Fn T X G f (.ptr 0 0 0::args) (some ⟨e,0,[.bool aZ],0⟩) r' c/\(r'=r aZ/\c=[.bool (aZ&&g)])):Mx T X G f args g r:=by
 intro e aZ;obtain⟨r',c,h,rfl,rfl⟩:=h e aZ;exact h
end
section
variable{X:aS}{G:Nat->PV}
theorem z0:decide ((0:Int)<((0:Nat):Int))=false:=rfl
theorem uE(b:Bool):Mx ai X G 47 [.bool b] b (fun f=> .bool (f&&b)):=Mx.of fun e aZ=>by
 refine ay Tr af ?_;cases aZ<;>exact nB
theorem x48:Mx ai X G 63 [.int .i64 (-1)] true (fun _=> .str (bs [])):=Mx.of fun e aZ=>by
 refine ay Tv af ?_;exact nB
theorem x14{v:PV}(h:v= .ah\/v= .sl []):Mx ai X G 17 [v] true (fun _=> .ah):=Mx.of fun e aZ=>by
 refine ay Tp af ?_;have hl:aQ v:=by rcases h with rfl|rfl;exact .inl rfl;exact .inr ⟨_,rfl,af⟩
 have he:ae v=[]:=by rcases h with rfl|rfl<;>rfl
 refine EL (Kj hl he) ?_;refine Ey ?_;exact sA (Kj hl (Kj he z0))
theorem x73:Pure ai X G 104 [.ah] (fun r=>r= .bool false):=by
 refine ay Tz af ?_;refine P9 ?_;refine Ey ?_;exact sA z0
abbrev pq:List PV:=[.int .i64 (-1),.int .i64 0,.sl [],.sl []]
abbrev Nj(marks:Int):PV:= .agg [.int .i64 40,.str (bs []),.str (bs []),.int .u64 marks,.sl [[.int .i64 1,.str (bs []),.str (bs []),.int .u64 0,.ah,.int .i64 0],[.int .i64 1,.str (bs []),.str (bs []),.int .u64 0,.ah,.int .i64 0]],.int .i64 0]
theorem ZU{v:PV}(h:v= .ah\/v= .sl []):aQ v/\ae v=[]/\aw v=true:=by rcases h with rfl|rfl;exact⟨.inl rfl,rfl,rfl⟩;exact⟨.inr ⟨_,rfl,af⟩,rfl,rfl⟩
theorem oJ(marks:Int){a b:PV}(ha:a= .ah\/a= .sl [])(hb:b= .ah\/b= .sl []):Mx ai X G 61 [.agg [.int .i64 (-1),.int .i64 0,a,b],.int .u64 marks] true (fun _=>Nj marks):=Mx.of fun e aZ=>by
 obtain⟨a1,a2,a3⟩:=ZU ha;obtain⟨e1,e2,e3⟩:=ZU hb;refine ay Tu af ?_;have b1:bits .and .i64 0 1=0:=by decide
 have b2:bits .and .i64 0 2=0:=by decide
 have b8:bits .and .i64 0 8=0:=by decide
 have g0:decide ((0:Int)≥0)=true:=rfl;have g1:decide ((0:Int)<64)=true:=rfl;have g2:([]:List (List PV)).length=0:=rfl;refine EL (Kj b1 (Kj b2 (Kj b8 (Kj g0 (Kj g1 (Kj a1 (Kj a2 (Kj a3 (Kj e1 (Kj e2 (Kj e3 g2))))))))))) ?_;refine jv (uE true) gU dZ ?_;refine EL (Kj a1 (Kj a2 (Kj a3 (Kj e1 (Kj e2 (Kj e3 g2)))))) ?_;refine jv x48 gU dZ ?_;refine EL (Kj a1 (Kj a2 (Kj a3 (Kj e1 (Kj e2 (Kj e3 g2)))))) ?_;refine Ey ?_;refine EL (Kj a1 (Kj a2 (Kj a3 (Kj e1 (Kj e2 (Kj e3 (Kj g2 z0))))))) ?_;refine jv (x14 hb) gU (sB e3) ?_;refine EL (Kj a1 (Kj a2 (Kj a3 (Kj e1 (Kj e2 (Kj e3 b8)))))) ?_;refine aO x73 bS dZ ?_;rintro _ rfl;exact sA (Kj a1 (Kj a2 (Kj a3 (Kj e1 (Kj e2 e3)))))
theorem rl{k:IntKind}{n:Int}{r:List PV}:iy (.int k n::r)=(iy r).map fun t=>(.int k n::t.1,.int k n::t.2):=rfl
theorem rm{k:FloatKind}{n:Nat}{r:List PV}:iy (.bR k n::r)=(iy r).map fun t=>(.bR k n::t.1,.bR k n::t.2):=rfl
theorem rn{s:ByteArray}{r:List PV}:iy (.str s::r)=(iy r).map fun t=>(.str s::t.1,.str s::t.2):=rfl
theorem dz{v:PV}{r:List PV}(h:aQ v):iy (v::r)=(iy r).map fun t=>(v::t.1,v::t.2):=by rcases h with rfl|⟨xs,rfl,_⟩<;>rfl
theorem ZV{r:List PV}:iy (oC::r)=some (.sl [pq]::r,.sl []::r):=rfl
theorem AD{r m:PV}{cs:List PV}:qA 87 [r,.agg cs,m]=(iy cs).map fun t=>([r,.agg t.1,m],[r,.agg t.2,m]):=rfl
theorem Dq{r k g y m:PV}{cs:List PV}:qA 88 [r,k,g,y,.agg cs,m]=(iy cs).map fun t=>([r,k,g,y,.agg t.1,m],[r,k,g,y,.agg t.2,m]):=rfl
theorem ZW(marks:Int):Nd [.int .i64 40,.str (bs []),.str (bs []),.int .u64 marks,.sl [[.int .i64 1,.str (bs []),.str (bs []),.int .u64 0,.ah,.int .i64 0],[.int .i64 1,.str (bs []),.str (bs []),.int .u64 0,.ah,.int .i64 0]],.int .i64 0]:=by
 have h:Nd [.int .i64 1,.str (bs []),.str (bs []),.int .u64 0,.ah,.int .i64 0]:=jb (kQ.2 ⟨ad,ad⟩);exact jb ⟨.inr ⟨_,rfl⟩,rfl,o0,by intro x hx;simp[ae]at hx;subst hx;exact h,fun h=>ad⟩
theorem x54(marks:Int){kind op aA chain flags:Int}{nn:Nat}{str kids bf parts aG:PV}{text:ByteArray}(ao:aQ str)(aq:aQ kids)(aE:aQ bf)(aD:aQ parts)(au:aQ aG)(hd:aP [str,kids,bf,parts,aG]=true):
 Mx ai X G 87 [.agg [.int .i64 kind,.int .i64 op,.int .i64 aA,.int .i64 chain,.int .i64 flags,.bR .f64 nn,str,.str text,kids,bf,parts,.sl [pq],aG],.int .u64 marks] true (fun _=>Nj marks)/\
 Mx ai X G 87 [.agg [.int .i64 kind,.int .i64 op,.int .i64 aA,.int .i64 chain,.int .i64 flags,.bR .f64 nn,str,.str text,kids,bf,parts,.sl [],aG],.int .u64 marks] true (fun _=>Nj marks):=by
 simp only[aP,Bool.and_eq_true,Bool.and_true]at hd;obtain⟨h1,h2,h3,h4,h5⟩:=hd;have b2:bits .and .i64 0 2=0:=by decide
 have d10:decide (((1:Nat):Int)=0)=false:=rfl;have d11:decide (((1:Nat):Int)=1)=true:=rfl;have d00:decide (((0:Nat):Int)=0)=true:=rfl;have kP:db 4 (.sl [pq]) (.int .i64 0)=some (.fp pq,none):=rfl;have l1:([pq]:List (List PV)).length=1:=rfl;have l0:([]:List (List PV)).length=0:=rfl;constructor
 ·refine Mx.of fun e aZ=>?_
  refine ay GP af ?_ (by simp only[AD,rl,rm,rn,dz ao,dz aq,dz aE,dz aD,dz au,dz (.inr ⟨_,rfl,af⟩:aQ (.sl [pq])),iy,Option.map_none]);refine Jg ?_;by_cases hm:marks=0
  ·subst hm;refine Jg ?_;refine jv (uE true) gU dZ ?_;refine Jg ?_;simp only[eD,kP];refine Jg ?_;refine jv (oJ 0 (.inr rfl) (.inr rfl)) gU dZ ?_;exact PU
  ·refine Jg ?_;simp only[eD,kP];refine Jg ?_;simp only[eD,kP];refine Jg ?_;refine jv (uE true) gU dZ ?_;refine Jg ?_;simp only[eD,kP];refine Jg ?_;refine jv (oJ marks (.inr rfl) (.inr rfl)) gU dZ ?_;exact PU
 ·refine Mx.of fun e aZ=>?_
  refine ay GP af ?_ (by simp only[AD,rl,rm,rn,dz ao,dz aq,dz aE,dz aD,dz au,dz (.inr ⟨_,rfl,af⟩:aQ (.sl [])),iy,Option.map_none]);exact PU
end
end Go.Pi.R
end
section
open Go Go.Pi
namespace Go.Pi.R
variable{p q a:Prop}
set_option maxRecDepth 100000
set_option maxHeartbeats 0
structure lG(X:aS)(G:Nat->PV)(F:Int->ByteArray):Prop where
 JU:∀n,0<=n->n<1000->Pure ai X G 86 [.int .i64 n] (fun r=>r= .str (F n))
 hF:∀n,(F n).size<=1000
 ZX:∀(s:ByteArray)(yp:Int),s.size<=2097152->Pure ai X G 130 [.str s,.int .i64 0,.int .i64 yp,.bool false] (fun r=>∃(k:Int)(text more:ByteArray)(num from_ jE:Int)(a b c:Bool),r= .agg [.int .i64 k,.str text,.str more,.int .u64 num,.int .i64 from_,.int .i64 jE,.bool a,.bool b,.bool c]/\text.size<=1099511627776)
 ZY:∀(s:ByteArray),s.size<=2097152->1<=s.size->Pure ai X G 135 [.str s,.int .i64 0] (fun r=>∃(k:Int)(text more:ByteArray)(num from_ jE:Int)(a b c:Bool),r= .agg [.int .i64 k,.str text,.str more,.int .u64 num,.int .i64 from_,.int .i64 jE,.bool a,.bool b,.bool c])
 JT:∀{v:PV},aB (fun y=>∃n:Int,y=[.int .u16 n]/\0<=n/\n<65536) v->Pure ai X G 57 [v] (fun r=>∃s:ByteArray,r= .str s/\s.size<=2097152)
 ZZ:∀s:ByteArray,s.size<=2097152->Pure ai X G 56 [.str s] (fun r=>∃(s:ByteArray)(b:Bool),r= .bZ [.str s,.bool b]/\s.size<=1099511627776)
 Z0:∀s:ByteArray,s.size<=1099511627776->Pure ai X G 58 [.str s] (fun r=>∃b:Bool,r= .bool b)
 Nk:∀{c:List PV},Nd c->Pure ai X G 89 [.agg c] (fun r=>∃(s:ByteArray)(b:Bool),r= .bZ [.str s,.bool b])
 Z1:∀s:ByteArray,s.size<=1099511627776->Pure ai X G 23 [.str s] (fun r=>∃s:ByteArray,r= .str s)
 Z2:∀n:Nat,n<18446744073709551616->Pure ai X G 84 [.bR .f64 n] da
 yr:∀{n:Nat}{v:PV},pf n v->n<=1048576->Pure ai X G 104 [v] (fun r=>∃b:Bool,r= .bool b)
section
variable{X:aS}{G:Nat->PV}
theorem lW(b:Nat):(bs [b]).size=1:=rfl
namespace Z3
theorem cr(h:p:=by
 first
 |((refine⟨_,rfl,?_,_,rfl,?_⟩;(first|exact hF|exact fun _=>trivial|exact fun h=>absurd h Bool.false_ne_true);(intro h1 h2;first|omega|(cases h1;done)|exact⟨ad,rfl⟩|(simp_all;first|done|fail))))<;>exact az
 |exact kH
 |fail):p:=h
theorem bw(h:p:=by
 first
 |exact ja
 |(refine aO (B.JU n ad ad) pE dM ?_;rintro _ rfl;exact kB)
 |fail):p:=h
end Z3
theorem r48{F:Int->ByteArray}(B:lG X G F)(n:Int):Mt ai X G 63 [.int .i64 n] (fun f r=>∃s,r= .str s/\(f=true->0<=n->n<1000/\s=bs [118]++F n)):=by
 intro e aZ;have hF:aZ=true->aZ=true:=id;have fL:(bs [118]).size+(F n).size<=9223372036854775807:=by have:=B.hF n;rw[lW];omega
 refine ay Tv af ?_;refine cA ?_;open Z3 in exact az
namespace Z4
theorem cr(h:p:=by
 first
 |((refine⟨_,rfl,?_,?_⟩;(first|exact hF|exact fun _=>trivial|exact fun h=>absurd h Bool.false_ne_true);exact jz.2 (jb (kQ.2 ⟨ad,ad⟩) lU (by intro _;assumption))))<;>exact az
 |exact kH
 |(refine qS (e:=e) 2001 rfl rfl hF (fun R t0 H0 aI eU hR=>cG.2 ?_) (fun c g n' b1 hF=>?_)<;>(try refine cA ?_)<;>exact az)
 |fail):p:=h
theorem bw(h:p:=by
 first
 |exact ja
 |(refine aO (B.ZX s 1 hs) pE dM ?_;rintro _ ⟨k,text,more,num,from_,jE,a,b,c,rfl,uB⟩;exact kB)
 |fail):p:=h
end Z4
theorem r52{F:Int->ByteArray}(B:lG X G F)(s:ByteArray)(k1 k2:Int)(hs:s.size<=2097152)(hk:k2≠129/\k2≠25/\k2≠105):Mt ai X G 85 [.str s,.int .i64 k1,.int .i64 k2] (fun _=>da):=by
 intro e aZ;have hF:aZ=true->aZ=true:=id;refine ay T85 af ?_;refine cA ?_;open Z4 in exact az
namespace Z5
theorem bw(h:p:=by
 first
 |exact ja
 |(refine aO (B.ZY _ av9 (by rw[ByteArray.size_append,lW];omega)) pE dM ?_;rintro _ ⟨k,text,more,num,from_,jE,a,b,c,rfl⟩;exact kB)
 |(refine aO (B.JT lv) pE dM ?_;rintro _ ⟨s',rfl,eA⟩;exact kB)
 |fail):p:=h
end Z5
theorem R4{F:Int->ByteArray}(B:lG X G F){v:PV}(s:ByteArray)(awa:Bool)(hs:s.size<=1048576)(lv:aB (fun y=>∃n:Int,y=[.int .u16 n]/\0<=n/\n<65536) v):Mt ai X G 95 [v,.str s,.bool awa] (fun _=>da):=by
 intro e aZ;have hF:aZ=true->aZ=true:=id;have fL:(bs [125]).size+s.size<=9223372036854775807:=by rw[lW];omega
 have Nc:(bs [125]++s).size+(bs [96]).size<=9223372036854775807:=by rw[ByteArray.size_append,lW,lW];omega
 have av9:(bs [125]++s++bs [96]).size<=2097152:=by rw[ByteArray.size_append,ByteArray.size_append,lW,lW];omega
 have hv:=lv.1;have hd:=lv.2.1;refine ay T95 af ?_;refine cA ?_;open Z5 Lg in exact az
namespace Z6
theorem cr(h:p:=by
 first
 |exact s7
 |exact kH
 |(refine qS (e:=e) 3001 rfl rfl hF (fun R t0 H0 aI eU hR=>cG.2 ?_) (fun c g n' b1 hF=>?_)<;>(try refine cA ?_)<;>exact az)
 |fail):p:=h
theorem bw(h:p:=by
 first
 |exact ja
 |exact JR
 |fail):p:=h
end Z6
theorem r54{m:Nat}{x:List PV}(marks:Int)(jt:∀{y},FZ m y->∀k,Mt ai X G 61 [.agg y,.int .u64 k] (fun _=>da))(hx:aR x)(hm:SizeOf.sizeOf x<=m):Mt ai X G 87 [.agg x,.int .u64 marks] (fun _=>da):=by
 intro e aZ;have hF:aZ=true->aZ=true:=id;obtain⟨kind,op,aA,chain,flags,nn,str,text,kids,bf,parts,aC,aG,rfl,hn,ao,ht,aq,aE,aD,av,au⟩:=hx.open (hm);rcases av.2.2 with lf|⟨rfl,hk⟩
 rotate_left
 ·have X:=x54 (X:=X) (G:=G) (kind:=kind) (op:=op) (aA:=aA) (chain:=chain) (flags:=flags) (nn:=nn) (text:=text) marks ao.1 aq.1 aE.1 aD.1 au.1 ak1;exact⟨_,_,PA (by simp only[AD,rl,rm,rn,dz ao.1,dz aq.1,dz aE.1,dz aD.1,ZV,Option.map_some]) (by simp only[AD,rl,rm,rn,dz ao.1,dz aq.1,dz aE.1,dz aD.1,dz au.1,dz (.inr ⟨_,rfl,af⟩:aQ (.sl [pq])),iy,Option.map_none]) (by simp only[AD,rl,rm,rn,dz ao.1,dz aq.1,dz aE.1,dz aD.1,dz au.1,dz (.inr ⟨_,rfl,af⟩:aQ (.sl [])),iy,Option.map_none]) (X.1 e aZ) (X.2 e aZ) ⟨_,GP⟩,_,rfl,af,jz.2 (ZW _)⟩
 have av:=lf;have:=ao.1;have:=ao.2.1;have:=aq.1;have:=aq.2.1;have:=aE.1;have:=aE.2.1;have:=aD.1;have:=aD.2.1;have:=av.1;have:=av.2.1;have:=au.1;have:=au.2.1;refine ay GP af ?_ (by simp only[AD,rl,rm,rn,dz ao.1,dz aq.1,dz aE.1,dz aD.1,dz av.1,dz au.1,iy,Option.map_none]);refine cA ?_;open Z6 in exact az
namespace Z7
theorem cr(h:p:=by
 first
 |exact Ca
 |((refine⟨_,rfl,?_,?_⟩;(first|exact hF|exact fun _=>trivial|exact fun h=>absurd h Bool.false_ne_true);exact jz.2 (jb (tF ⟨hS,dR,jN,lS⟩ QU ad))))<;>exact az
 |((refine⟨rfl,_,rfl,?_,?_⟩;(first|exact hF|exact fun _=>trivial|exact fun h=>absurd h Bool.false_ne_true);exact jz.2 (jb (tF ⟨hS,dR,jN,lS⟩ QU ad))))<;>exact az
 |exact kH
 |exact RP
 |fail):p:=h
theorem bw(h:p:=by
 first
 |exact ja
 |exact vw
 |exact FN
 |exact JS
 |exact RR
 |fail):p:=h
end Z7
theorem r27{F:Int->ByteArray}(B:lG X G F){m:Nat}{x:List PV}(ih:iS X G m)(hx:aR x)(hm:SizeOf.sizeOf x<=m):Mt ai X G 44 [.agg x] (fun _=>da):=by
 intro e aZ;have hF:aZ=true->aZ=true:=id;obtain⟨kind,op,aA,chain,flags,nn,str,text,kids,bf,parts,aC,aG,rfl,hn,ao,ht,aq,aE,aD,av,au⟩:=hx.open (hm);have:=ao.1;have:=ao.2.1;have:=aq.1;have:=aq.2.1;have:=aE.1;have:=aE.2.1;have:=aD.1;have:=aD.2.1;have:=av.1;have:=av.2.1;have:=au.1;have:=au.2.1;refine ay T44 af ?_;refine cA ?_;open Z7 in exact az
namespace Z8
theorem bw(h:p:=by
 first
 |exact ja
 |exact xu
 |exact JS
 |exact RS
 |(refine aO (Lj ‹Nd _›) pE dM ?_;exact Ji)
 |exact RR
 |fail):p:=h
end Z8
theorem r26{m:Nat}{x:List PV}(ih:iS X G m)(hx:aR x)(hm:SizeOf.sizeOf x<=m):Mt ai X G 43 [.agg x] (fun _=>da):=by
 intro e aZ;have hF:aZ=true->aZ=true:=id;obtain⟨kind,op,aA,chain,flags,nn,str,text,kids,bf,parts,aC,aG,rfl,hn,ao,ht,aq,aE,aD,av,au⟩:=hx.open (hm);have:=ao.1;have:=ao.2.1;have:=aq.1;have:=aq.2.1;have:=aE.1;have:=aE.2.1;have:=aD.1;have:=aD.2.1;have:=av.1;have:=av.2.1;have:=au.1;have:=au.2.1;refine ay T43 af ?_;refine cA ?_;open Z8 Lg in exact az
end
end Go.Pi.R
end
section
open Go Go.Pi
namespace Go.Pi.R
variable{p q a:Prop}
set_option maxRecDepth 100000
set_option maxHeartbeats 0
section
variable{X:aS}{G:Nat->PV}{w:List Wk}
theorem awf{i len n AE kG GW d0 d1 d2 dr dn st g A0 nr e:Nat}{k:Int}{z:Int}{P:Prop}{aZ b:Bool}{f:List (List Nat×List Nat)}{ps:List (Nat×Nat)}{t:Nat->PV}{H:al}{r:PV}{c c2:List PV}
 (hr:pf nr r)(hnr:nr<=1048576)(hx:t dr=r)(hy:t d0= .row A0 st 1)(hH:H A0=some ⟨30,st,c,6⟩)(hc:Nd c)(h4:t 4= .ptr 2 g 0)(Nl:H 2=some ⟨30,g,c2,0⟩)(jA:c2.length=6)(uC:A0≠0/\A0≠2/\2≠A0/\0≠A0)(hd:d1≠4/\d2≠4/\d2≠d1/\4≠d1/\4≠d2)
 (kn:AE≠0/\AE≠2/\0≠AE/\2≠AE)(Mo:H 0=some ⟨e,0,[.bool b],0⟩)(hF:b=true->P)(hk:k≠129/\k≠25/\k≠105/\k≠106)(C0:t dn= .int .u64 z)(YU:dn≠d1)
 (awg:∀z,qB (some (f++[([],z)]++[([],[])]++[([],[2])],ps))=true):
 M ai X G (.ops i [⟨some d1,none,AE,.app 30 6 80 (.t d0) (.t dr)⟩,⟨some d2,none,kG,.build zN [(0,(1,.c (.int .i64 k))),(3,(1,.t dn)),(4,(1,.t d1))]⟩,⟨none,none,GW,.st 6 (.t 4) (.t d2)⟩] len (some (f,ps)):: .code .ret::w) ⟨t,H,n⟩
  (Fin [.cell 4 true 6] (some ⟨e,0,[.bool aZ],0⟩) fun r cells=>∃qI,cells=[.bool qI]/\(qI=true->P)/\da r):=by
 obtain⟨hS,dR,jN,lS⟩:=hr;refine oz (A:=[A0,AE]) (ys:=[c]) (r:=r) hx hS dR (fun c hc=>(lS c hc).len) ?_ af fH ?_
 ·simp only[ev,hy];exact aX.xn af hH hc.len hc.deep
 ·intro v' H' fb bI hf hn hz;obtain⟨z',rfl,lD⟩:=hz _ _ rfl;obtain⟨rc,pF,Nm,Z9⟩:=uC;obtain⟨Cd,MF,hi3,hi4⟩:=kn;obtain⟨cN,en,o9,vV,hd5⟩:=hd;have e0:=(hf 0 (by simp[Z9,hi3])).trans Mo;have e2:=(hf 2 (by simp[Nm,hi4])).trans Nl;have jw:cellsOf v'=some [v']:=by
   rcases bI.2 with⟨_,rfl⟩|⟨a,st,_,rfl,_⟩<;>rfl
  have hE:=fun(n:Nat) c=>(aX.dF (n:=n) (bI.frame (H':=H'.put 2 c) (by
   intro b hb;refine al.gh _ _ ?_;simp only[List.mem_cons,List.not_mem_nil,or_false]at hb;rcases hb with rfl|rfl
   ·exact pF
   ·exact MF)))
  obtain⟨g1,g2,g3,g4⟩:=bI.gv;obtain⟨x0,x1,x2,x3,x4,x5,rfl⟩:∃x0 x1 x2 x3 x4 x5,c2=[x0,x1,x2,x3,x4,x5]:=by
   match c2,jA with
   |[x0,x1,x2,x3,x4,x5],_=>exact⟨_,_,_,_,_,_,rfl⟩
  have ew:=awg z';simp only[qB]at ew;have Aq:∀v,put t (some d1) v 4=t 4:=fun v=>qD vV
  simp only[jw,C0,qD YU,Aq,qD o9,qD hd5,qD vV,h4,e2,e0,hE,go_sem,Nat.reduceEqDiff,Nat.reduceAdd,Nat.reduceLeDiff,Nat.reduceLT,Nat.reduceMul,Nat.reduceSub,reduceIte,reduceCtorEq,Int.reduceEq,Int.reduceLT,Int.reduceLE,Nat.reduceBEq,Int.reduceToNat,cV,cG,gX,gr];have g3:ae (gv v' (c::ae r))=c::ae r:=g3;refine⟨ew,?_,_,rfl,hF,jz.2 (jb ⟨g1,g2,?_,?_,fun h=>absurd h ad⟩)⟩
  ·have h0:¬0∈gi v':=fun h=>by
    have:=g4 0 h;simp only[List.mem_cons,List.not_mem_nil,or_false]at this;rcases this with h|h
    ·exact Z9 h
    ·exact hi3 h
   simpa using h0
  ·rw[g3,List.length_cons];omega
  ·intro y An;rw[g3]at An;rcases List.mem_cons.1 An with rfl|An
   ·exact hc
   ·exact lS _ An
namespace aab
theorem cr(h:p:=by
 first
 |((refine awf ⟨hS,dR,jN,lS⟩ (by have:=hv.1.len;omega) (zB) (zB) (zB) ‹Nd _› (zB) (zB) rfl aJ aJ aJ (zB) (by first|exact hF|exact fun _=>trivial) aJ (zB) aJ (by intro z;simp[qB,uQ,wC])))<;>exact az
 |exact Ca
 |((refine arS 37 6002 aJ rfl (zB) (zB) hF (fun R t0 H0 aI eU hR=>cG.2 ?_) (fun g n' nc b1 lQ hF=>?_);rotate_left;(obtain⟨nk,nt,nm,nn,gJ,na,rfl,hN⟩:=lQ.open;have hS:=hN.1;have dR:=hN.2.1;refine cA ?_);rotate_left;refine cA ?_))<;>exact az
 |((refine hR _ _ _ _ _ (fun i hi=>QG) (zB) (zB) (fun x h1 h2=>akZ) ‹Nd _› hF))<;>exact az
 |((refine Mq 60 7 rfl (fun R t0 H0 aI eU hR=>cG.2 ?_) (fun z g n'=>?_)<;>refine cA ?_))<;>exact az
 |(exact hR _ _ _ QQ (zB))
 |exact kH
 |(refine qS (e:=e) 24001 rfl rfl hF (fun R t0 H0 aI eU hR=>cG.2 ?_) (fun c g n' b1 hF=>?_)<;>(try refine cA ?_)<;>exact az)
 |fail):p:=h
theorem bw(h:p:=by
 first
 |exact ja
 |exact vw
 |exact FN
 |exact JS
 |(refine dw (r61 ih hx hm (by(show 1<=(ae kids).length);omega)) cB dM hF ?_;exact fX)
 |(refine aO (r62 (‹EZ _ _›:EZ _ _).1 (‹EZ _ _›:EZ _ _).le) pE dM ?_;rintro _ ⟨c,rfl⟩;exact kB)
 |(refine dw (ihl ‹EZ _ _›) cB dM hF ?_;exact fX)
 |exact xu
 |exact RS
 |(refine aO (Lj ‹Nd _›) pE dM ?_;exact Ji)
 |fail):p:=h
end aab
theorem r29{F:Int->ByteArray}(B:lG X G F){m:Nat}{x:List PV}(ih:iS X G m)(ihl:∀{y},EZ m y->Mt ai X G 46 [.agg y] (fun _=>da))(hx:aR x)(hm:SizeOf.sizeOf x<=m):Mt ai X G 46 [.agg x] (fun _=>da):=by
 intro e aZ;have hF:aZ=true->aZ=true:=id;have bY:=hx;obtain⟨kind,op,aA,chain,flags,nn,str,text,kids,bf,parts,aC,aG,rfl,hn,ao,ht,aq,aE,aD,av,au⟩:=bY.open (hm);have:=ao.1;have:=ao.2.1;have:=aq.1;have:=aq.2.1;have:=aE.1;have:=aE.2.1;have:=aD.1;have:=aD.2.1;have:=av.1;have:=av.2.1;have:=au.1;have:=au.2.1;refine ay T46 af ?_;refine cA ?_;open aab in exact az
def NdB(r:PV):Prop:=∃c b,r= .bZ [.agg c,.bool b]/\Nd c
namespace aad
theorem cr(h:p:=by
 first
 |((refine⟨_,rfl,?_,_,_,rfl,?_⟩;(first|exact hF|exact fun _=>trivial|exact fun h=>absurd h Bool.false_ne_true);(simp[mz,kQ,ma, *];first|done|fail)))<;>exact az
 |((refine⟨_,rfl,?_,_,_,rfl,?_⟩;(first|exact hF|exact fun _=>trivial|exact fun h=>absurd h Bool.false_ne_true);exact‹Nd _›))<;>exact az
 |exact kH
 |fail):p:=h
theorem bw(h:p:=by
 first
 |exact ja
 |(refine aO (r50 _) pE dM ?_;rintro _ ⟨c,rfl⟩;exact kB)
 |(refine aO (B.Z2 _ ‹_›) pE dM ?_;exact Ji)
 |exact RU
 |(refine dw (r52 B _ _ _ (by first|(rw[ByteArray.size_append,lW];omega)|omega) aJ) cB dM hF ?_;exact fX)
 |exact ajO
 |(refine dw (r54 _ jt hx hm) cB dM hF ?_;exact fX)
 |fail):p:=h
end aad
theorem r22{F:Int->ByteArray}(B:lG X G F){m:Nat}{x:List PV}(jt:∀{y},FZ m y->∀k,Mt ai X G 61 [.agg y,.int .u64 k] (fun _=>da))(hx:aR x)(hm:SizeOf.sizeOf x<=m):Mt ai X G 39 [.agg x] (fun _=>NdB):=by
 intro e aZ;have hF:aZ=true->aZ=true:=id;have bY:=hx;obtain⟨kind,op,aA,chain,flags,nn,str,text,kids,bf,parts,aC,aG,rfl,hn,ao,ht,aq,aE,aD,av,au⟩:=bY.open (hm);have:=ao.1;have:=ao.2.1;have:=aq.1;have:=aq.2.1;have:=aE.1;have:=aE.2.1;have:=aD.1;have:=aD.2.1;have:=av.1;have:=av.2.1;have:=au.1;have:=au.2.1;have fL:text.size+(bs [110]).size<=9223372036854775807:=by rw[lW];omega
 have Nc:(bs [118]).size+(F aA).size<=9223372036854775807:=by have:=B.hF aA;rw[lW];omega
 refine ay T39 af ?_;refine cA ?_;open aad in exact az
namespace aae
theorem bw(h:p:=by
 first
 |exact ja
 |(refine dw (UM) cB dM hF ?_;rintro _ b1 ⟨_,b,rfl,lQ⟩ lR hF;exact kB)
 |(refine dw (UN) cB dM hF ?_;exact fX)
 |(refine dw (UO) cB dM hF ?_;exact fX)
 |(refine dw (h27) cB dM hF ?_;exact fX)
 |(refine dw (FP) cB dM hF ?_;exact fX)
 |(refine dw (h29) cB dM hF ?_;exact fX)
 |(refine dw (yu) cB dM hF ?_;exact fX)
 |exact JQ
 |exact FN
 |exact xu
 |(obtain⟨nk,nt,nm,nn,gJ,na,rfl,hN⟩:=(‹Nd _›:Nd _).open;have hS:=hN.1;have dR:=hN.2.1;refine cA ?_)<;>exact az
 |fail):p:=h
end aae
theorem r16{m:Nat}{x:List PV}(ih:iS X G m)(UM:Mt ai X G 39 [.agg x] (fun _=>NdB))(UN:Mt ai X G 42 [.agg x] (fun _=>da))(UO:Mt ai X G 43 [.agg x] (fun _=>da))(h27:Mt ai X G 44 [.agg x] (fun _=>da))(FP:Mt ai X G 45 [.agg x] (fun _=>da))(h29:Mt ai X G 46 [.agg x] (fun _=>da))(yu:Mt ai X G 48 [.agg x] (fun _=>da))(hx:aR x)(hm:SizeOf.sizeOf x<=m):Mt ai X G 24 [.agg x] (fun _=>da):=by
 intro e aZ;have hF:aZ=true->aZ=true:=id;have bY:=hx;obtain⟨kind,op,aA,chain,flags,nn,str,text,kids,bf,parts,aC,aG,rfl,hn,ao,ht,aq,aE,aD,av,au⟩:=bY.open (hm);have:=ao.1;have:=ao.2.1;have:=aq.1;have:=aq.2.1;have:=aE.1;have:=aE.2.1;have:=aD.1;have:=aD.2.1;have:=av.1;have:=av.2.1;have:=au.1;have:=au.2.1;refine ay T24 af ?_;refine cA ?_;open aae Lh in exact az
end
end Go.Pi.R
end
