import Derived.Test.YtofdfffpmbgogaaGreatDoorP09
import Derived.Test.YtofdfffpmbgogaaGreatDoorP10
import Derived.Test.YtofdfffpmbgogaaGreatDoorP11
import Derived.Test.YtofdfffpmbgogaaGreatDoorP12
import Derived.Test.YtofdfffpmbgogaaGreatDoorP13
import Derived.Test.YtofdfffpmbgogaaGreatDoorP18
import Derived.Test.YtofdfffpmbgogaaGreatDoorP31
import Derived.Test.YtofdfffpmbgogaaGreatDoorP32
/- Part of the proof. -/
set_option linter.all false
set_option maxHeartbeats 0
set_option maxRecDepth 100000
section
open Go Go.Pi
namespace Go.Pi.R
variable{p q a:Prop}
section
variable{X:aS}{G:Nat->PV}
namespace aaP
theorem cw(h:p:=by
 first
 |exact vy
 |exact ajZ
 |(refine dw (Dt ih ax) cB dM hF ?_;exact Qj)
 |fail):p:=h
theorem iZ(h:p:=by
 first
 |exact aBh
 |fail):p:=h
theorem nD(h:p:=by
 first
 |exact aBh
 |fail):p:=h
theorem R7(h:p:=by
 first
 |skip
  refine⟨by simpa using fun h:0∈gi v=>absurd (g4 0 h) af,_,rfl,ej,jz.2 (jb ⟨g1,g2,pS,fun y hy=>dY y rS,fun h=>absurd h ad⟩ lU lU)⟩;done
 |fail):p:=h
end aaP
namespace aaQ
theorem bw(h:p:=by
 first
 |exact ja
 |(refine dw (h75) cB dM hF ?_;exact fX)
 |(refine dw (h76) cB dM hF ?_;exact fX)
 |(refine dw (h77) cB dM hF ?_;exact fX)
 |(refine dw (ih.s ax) cB dM hF ?_;exact fX)
 |(refine dw (R1 ih ax) cB dM hF ?_;exact fX)
 |exact vw
 |exact ajR
 |fail):p:=h
theorem bj(h:p:=by
 first
 |skip
  have hB:=aM.1.len;have ej:Hid (_->aZ=true):=hF;clear hF;refine b5 (fun n s'=>∃(i:Nat)(b:Bool)(v:PV)(ys:List (List PV))(so:Nat),i+n=(ae cases).length/\s'.t 0= .ptr 0 0 0/\s'.t 4= .ptr 2 2 0/\s'.t 7= .ptr 29007 so 0/\s'.t 153=cases/\s'.t 154= .int .i64 (ae cases).length/\s'.t 155= .int .i64 i/\
   s'.H 0=some ⟨e,0,[.bool b],0⟩/\s'.H 2=some ⟨30,2,zN,0⟩/\s'.H 29007=some ⟨30,so,[.int .i64 27,.str (bs []),.str (bs []),.int .u64 0,v,.int .i64 0],0⟩/\
   aX [29005,38005] s'.H 30 6 v ys/\(∀y,y∈ys->Nd y)/\ys.length=i+1/\(b=true->aZ=true)) ?_ (n:=(ae cases).length)
   ⟨0,_,_,[_],_,af,nB,nB,mQ,nB,nB,nB,nB,nB,nB,aX.xn af (nB) rfl BW,ai5,rfl,ej⟩
  rintro n ⟨t,H,k⟩ ⟨i,b,v,ys,so,hi,h0,h4,h7,aaR,aaS,aaT,e0,e2,e7,aY,dY,eY,gP⟩ next
  simp only at h0 h4 h7 aaR aaS aaT e0 e2 e7 aY;clear ej;have ej:Hid (b=true->aZ=true):=gP;clear gP;have hF:b=true->b=true:=id;have hE:=fun(n:Nat) (H':al) (q1:H' 29005=H 29005) (q2:H' 38005=H 38005)=>(aX.dF (n:=n) (aY.frame (H':=H') zT))
  obtain⟨g1,g2,g3,g4⟩:=aY.gv;refine nA (Kj h0 (Kj h4 (Kj h7 (Kj aaR (Kj aaS (Kj aaT (Kj e0 (Kj e2 e7)))))))) ?_;have nx:Hid _:=next
  clear next
  open aaP dO Gs in exact bu
  done
 |fail):p:=h
end aaQ
theorem r49{F:Int->ByteArray}(B:lG X G F){m:Nat}{x:List PV}(ih:iS X G m)(h75:Mt ai X G 106 [.agg x] (fun _=>da))(h76:Mt ai X G 107 [.agg x] (fun _=>da))(h77:Mt ai X G 108 [.agg x] (fun _=>da))(hx:bH x)(hm:SizeOf.sizeOf x<=m):Mt ai X G 64 [.agg x] (fun _=>da):=by
 intro e aZ;have hF:aZ=true->aZ=true:=id;obtain⟨kind,op,aA,flags,str,exprs,kids,decls,cases,aC,aG,rfl,jc,hr,ao,aN,aq,aL,aM,av,au⟩:=hx.open (hm);have:=jc.1;have:=jc.2.1;have:=ao.1;have:=ao.2.1;have:=aN.1;have:=aN.2.1;have:=aq.1;have:=aq.2.1;have:=aL.1;have:=aL.2.1;have:=aM.1;have:=aM.2.1;have:=av.1;have:=av.2.1;have:=au.1;have:=au.2.1;refine ay T64 af ?_;refine cA ?_;open aaQ bi in exact az
end
end Go.Pi.R
end
section
open Go Go.Pi
namespace Go.Pi.R
variable{p q a:Prop}
section
variable{X:aS}{G:Nat->PV}
namespace aaU
theorem cw(h:p:=by
 first
 |exact vy
 |exact ajZ
 |(refine dw (r55 B ih jt ax ax _ _ _) cB dM hF ?_;exact vb)
 |(refine aO (B.Nk ‹Nd _›) pE dM ?_;rintro _ ⟨s1,b1,rfl⟩;exact qL)
 |(refine aO (B.Z1 _ iP) pE dM ?_;rintro _ ⟨s2,rfl⟩;exact qL)
 |(refine vz (A:=[9007,13018,20007,21008]) (ys:=ys) (v:=v) (cB) (cB) (cB) (cB) (aY.frame (by intro b hb;simp only[List.mem_cons,List.not_mem_nil,or_false]at hb;rcases hb with rfl|rfl|rfl|rfl<;>exact cB)) af af tB vr af fH aJ rX (fun t' H' n' v' tH tI bI hf=>?_);have z6:=hf 0 af af aJ;have z7:=hf 2 af af aJ;(try refine cA ?_))<;>exact bu
 |fail):p:=h
theorem fu(h:p:=by
 first
 |skip
  all_goals first
   |(have next:=nx;unfold Hid at next;clear hE;generalize ec:ys++_=zs at bI;refine next (n - 1) ad _ ⟨i+1,_,v',zs,so,ad,cB,cB,cB,cB,cB,gK,cB,cB,cB,bI,?_,qO,fun h=>(show b=true->aZ=true from ej) (hF h)⟩)
   |(refine⟨?_,_,rfl,?_,?_⟩)
   |skip
  all_goals first
   |exact fun h=>absurd h Bool.false_ne_true
   |exact ej
   |(simpa using fun h:0∈gi v=>absurd (g4 0 h) af)
   |(refine jz.2 (jb ⟨g1,g2,pS,fun y hy=>dY y rS,fun h=>absurd h ad⟩ lU lU))
   |(intro y hy;rw[<-ec]at hy;rcases List.mem_append.1 hy with hy|hy;(focus exact dY y hy);(simp only[List.mem_cons,List.not_mem_nil,or_false]at hy;subst hy;first|assumption|(simp[mz,kQ,ma, *];first|done|fail)))
   |skip
  done
 |fail):p:=h
end aaU
namespace aaV
theorem bj(h:p:=by
 first
 |skip
  have hB:=aE.1.len;have ej:Hid (_->aZ=true):=hF;clear hF;refine b5 (fun n s'=>∃(i:Nat)(b:Bool)(v:PV)(ys:List (List PV))(so:Nat),i+n=(ae bf).length/\s'.t 0= .ptr 0 0 0/\s'.t 4= .ptr 2 2 0/\s'.t 5= .ptr 1002 so 0/\s'.t 14=bf/\s'.t 15= .int .i64 (ae bf).length/\s'.t 16= .int .i64 i/\
   s'.H 0=some ⟨e,0,[.bool b],0⟩/\s'.H 2=some ⟨30,2,zN,0⟩/\s'.H 1002=some ⟨30,so,[.int .i64 115,.str (bs []),.str (bs []),.int .u64 0,v,.int .i64 0],0⟩/\
   aX [9007,13018,20007,21008] s'.H 30 6 v ys/\(∀y,y∈ys->Nd y)/\ys.length=i/\(b=true->aZ=true)) ?_ (n:=(ae bf).length)
   ⟨0,_,_,[],_,af,nB,nB,mQ,nB,nB,nB,nB,nB,nB,aX.nil,af,rfl,ej⟩
  rintro n ⟨t,H,k⟩ ⟨i,b,v,ys,so,hi,h0,h4,h5,yz,DF,DG,e0,e2,e5,aY,dY,eY,gP⟩ next
  simp only at h0 h4 h5 yz DF DG e0 e2 e5 aY;clear ej;have ej:Hid (b=true->aZ=true):=gP;clear gP;have hF:b=true->b=true:=id;have hE:=fun(n:Nat) (H':al) (q1:H' 9007=H 9007) (q2:H' 13018=H 13018) (q3:H' 20007=H 20007) (q4:H' 21008=H 21008)=>(aX.dF (n:=n) (aY.frame (H':=H') (by intro b hb;simp only[List.mem_cons,List.not_mem_nil,or_false]at hb;rcases hb with rfl|rfl|rfl|rfl;exact q1;exact q2;exact q3;exact q4)))
  obtain⟨g1,g2,g3,g4⟩:=aY.gv;refine nA (Kj h0 (Kj h4 (Kj h5 (Kj yz (Kj DF (Kj DG (Kj e0 (Kj e2 e5)))))))) ?_;have nx:Hid _:=next
  clear next
  open aaU dO in exact bu
  done
 |fail):p:=h
end aaV
theorem r25{F:Int->ByteArray}(B:lG X G F){m:Nat}{x:List PV}(ih:iS X G m)(jt:∀{y},FZ m y->∀k,Mt ai X G 61 [.agg y,.int .u64 k] (fun _=>da))(hx:aR x)(hm:SizeOf.sizeOf x<=m):Mt ai X G 42 [.agg x] (fun _=>da):=by
 intro e aZ;have hF:aZ=true->aZ=true:=id;obtain⟨kind,op,aA,chain,flags,nn,str,text,kids,bf,parts,aC,aG,rfl,hn,ao,ht,aq,aE,aD,av,au⟩:=hx.open (hm);have:=ao.1;have:=ao.2.1;have:=aq.1;have:=aq.2.1;have:=aE.1;have:=aE.2.1;have:=aD.1;have:=aD.2.1;have:=av.1;have:=av.2.1;have:=au.1;have:=au.2.1;have iP:(bs [95,95,112,114,111,116,111,95,95]).size<=1099511627776:=by decide
 refine ay T42 af ?_;refine cA ?_;open aaV bi Lm in exact az
end
end Go.Pi.R
end
section
open Go Go.Pi
namespace Go.Pi.R
variable{p q a:Prop}
section
variable{T:Nat->Option FX}{X:aS}{G:Nat->PV}{Q:Ex->St->Prop}{w:List Wk}
theorem aaW{ops:List XO}{c2:XC}{n st HC:Nat}{t:Nat->PV}{H:al}{k0 v1 v2 v4 v5:PV}{z0:Int}(lo id kG:Nat)(kn:kG≠id)(h1:zt ops=some lo)(bG:(H id).map (·.gen)=some st)(h2:H kG=some ⟨30,HC,[k0,v1,v2,.int .u64 z0,v4,v5],0⟩)
 (h:∀R t0 H0,(∀i,t0 i=t i)->(∀i,H0 i=H i)->(∀t' H' n' nc z,(∀i,i<lo->t' i=t0 i)->H' id=some ⟨30,st,nc,0⟩->H' kG=some ⟨30,HC,[k0,v1,v2,.int .u64 z,v4,v5],0⟩->(∀x,x≠id->x≠kG->H' x=H0 x)->Nd nc->M T X G R ⟨t',H',n'⟩ Q)->M T X G (.code (.ng ops):: .code c2::R) ⟨t0,H0,n⟩ Q)
 (hk:∀g n' nc z,Nd nc->M T X G w ⟨C2 lo g t,(H.put id (some ⟨30,st,nc,0⟩)).put kG (some ⟨30,HC,[k0,v1,v2,.int .u64 z,v4,v5],0⟩),n'⟩ Q):M T X G (.code (.ng ops):: .code c2::w) ⟨t,H,n⟩ Q:=
 h w t H (fun _=>rfl) (fun _=>rfl) fun t' H' n' nc z hl Mn Nl Mp hN=>by
  have e1:H'=(H.put id (some ⟨30,st,nc,0⟩)).put kG (some ⟨30,HC,[k0,v1,v2,.int .u64 z,v4,v5],0⟩):=by
   funext x;by_cases hx:x=kG
   ·subst hx;rw[al.fT];exact Nl
   ·rw[al.gh _ _ hx];by_cases hy:x=id
    ·subst hy;rw[al.fT];exact Mn
    ·rw[al.gh _ _ hy];exact Mp x hy hx
  rw[e1,TM hl];exact hk _ _ _ _ hN
theorem Nt{k:Int}{v:PV}{m:Int}{y:List PV}{d:Option Nat}{i len n:Nat}{os:List XO}{tr:er}{t:Nat->PV}{H:al}(hg:(ae v)[m.toNat]?=some y)(h:p8 k v)(h0:0<=m)
 (kk:M T X G (.ops i os len tr::w) ⟨put t d (.fp y),H,n⟩ Q):eD T X G 6 v (.int .i64 m) d i os len tr w t H n Q:=by
 have cE:m<(ae v).length:=by
  rcases Nat.lt_or_ge m.toNat (ae v).length with h1|h1
  ·omega
  ·rw[List.getElem?_eq_none h1]at hg;cases hg
 refine xT h h0 cE (fun y' _ _ eO=>?_);rw[hg]at eO;cases eO;exact kk
end
section
variable{X:aS}{G:Nat->PV}
namespace aaX
theorem gw(h:p:=by
 first
 |((refine⟨_,rfl,?_,?_⟩;(first|exact hF|exact fun _=>trivial|exact fun h=>absurd h Bool.false_ne_true|exact fun h=>(show b=true->aZ=true from ej) (hF h));(simp[jz,mz,wW,kQ,ma, *];first|done|fail)))<;>exact bu
 |((refine aaW 113 20006 6007 aJ rfl (zB) (cB) (fun R t0 H0 aI eU hR=>cG.2 ?_) (fun g n' nc z lQ=>?_);rotate_left;(obtain⟨nk,nt,nm,nn,gJ,na,rfl,hN⟩:=lQ.open;have hS:=hN.1;have dR:=hN.2.1;refine cA ?_);rotate_left;refine cA ?_))<;>exact bu
 |((refine aaW 158 20006 6007 aJ rfl (zB) (cB) (fun R t0 H0 aI eU hR=>cG.2 ?_) (fun g n' nc z lQ=>?_);rotate_left;(obtain⟨nk,nt,nm,nn,gJ,na,rfl,hN⟩:=lQ.open;have hS:=hN.1;have dR:=hN.2.1;refine cA ?_);rotate_left;refine cA ?_))<;>exact bu
 |((refine hR _ _ _ _ _ (fun i hi=>QG) (cB) (cB) (fun x h1 h2=>akZ) (by first|assumption|exact jb (tF ⟨hS,dR,jN,lS⟩ JA ad) lU lU)))<;>exact bu
 |((have next:=nx;unfold Hid at next;clear hE;generalize ec:ys++_=zs at bI;refine next (n - 1) ad _ ⟨i+1,_,v',zs,so,sf,_,_,_,ad,cB,cB,cB,cB,cB,cB,cB,cB,gK,cB,cB,cB,cB,cB,bI,?_,qO,fun h=>(show b=true->aZ=true from ej) (hF h)⟩;(intro y hy;rw[<-ec]at hy;rcases List.mem_append.1 hy with hy|hy;(focus exact dY y hy);(simp only[List.mem_cons,List.not_mem_nil,or_false]at hy;subst hy;first|assumption|(simp[mz,kQ,ma, *];first|done|fail)))))<;>exact bu
 |exact kH
 |fail):p:=h
theorem cw(h:p:=by
 first
 |exact vy
 |(refine dw (ih.b ax) cB dM hF ?_;exact vb)
 |exact ajZ
 |(refine dw (Dt ih ax) cB dM hF ?_;exact Qj)
 |(refine aO (yr (show pf (ae gJ).length gJ from⟨hN.1,hN.2.1,rfl,hN.2.2.2.1⟩) hN.2.2.1) pE dM ?_;rintro _ ⟨b3,rfl⟩;exact qL)
 |(refine vz (A:=[15007,18008]) (ys:=ys) (v:=v) (cB) (cB) (cB) (cB) (aY.frame vh) af af tB vr af fH aJ rX (fun t' H' n' v' tH tI bI hf=>?_);have z6:=hf 0 af af aJ;have JX:=hf 1 af af aJ;have z7:=hf 2 af af aJ;have aCw:=hf 6007 af af aJ;(try refine cA ?_))<;>exact bu
 |(refine Nt wo (tF ⟨hS,dR,jN,lS⟩ JA ad:p8 1 r) ad ?_;refine cA ?_)<;>exact bu
 |(refine Nt sO HD ad ?_;refine cA ?_)<;>exact bu
 |(refine xT (k:=25) HD ad (by have:=HD.2.2.2.2 (.inr rfl);omega) (fun y hy b6 sO=>?_);obtain⟨bk,bt,bm,bn,aCx,ba,rfl,hNb⟩:=hy.open;have:=hNb.2.1;refine cA ?_)<;>exact bu
 |(refine xT (k:=1) (tF ⟨hS,dR,jN,lS⟩ JA ad) ad ad (fun y hy b6 wo=>?_);obtain⟨ak,akt,akm,an,aaE,aa,rfl,HD⟩:=hy.open;have:=HD.2.1;refine cA ?_)<;>exact bu
 |fail):p:=h
theorem fu(h:p:=by
 first
 |skip
  all_goals first
   |(refine⟨by simpa using fun h:0∈gi v=>absurd (g4 0 h) af,_,rfl,fun h=>(show b=true->aZ=true from ej) (hF h),?_⟩;have Fb:Nd [.int .i64 1,.str (bs []),.str (bs []),.int .u64 0,gv v ys,.int .i64 0]:=jb ⟨g1,g2,pS,fun y hy=>dY y rS,fun h=>absurd h ad⟩ lU lU;clear hE;refine jz.2 (jb (ma.2 ?_) lU lU);simp[*];done)
   |skip
  done
 |fail):p:=h
end aaX
namespace aaY
theorem cr(h:p:=by
 first
 |exact Ca
 |((refine Mq 14 2 rfl (fun R t0 H0 aI eU hR=>cG.2 ?_) (fun z g n'=>?_)<;>(try refine cA ?_)))<;>exact az
 |((refine Mq 20 2 rfl (fun R t0 H0 aI eU hR=>cG.2 ?_) (fun z g n'=>?_)<;>(try refine cA ?_)))<;>exact az
 |(exact hR _ _ _ QQ (cB))
 |exact kH
 |(refine qS (e:=e) 26 rfl rfl hF (fun R t0 H0 aI eU hR=>cG.2 ?_) (fun c g n' b1 hF=>?_)<;>(try refine cA ?_)<;>exact az)
 |fail):p:=h
theorem bw(h:p:=by
 first
 |exact ja
 |exact vw
 |fail):p:=h
theorem bj(h:p:=by
 first
 |skip
  have hB:=cu.1.len;have ej:Hid (_->aZ=true):=hF;clear hF;refine b5 (fun n s'=>∃(i:Nat)(b:Bool)(v:PV)(ys:List (List PV))(so sf:Nat)(z z2:Int)(s0:ByteArray),i+n=(ae args).length/\s'.t 0= .ptr 0 0 0/\s'.t 2= .int .u64 z2/\s'.t 4= .ptr 1 1 0/\s'.t 6= .ptr 2 2 0/\s'.t 7= .ptr 6007 sf 0/\s'.t 8= .ptr 7002 so 0/\s'.t 44=args/\s'.t 45= .int .i64 (ae args).length/\s'.t 46= .int .i64 i/\
   s'.H 0=some ⟨e,0,[.bool b],0⟩/\s'.H 1=some ⟨156,1,[.int .i64 name,.int .i64 flags,args,body],0⟩/\s'.H 2=some ⟨30,2,zN,0⟩/\s'.H 6007=some ⟨30,sf,[.int .i64 40,.str s0,.str (bs []),.int .u64 z,.ah,.int .i64 0],0⟩/\s'.H 7002=some ⟨30,so,[.int .i64 1,.str (bs []),.str (bs []),.int .u64 0,v,.int .i64 0],0⟩/\
   aX [15007,18008] s'.H 30 6 v ys/\(∀y,y∈ys->Nd y)/\ys.length=i/\(b=true->aZ=true)) ?_ (n:=(ae args).length)
   ⟨0,_,_,[],_,_,_,_,_,af,nB,mQ,nB,nB,mQ,mQ,nB,nB,nB,nB,nB,nB,nB,nB,aX.nil,af,rfl,ej⟩
  rintro n ⟨t,H,k⟩ ⟨i,b,v,ys,so,sf,z,z2,s0,hi,h0,h2,h4,h6,h7,h8,h44,oK,aa0,e0,e1,e2,e6,e7,aY,dY,eY,gP⟩ next
  simp only at h0 h2 h4 h6 h7 h8 h44 oK aa0 e0 e1 e2 e6 e7 aY;clear ej;have ej:Hid (b=true->aZ=true):=gP;clear gP;have hF:b=true->b=true:=id;have hE:=fun(n:Nat) (H':al) (q1:H' 15007=H 15007) (q2:H' 18008=H 18008)=>(aX.dF (n:=n) (aY.frame (H':=H') zT))
  obtain⟨g1,g2,g3,g4⟩:=aY.gv;refine nA (Kj h0 (Kj h2 (Kj h4 (Kj h6 (Kj h7 (Kj h8 (Kj h44 (Kj oK (Kj aa0 (Kj e0 (Kj e1 (Kj e2 (Kj e6 e7))))))))))))) ?_;have nx:Hid _:=next
  clear next
  open aaX in exact bu
  done
 |fail):p:=h
end aaY
theorem r46{F:Int->ByteArray}(B:lG X G F)(yr:∀{n:Nat}{v:PV},pf n v->n<=4194304->Pure ai X G 104 [v] (fun r=>∃b:Bool,r= .bool b)){m:Nat}{x:List PV}(ih:iS X G m)(hx:gu x)(hm:SizeOf.sizeOf x<=m)(marks:Int):Mt ai X G 61 [.agg x,.int .u64 marks] (fun _=>da):=by
 intro e aZ;have hF:aZ=true->aZ=true:=id;obtain⟨name,flags,args,body,rfl,hr,cu,cz⟩:=hx.open (hm);have:=cu.1;have:=cu.2.1;have:=cz.1;have:=cz.2.1;refine ay Tu af ?_;refine cA ?_;open aaY in exact az
end
end Go.Pi.R
end
