import Derived.Test.YtofdfffpmbgogaaGreatDoorP08
import Derived.Test.YtofdfffpmbgogaaGreatDoorP09
import Derived.Test.YtofdfffpmbgogaaGreatDoorP10
import Derived.Test.YtofdfffpmbgogaaGreatDoorP11
import Derived.Test.YtofdfffpmbgogaaGreatDoorP12
import Derived.Test.YtofdfffpmbgogaaGreatDoorP13
import Derived.Test.YtofdfffpmbgogaaGreatDoorP18
import Derived.Test.YtofdfffpmbgogaaGreatDoorP27
import Derived.Test.YtofdfffpmbgogaaGreatDoorP29
/- Part of the proof. -/
set_option linter.all false
section
open Go Go.Pi
namespace Go.Pi
variable{p q a:Prop}
set_option maxRecDepth 100000
set_option maxHeartbeats 0
section
variable{X:aS}{G:Nat->PV}
def X6(N:Int)(L:Nat)(r:PV):Prop:=∃n,r= .int .i64 n/\0<=n/\n<=32*L/\N<2 ^ n.toNat/\(0<N->1<=n/\2 ^ (n - 1).toNat<=N)
theorem auQ{a:List Int}{L:Nat}(ha:eb a){n mh x:Int}(dW:a≠[])(hL:a.length<=L)(Dj:a[((a.length:Int) - 1).toNat]?=some mh)(h0:¬mh=0)(bY:0<=x)(hx:¬x>0)(hn:0<=n)(lI:n<=32)(h2:mh<2 ^ n.toNat*(x+1))(h3:1<=n->2 ^ (n - 1).toNat<=mh):
 X6 (vl a) L (.int .i64 (32*((a.length:Int) - 1)+n)):=by
 obtain⟨t0,t1⟩:=ha.get Dj;have qw:x=0:=by omega
 subst qw;have Bp:mh<2 ^ n.toNat:=by omega
 have gj:1<=n:=by
  rcases Int.lt_or_le n 1 with h|h
  ·have:n=0:=by omega
   subst this;simp at Bp;omega
  ·exact h
 obtain⟨e1,e2⟩:=auL ha dW Dj gj Bp (h3 gj);have hl:0<a.length:=List.length_pos_iff.2 dW;exact⟨_,rfl,ad,ad,e1,fun _=>⟨ad,e2⟩⟩
namespace X7
theorem bx(x:a)(g:q)(h:a->q->p:=by(intro x g;exact nA (Kj x (Kj h0 (Kj h3 (Kj h4 (Kj hv (Kj bW aI)))))) g)):p:=h x g
theorem gT(h:p:=by
 first
 |(refine next _ ?_ _ ⟨_,_,ai2,ai2,ai2,om,om,om,om,om,om,om,rfl⟩;(first|exact wM|(simp;done)|(simp;omega)|(intro h;omega)|exact(vf cg ad gn iL gG).1|exact(vf cg ad gn iL gG).2.1|exact fun _=>(vf cg ad gn iL gG).2.2.1|exact(vf cg ad gn iL gG).2.2.2))
 |fail):p:=h
theorem gw(h:p:=by
 first
 |(exact auQ mg dW uz hx hxn eu ad cg dH iL lC)<;>exact bN
 |fail):p:=h
end X7
namespace X8
theorem cr(h:p:=by
 first
 |((have e:a=[]:=List.eq_nil_of_length_eq_zero ad;subst e;exact⟨0,rfl,ad,ad,by simp[vl],by simp[vl]⟩))<;>exact bp
 |fail):p:=h
theorem bw(h:p:=by
 first
 |((refine sy iR ad ad (fun x hx=>?_);refine nA (Kj hv (Kj hd bW)) ?_))<;>exact bp
 |fail):p:=h
theorem bj(h:p:=by
 first
 |skip
  have dW:a≠[]:=fun e=>by subst e;simp at*
  obtain⟨bY,gG⟩:=mg.get hx;have hxn:¬x=0:=sD x (by rw[List.getLast?_eq_getElem?];rw[show((a.length:Int) - 1).toNat=a.length - 1 by omega]at hx;exact hx);refine b5 (fun m' s'=>∃(n y:Int),s'.t 0=v/\s'.t 3= .int .i64 n/\s'.t 4= .int .u64 y/\(0<=n)/\(n<=32)/\(0<=y)/\(y<=x)/\(2 ^ n.toNat*y<=x)/\(x<2 ^ n.toNat*(y+1))/\(1<=n->2 ^ (n - 1).toNat<=x)/\m'=y.toNat) ?_ (n:=_) ⟨_,_,ny,ny,ny,om,om,om,om,om,om,om,rfl⟩;rintro m' ⟨t,H,k⟩ ⟨n,y,h0,h3,h4,cg,dH,eu,jT,gn,iL,lC,hm⟩ next
  simp only at h0 h3 h4;refine nA (Kj h0 (Kj h3 (Kj h4 (Kj hv bW)))) ?_;open X7 in exact bN
  done
 |fail):p:=h
end X8
theorem akz{N:Int}{L:Nat}{v:PV}(h:ez N L v)(hl:L<=1073741824):Pure ai X G 202 [v] (X6 N L):=by
 obtain⟨a,iR,mg,sD,rfl,uz⟩:=h;have hv:=iR.qe;have hd:=iR.deep;have bW:=iR.len;refine ay arE af ?_;refine nA (Kj hv (Kj hd bW)) ?_;open X8 Cq in exact bp
namespace X9
theorem eV(x:a)(g:q)(h:a->q->p:=by(intro x g;exact nA (Kj x (Kj h0 (Kj h1 (Kj h5 (Kj h6 (Kj h7 (Kj hv (Kj bW aI)))))))) g)):p:=h x g
theorem xc(h:p:=by
 first
 |(refine next _ ?_ _ ⟨_,_,_,_,BN,BN,BN,BN,BN,mP,mP,mP,mP,mP,mP,mP,mP,rfl⟩;(first|exact wM|exact aX.rR af (zB)|exact eb.rR _|exact Int.pow_pos aJ|(simp;done)|(rw[Qs];simp[vl];done)|exact iL.snoc ad ad|(simp only[List.length_append,List.length_cons,List.length_nil];omega)|exact Qt hx dH lC xd|assumption))
 |fail):p:=h
end X9
namespace Ya
theorem bx(x:a)(g:q)(h:a->q->p:=by(intro x g;exact nA (Kj x (Kj h0 (Kj h1 (Kj h5 (Kj h6 (Kj h7 (Kj hv (Kj bW aI)))))))) g)):p:=h x g
theorem cw(h:p:=by
 first
 |((refine sy iR ad ad (fun x hx=>?_);refine nA (Kj h0 (Kj h1 (Kj h5 (Kj h6 (Kj h7 (Kj hv bW)))))) ?_))<;>exact bN
 |fail):p:=h
theorem iZ(h:p:=by
 first
 |skip
  obtain⟨bY,gG⟩:=mg.get hx;obtain⟨dG,fD,Ed,hb4⟩:=auM bY gG jT gn (by omega:(n % 32).toNat<32);rw[wrap_u64 (n:=x*2 ^ (n % 32).toNat) dG ad,MU bY jT gn fD];simp(disch:=omega) only[qK];refine Di (A:=[1003,7005]) (rid:=7004) (x0:=(x*2 ^ (n % 32).toNat+c) % 4294967296) (sB (Kj h0 (Kj h1 (Kj h5 (Kj h6 (Kj h7 (Kj hv bW))))))) (sB (Kj h0 (Kj h1 (Kj h5 (Kj h6 (Kj h7 (Kj hv bW))))))) (by refine nA (Kj h0 (Kj h1 (Kj h5 (Kj h6 (Kj h7 (Kj hv bW)))))) ?_;exact cg.frame JC) af af ad ?_;intro v' H' fb bI hf fq;have:=fq rfl;subst this;refine nA (Kj h0 (Kj h1 (Kj h5 (Kj h6 (Kj h7 (Kj hv bW)))))) ?_;open X9 in exact jr
  done
 |fail):p:=h
theorem nD(h:p:=by
 first
 |skip
  refine Di (A:=[1003,7005,9004]) (rid:=9003) (x0:=c) (sB (Kj h0 (Kj h1 (Kj h5 (Kj h6 (Kj h7 (Kj hv bW))))))) (sB (Kj h0 (Kj h1 (Kj h5 (Kj h6 (Kj h7 (Kj hv bW))))))) (by refine nA (Kj h0 (Kj h1 (Kj h5 (Kj h6 (Kj h7 (Kj hv bW)))))) ?_;exact(cg.frame JC).sub af) af af ad ?_;intro v' H' fb bI hf fq;have:=fq rfl;subst this;refine nA (Kj h0 (Kj h1 (Kj h5 (Kj h6 (Kj h7 (Kj hv bW)))))) ?_;have hc9:c<4294967296:=by
   have:(2:Int) ^ (n % 32).toNat<=2 ^ 32:=by
    obtain⟨k,hk⟩:∃k,32=(n % 32).toNat+k:=⟨32 - (n % 32).toNat,ad⟩;have h6:(0:Int)<2 ^ k:=Int.pow_pos aJ;have h7:(2:Int) ^ (n % 32).toNat*1<=2 ^ (n % 32).toNat*2 ^ k:=Int.mul_le_mul_of_nonneg_left ad (Int.le_of_lt (Int.pow_pos aJ));rw[<-Int.pow_add,<-hk]at h7;omega
   have h9:(2:Int) ^ 32=4294967296:=by decide
   omega
  refine Hs bI (Ax bI.nv (iL.snoc jT hc9) zX) (fun r hr=>?_);have yj:=hr.deep;refine nA (Kj h0 (Kj h1 (Kj h5 (Kj h6 (Kj h7 (Kj hv (Kj bW yj))))))) ?_;have e:vl (out++[c])=vl a*2 ^ n.toNat:=by
   rw[yh,lC,xd,Fe ad,auN iv]
  rw[e]at hr;exact hr.mono zX;done
 |fail):p:=h
end Ya
namespace Yb
theorem bj(h:p:=by
 first
 |skip
  refine b5 (fun m' s'=>∃(i c:Int)(out:List Int)(g:PV),s'.t 0=v/\s'.t 1= .int .i64 n/\s'.t 5=g/\s'.t 6= .int .u64 c/\s'.t 7= .int .i64 i/\(aX [1003,7005] s'.H 28 1 g (fY out))/\(0<=i)/\(i<=a.length)/\(0<=c)/\(c<2 ^ (n % 32).toNat)/\(eb out)/\(out.length=(n / 32).toNat+i.toNat)/\(vl out+4294967296 ^ ((n / 32).toNat+i.toNat)*c=vl (a.take i.toNat)*2 ^ (n % 32).toNat*4294967296 ^ (n / 32).toNat)/\m'=(a.length - i).toNat) ?_ (n:=_) ⟨0,0,List.replicate (n / 32).toNat 0,_,ny,ny,ny,ny,ny,mP,mP,mP,mP,mP,mP,mP,mP,rfl⟩;rintro m' ⟨t,H,k⟩ ⟨i,c,out,g,h0,h1,h5,h6,h7,cg,dH,eu,jT,gn,iL,lC,xd,hm⟩ next
  simp only at h0 h1 h5 h6 h7;refine nA (Kj h0 (Kj h1 (Kj h5 (Kj h6 (Kj h7 (Kj hv bW)))))) ?_;open Ya kU in exact bN
  done
 |fail):p:=h
end Yb
theorem vB{N:Int}{L:Nat}{v:PV}(n:Int)(h:ez N L v)(hl:L<=1073741824)(iv:0<=n)(gj:n<=68719476736):Pure ai X G 185 [v,.int .i64 n] (ez (N*2 ^ n.toNat) (L+(n / 32).toNat+1)):=by
 obtain⟨a,iR,mg,sD,rfl,uz⟩:=h;have hv:=iR.qe;have hd:=iR.deep;have bW:=iR.len;refine ay arm af ?_;refine nA (Kj hv (Kj hd bW)) ?_;open Yb Cq in exact bp
end
end Go.Pi
end
section
open Go Go.Pi
namespace Go.Pi
variable{p q a:Prop}
set_option maxRecDepth 100000
set_option maxHeartbeats 0
section
variable{X:aS}{G:Nat->PV}
namespace Yc
theorem eV(x:a)(g:q)(h:a->q->p:=by(intro x g;exact nA (Kj x (Kj h0 (Kj h1 (Kj h5 (Kj h6 (Kj h7 (Kj hv (Kj bW (Kj gv (Kj jV aI)))))))))) g)):p:=h x g
theorem xc(h:p:=by
 first
 |(refine next _ ?_ _ ⟨_,_,_,_,Ff,Ff,Ff,Ff,Ff,ot,ot,ot,ot,ot,ot,ot,rfl⟩;(first|exact wM|exact aX.nil|exact eb.nil|(simp[vl];done)|exact gn.snoc ad ad|(simp only[List.length_append,List.length_cons,List.length_nil];omega)|exact E8 hx (Qw dH ax) dH iL lC ad|exact E8 (y:=0) hx (Qx ad) dH iL lC ad|assumption))
 |fail):p:=h
end Yc
namespace Yd
theorem bx(x:a)(g:q)(h:a->q->p:=by(intro x g;exact nA (Kj x (Kj h0 (Kj h1 (Kj h5 (Kj h6 (Kj h7 (Kj hv (Kj bW (Kj gv (Kj jV aI)))))))))) g)):p:=h x g
theorem cw(h:p:=by
 first
 |((refine sy iR ad ad (fun x hx=>?_);have wP:=mg.get hx;refine nA (Kj h0 (Kj h1 (Kj h5 (Kj h6 (Kj h7 (Kj hv (Kj bW (Kj gv jV)))))))) ?_))<;>exact bN
 |((refine sy sC ad ad (fun y hy=>?_);have Ot:=yk.get hy;refine nA (Kj h0 (Kj h1 (Kj h5 (Kj h6 (Kj h7 (Kj hv (Kj bW (Kj gv jV)))))))) ?_))<;>exact bN
 |fail):p:=h
theorem iZ(h:p:=by
 first
 |skip
  skip;have Ye:aX [14006] H 28 1 g (fY out):=cg;refine Hs Ye (Ax Ye.nv gn ad) (fun r hr=>?_);have yj:=hr.deep;refine nA (Kj h0 (Kj h1 (Kj h5 (Kj h6 (Kj h7 (Kj hv (Kj bW (Kj gv (Kj jV yj))))))))) ?_;have e:vl out=vl a - vl b:=auO mg yk M5 aV gn ad jT (by rw[show i.toNat=a.length by omega,List.take_length]at lC;exact lC);rw[e]at hr;exact hr.mono ad;done
 |fail):p:=h
theorem nD(h:p:=by
 first
 |skip
  all_goals
   refine Di (A:=[14006]) (rid:=14005) (sB (Kj h0 (Kj h1 (Kj h5 (Kj h6 (Kj h7 (Kj hv (Kj bW (Kj gv jV))))))))) (sB (Kj h0 (Kj h1 (Kj h5 (Kj h6 (Kj h7 (Kj hv (Kj bW (Kj gv jV))))))))) (by refine nA (Kj h0 (Kj h1 (Kj h5 (Kj h6 (Kj h7 (Kj hv (Kj bW (Kj gv jV)))))))) ?_;exact cg.frame pU) af af ad ?_;intro v' H' fb bI hf fq;have:=fq rfl;subst this;refine nA (Kj h0 (Kj h1 (Kj h5 (Kj h6 (Kj h7 (Kj hv (Kj bW (Kj gv jV)))))))) ?_;open Yc in exact jr
  done
 |fail):p:=h
end Yd
namespace Yf
theorem bj(h:p:=by
 first
 |skip
  refine b5 (fun m' s'=>∃(i c:Int)(out:List Int)(g:PV),s'.t 0=v/\s'.t 1=u/\s'.t 5=g/\s'.t 6= .int .u64 c/\s'.t 7= .int .i64 i/\(aX [14006] s'.H 28 1 g (fY out))/\(0<=i)/\(i<=a.length)/\(c=0\/c=1)/\(eb out)/\(out.length=i.toNat)/\(vl out=vl (a.take i.toNat) - vl (b.take i.toNat)+c*4294967296 ^ i.toNat)/\m'=(a.length - i).toNat) ?_ (n:=_) ⟨0,0,[],.ah,vm,vm,vm,vm,vm,ot,ot,ot,ot,ot,ot,ot,rfl⟩;rintro m' ⟨t,H,k⟩ ⟨i,c,out,g,h0,h1,h5,h6,h7,cg,dH,eu,jT,gn,iL,lC,hm⟩ next
  simp only at h0 h1 h5 h6 h7;refine nA (Kj h0 (Kj h1 (Kj h5 (Kj h6 (Kj h7 (Kj hv (Kj bW (Kj gv jV)))))))) ?_;open Yd kU in exact bN
  done
 |fail):p:=h
end Yf
theorem auT{N M:Int}{L L2:Nat}{v u:PV}(h:ez N L v)(g:ez M L2 u)(aV:M<=N)(hl:L<=1073741824)(aW:L2<=1073741824):Pure ai X G 203 [v,u] (ez (N - M) L):=by
 obtain⟨a,iR,mg,sD,rfl,uz⟩:=h;obtain⟨b,sC,yk,M5,rfl,X1⟩:=g;have hv:=iR.qe;have hd:=iR.deep;have bW:=iR.len;have gv:=sC.qe;have gd:=sC.deep;have jV:=sC.len;refine ay arF af ?_;refine nA (Kj hv (Kj hd (Kj bW (Kj gv (Kj gd jV))))) ?_;open Yf LB in exact bp
end
end Go.Pi
end
section
open Go Go.Pi
namespace Go.Pi
variable{p q a:Prop}
set_option maxRecDepth 100000
set_option maxHeartbeats 0
section
variable{X:aS}{G:Nat->PV}
theorem ez.ym{N:Int}{L:Nat}{v:PV}(h:ez N L v):0<=N:=by
 obtain⟨a,h1,h2,h3,rfl,h5⟩:=h;exact Dg h2
theorem To(x:Int):x*2 ^ (min 1 64)=x*2:=rfl
namespace Yg
theorem bx(x:a)(g:q)(h:a->q->p:=by(intro x g;exact nA (Kj x (Kj h0 (Kj h1 (Kj h6 (Kj h7 (Kj bP (Kj gd (Kj o1 (Kj To aI))))))))) g)):p:=h x g
theorem gT(h:p:=by
 first
 |(refine next _ ?_ _ ⟨_,_,_,_,Js,Js,Js,Js,zC,zC,zC,zC,zC,rfl⟩;(first|exact wM|exact Qy hN hM b0 b2 BF BG|(simp;done)|exact Jo o1 jT|exact Qz o1 jT|exact QA o1 gn|exact QB o1 ad))
 |fail):p:=h
theorem cw(h:p:=by
 first
 |(refine aO (vB n g ad ad ad) pQ mM ?_;rintro x hx;have kD:=hx.deep;refine bx bP ?_;exact bN)
 |(refine aO (xG cg hx ad ad) pQ mM ?_;rintro _ ⟨c,rfl,hc⟩;have bP:=bP;refine bx bP ?_;exact bN)
 |(refine aO (auT cg hx ad ad ad) pQ mM ?_;rintro y hy;have ib:=hy.deep;refine bx bP ?_;exact bN)
 |fail):p:=h
end Yg
namespace Yh
theorem bx(x:a)(g:q)(h:a->q->p:=by(intro x g;exact nA (Kj x (Kj h0 (Kj h1 (Kj h6 (Kj h7 (Kj bP (Kj gd (Kj o1 aI)))))))) g)):p:=h x g
theorem gw(h:p:=by
 first
 |(exact⟨_,by rw[f1],by rw[<-f2];exact cg⟩)<;>exact bN
 |fail):p:=h
end Yh
namespace Yi
theorem aU(x:a)(g:q)(h:a->q->p:=by(intro x g;exact nA (Kj x (Kj hd (Kj gd aI))) g)):p:=h x g
theorem bj(h:p:=by
 first
 |skip
  rename_i nN b0 b1 b2 b3 gdd;obtain⟨BF,BG⟩:=Sr hM;refine b5 (fun m' s'=>∃(n q A:Int)(g':PV),s'.t 0=g'/\s'.t 1=u/\s'.t 6= .int .u64 q/\s'.t 7= .int .i64 n/\(ez A L g')/\(n<=nN)/\(0<=q)/\(N=q*2 ^ (n+1).toNat*M+A)/\(A<2 ^ (n+1).toNat*M)/\m'=(n+1).toNat) ?_ (n:=_) ⟨_,0,N,v,bV,bV,bV,bV,zC,zC,zC,zC,zC,rfl⟩;rintro m' ⟨t,H,k⟩ ⟨n,q,A,g',h0,h1,h6,h7,cg,dH,eu,jT,gn,hm⟩ next
  simp only at h0 h1 h6 h7;refine nA (Kj h0 (Kj h1 (Kj h6 h7))) ?_;have hA:=cg.ym;have bP:=cg.deep;have hpw:(0:Int)<2 ^ n.toNat:=Int.pow_pos aJ;by_cases o1:n≥0
  ·have hqb:=X5 (M6 o1 jT) hA hM hpw ad;have hqc:M*2 ^ n.toNat<=A->q*2+1<=N / M:=fun h=>X5 (Jo o1 jT) ad hM (Int.pow_pos aJ) ad
   open Yg in exact bN
  ·obtain⟨f1,f2⟩:=auP o1 jT hA gn;open Yh in exact bN
  done
 |fail):p:=h
end Yi
theorem auW{N M:Int}{L L2:Nat}{v u:PV}(h:ez N L v)(g:ez M L2 u)(hM:0<M)(hq:N / M<18446744073709551616)(hl:L<=134217728)(aW:L2<=134217728):Pure ai X G 184 [v,u] (fun r=>∃w,r= .bZ [.int .u64 (N / M),w]/\ez (N % M) L w):=by
 have hN:=h.ym;have hd:=h.deep;have gd:=g.deep;refine ay arl af ?_;refine nA (Kj hd gd) ?_;open Yi LC in exact bp
theorem F3{N M:Int}{L L2:Nat}{v u:PV}(h:ez N L v)(g:ez M L2 u)(hM:0<M)(hq:N / M<18446744073709551616)(hl:L<=134217728)(aW:L2<=134217728):
 Pure ai X G 184 [v,u] (fun r=>∃q m w,r= .bZ [.int .u64 q,w]/\q=N / M/\m=N % M/\ez m L w/\0<=q/\q<18446744073709551616):=by
 obtain⟨r,c,hf,w,rfl,hw⟩:=auW (X:=X) (G:=G) h g hM hq hl aW;exact⟨_,c,hf,_,_,w,rfl,rfl,rfl,hw,Int.ediv_nonneg h.ym (Int.le_of_lt hM),hq⟩
end
end Go.Pi
end
section
namespace Go.Pi
def PP:Nat:=2 ^ 1074
theorem uA:((PP:Nat):Int)=2 ^ 1074:=by unfold PP;exact Int.natCast_pow 2 1074
theorem Hu:(0:Int)<(PP:Nat):=by rw[uA];exact Int.pow_pos (by decide)
theorem nM(n:Nat):(0:Int)<2 ^ n:=Int.pow_pos (by decide)
def ex(e:Int):Nat:=(e+1074).toNat
theorem au6{M e:Int}(he:e>0):M*2 ^ ex e=M*2 ^ e.toNat*(PP:Nat):=by
 rw[uA,Int.mul_assoc,<-Int.pow_add];congr 2;unfold ex;omega
theorem au7{N e:Int}(he:¬e>0)(h:-1074<=e):N*(PP:Nat)=N*2 ^ (-e).toNat*2 ^ ex e:=by
 rw[uA,Int.mul_assoc,<-Int.pow_add];congr 2;unfold ex;omega
structure nO(N M e x y c:Int):Prop where
 pos:0<c
 num:N*(PP:Nat)=x*c
 den:M*2 ^ ex e=y*c
theorem nO.up{N M e:Int}(he:e>0):nO N M e N (M*2 ^ e.toNat) (PP:Nat):=⟨Hu,rfl,au6 he⟩
theorem nO.down{N M e:Int}(he:¬e>0)(h:-1074<=e):nO N M e (N*2 ^ (-e).toNat) M (2 ^ ex e):=⟨nM _,au7 he h,rfl⟩
structure pY(N M e:Int)(f:Nat):Prop where
 least:-1074<=e
 ge:e=-1074\/9007199254740992*(M*2 ^ ex (e - 1))<=N*(PP:Nat)
 lt:f<=1/\(f=0->N*(PP:Nat)<9007199254740992*(M*2 ^ ex e))/\N*(PP:Nat)<18014398509481984*(M*2 ^ ex e)
theorem nO.M7{N M e x y c K:Int}(h:nO N M e x y c)(hy:0<y)(hx:0<=x)(cE:N*(PP:Nat)<K*(M*2 ^ ex e)):x / y<K:=by
 rw[h.num,h.den,<-Int.mul_assoc]at cE;have:=Int.lt_of_mul_lt_mul_right cE (Int.le_of_lt h.pos);exact Int.ediv_lt_of_lt_mul hy this
theorem nO.au8{N M e x y c K:Int}(h:nO N M e x y c)(hy:0<y)(hq:K<=x / y):K*(M*2 ^ ex e)<=N*(PP:Nat):=by
 rw[h.num,h.den,<-Int.mul_assoc];have:=(Int.le_ediv_iff_mul_le hy).1 hq;exact Int.mul_le_mul_of_nonneg_right this (Int.le_of_lt h.pos)
theorem nO.Yq{N M e x y c K:Int}(h:nO N M e x y c)(hy:0<y)(cE:K*(M*2 ^ ex e)<=N*(PP:Nat)):K<=x / y:=by
 rw[h.num,h.den,<-Int.mul_assoc]at cE;exact(Int.le_ediv_iff_mul_le hy).2 (Int.le_of_mul_le_mul_right cE h.pos)
theorem Yr{e:Int}(h:-1074<=e):ex (e+1)=ex e+1:=by unfold ex;omega
theorem Ys{e:Int}(h:-1074<e):ex e=ex (e - 1)+1:=by unfold ex;omega
theorem pY.next{N M e x y c:Int}{f:Nat}(h:pY N M e f)(s:nO N M e x y c)(hy:0<y)(hx:0<=x)(hq:x / y≥9007199254740992):pY N M (e+1) 0/\f=1:=by
 refine⟨⟨by have:=h.least;omega,.inr ?_,by omega,fun _=>?_,?_⟩,?_⟩
 ·rw[show e+1 - 1=e by omega];exact s.au8 hy hq
 ·have:=h.lt.2.2;rw[Yr h.least,Int.pow_succ];have e1:9007199254740992*(M*(2 ^ ex e*2))=18014398509481984*(M*2 ^ ex e):=by grind
  rw[e1];exact this
 ·have:=h.lt.2.2;rw[Yr h.least,Int.pow_succ];have e1:18014398509481984*(M*(2 ^ ex e*2))=2*(18014398509481984*(M*2 ^ ex e)):=by grind
  have h2:0<=N*(PP:Nat):=by rw[s.num];exact Int.mul_nonneg hx (Int.le_of_lt s.pos)
  omega
 ·rcases Nat.lt_or_ge f 1 with h2|h2
  ·have:=s.M7 hy hx (h.lt.2.1 (by omega));omega
  ·have:=h.lt.1;omega
theorem pY.first{N M n m e:Int}(hN:0<N)(hM:0<M)(hn:1<=n)(h1:N<2 ^ n.toNat)(h2:2 ^ (n - 1).toNat<=N)(hm:1<=m)(g1:M<2 ^ m.toNat)(g2:2 ^ (m - 1).toNat<=M)(he:e=if -1074>n - m - 53 then -1074 else n - m - 53):pY N M e 1:=by
 have hP:=Hu;have sF:N*(PP:Nat)<18014398509481984*(M*2 ^ ex e):=by
  have k1:N*(PP:Nat)<2 ^ n.toNat*(PP:Nat):=Int.mul_lt_mul_of_pos_right h1 hP;have k2:(2:Int) ^ (m - 1).toNat*(18014398509481984*2 ^ ex e)<=M*(18014398509481984*2 ^ ex e):=Int.mul_le_mul_of_nonneg_right g2 (by have:=nM (ex e);omega);have k3:(2:Int) ^ n.toNat*(PP:Nat)<=2 ^ (m - 1).toNat*(18014398509481984*2 ^ ex e):=by
   have e54:(18014398509481984:Int)=2 ^ 54:=by decide
   rw[uA,e54,<-Int.pow_add,<-Int.pow_add,<-Int.pow_add];obtain⟨k,hk⟩:∃k,(m - 1).toNat+(54+ex e)=n.toNat+1074+k:=⟨(m - 1).toNat+(54+ex e) - (n.toNat+1074),by unfold ex;split at he<;>omega⟩;rw[hk,Int.pow_add 2 (n.toNat+1074)];have h6:=nM k;have h7:(2:Int) ^ (n.toNat+1074)*1<=2 ^ (n.toNat+1074)*2 ^ k:=Int.mul_le_mul_of_nonneg_left (by omega) (Int.le_of_lt (nM _));omega
  have e2:M*(18014398509481984*2 ^ ex e)=18014398509481984*(M*2 ^ ex e):=by grind
  omega
 refine⟨by split at he<;>omega,?_,by omega,by omega,sF⟩;split at he
 ·exact .inl he
 ·rcases Int.lt_or_le (-1074) e with h|h
  ·refine .inr ?_;have k1:(2:Int) ^ (n - 1).toNat*(PP:Nat)<=N*(PP:Nat):=Int.mul_le_mul_of_nonneg_right h2 (Int.le_of_lt hP);have k2:M*(9007199254740992*2 ^ ex (e - 1))<=2 ^ m.toNat*(9007199254740992*2 ^ ex (e - 1)):=Int.mul_le_mul_of_nonneg_right (Int.le_of_lt g1) (by have:=nM (ex (e - 1));omega);have k3:(2:Int) ^ m.toNat*(9007199254740992*2 ^ ex (e - 1))=2 ^ (n - 1).toNat*(PP:Nat):=by
    have M8:(9007199254740992:Int)=2 ^ 53:=by decide
    rw[uA,M8,<-Int.pow_add,<-Int.pow_add,<-Int.pow_add];congr 1;unfold ex;omega
   have e2:M*(9007199254740992*2 ^ ex (e - 1))=9007199254740992*(M*2 ^ ex (e - 1)):=by grind
   omega
  ·exact .inl (by omega)
theorem pY.jJ{N M e x y c q2 v:Int}{f:Nat}(hN:0<=N)(hM:0<M)(h:pY N M e f)(s:nO N M e x y c)(hy:0<y)(hx:0<=x)(hq:¬x / y≥9007199254740992)
 (eu:q2=if y<x % y*2\/x % y*2=y/\x / y % 2=1 then x / y+1 else x / y)(hv:v=min (ex e*4503599627370496+q2) (2047*4503599627370496)):yo PP N.toNat M.toNat v.toNat:=by
 have eN:((N.toNat:Nat):Int)=N:=Int.toNat_of_nonneg hN;have eM:((M.toNat:Nat):Int)=M:=Int.toNat_of_nonneg (Int.le_of_lt hM);have cE:N*(PP:Nat)<9007199254740992*(M*2 ^ ex e):=by
  rcases Int.lt_or_le (N*(PP:Nat)) (9007199254740992*(M*2 ^ ex e))with h|h
  ·exact h
  ·exact absurd (s.Yq hy h) hq
 have fc:Dk PP N.toNat M.toNat (ex e):=by
  constructor
  ·have:((N.toNat*PP:Nat):Int)<((9007199254740992*(M.toNat*2 ^ ex e):Nat):Int):=by
    simp only[Int.natCast_mul,Int.natCast_pow,eN,eM];exact cE
   omega
  ·rcases h.ge with h1|h1
   ·left;unfold ex;omega
   ·rcases Int.lt_or_le (-1074) e with h2|h2
    ·refine .inr ⟨ex (e - 1),Ys h2,?_⟩;have:((9007199254740992*(M.toNat*2 ^ ex (e - 1)):Nat):Int)<=((N.toNat*PP:Nat):Int):=by
      simp only[Int.natCast_mul,Int.natCast_pow,eN,eM];exact h1
     omega
    ·left;unfold ex;omega
 have hD:(0:Int)<M*2 ^ ex e:=Int.mul_pos hM (nM _);have Yt:N*(PP:Nat) / (M*2 ^ ex e)=x / y:=by
  rw[s.num,s.den];exact Int.mul_ediv_mul_of_pos_left _ _ s.pos
 have Yu:N*(PP:Nat) % (M*2 ^ ex e)=x % y*c:=by
  rw[s.num,s.den,Int.mul_comm x c,Int.mul_comm y c,Int.mul_emod_mul_of_pos _ _ s.pos,Int.mul_comm]
 obtain⟨Nn,Yv⟩:∃k:Nat,k=N.toNat*PP:=⟨_,rfl⟩;obtain⟨D,M9⟩:∃k:Nat,k=M.toNat*2 ^ ex e:=⟨_,rfl⟩;have iN:((Nn:Nat):Int)=N*(PP:Nat):=by rw[Yv,Int.natCast_mul,eN]
 have iD:((D:Nat):Int)=M*2 ^ ex e:=by rw[M9,Int.natCast_mul,eM,Int.natCast_pow];rfl
 have iq:((Nn / D:Nat):Int)=x / y:=by rw[Int.natCast_ediv,iN,iD,Yt]
 have ir:((Nn % D:Nat):Int)=x % y*c:=by rw[Int.natCast_emod,iN,iD,Yu]
 have xL:0<=x / y:=Int.ediv_nonneg hx (Int.le_of_lt hy);have hc:=s.pos;have Dm:((D:Nat):Int)=y*c:=by rw[iD,s.den]
 have c1:D<2*(Nn % D)↔y<x % y*2:=by
  constructor
  ·intro h;have h':((D:Nat):Int)<2*((Nn % D:Nat):Int):=by omega
   rw[Dm,ir,show 2*(x % y*c)=x % y*2*c by grind]at h';exact Int.lt_of_mul_lt_mul_right h' (Int.le_of_lt hc)
  ·intro h;have h':y*c<x % y*2*c:=Int.mul_lt_mul_of_pos_right h hc;rw[show x % y*2*c=2*(x % y*c)by grind,<-Dm,<-ir]at h';omega
 have c2:2*(Nn % D)=D↔x % y*2=y:=by
  constructor
  ·intro h;have h':2*((Nn % D:Nat):Int)=((D:Nat):Int):=by omega
   rw[Dm,ir,show 2*(x % y*c)=x % y*2*c by grind]at h';exact Int.eq_of_mul_eq_mul_right (by omega) h'
  ·intro h;have h':x % y*2*c=y*c:=by rw[h]
   rw[show x % y*2*c=2*(x % y*c)by grind,<-Dm,<-ir]at h';omega
 have c3:Nn / D % 2=1↔x / y % 2=1:=by omega
 refine au5 (q2:=q2.toNat) fc rfl rfl ?_ ?_
 ·rw[<-Yv,<-M9,eu];by_cases jk:y<x % y*2\/x % y*2=y/\x / y % 2=1
  ·rw[if_pos jk,if_pos (by rw[c1,c2,c3];exact jk)];omega
  ·rw[if_neg jk,if_neg (by rw[c1,c2,c3];exact jk)];omega
 ·have ava:0<=q2:=by rw[eu];split<;>omega
  rw[hv];clear fc hD iD Yt Yu Dm c1 c2 c3 ir iq iN cE s h M9;generalize ex e=E;obtain⟨k,rfl⟩:=Int.eq_ofNat_of_zero_le ava;rw[show min ((E:Int)*4503599627370496+(k:Int)) (2047*4503599627370496)=((min (E*4503599627370496+k) (2047*4503599627370496):Nat):Int)from ?_]
  ·rw[Int.toNat_natCast,Int.toNat_natCast]
  ·generalize hz:E*4503599627370496+k=z;have lD:(E:Int)*4503599627370496+(k:Int)=(z:Int):=by rw[<-hz,Int.natCast_add,Int.natCast_mul];rfl
   rw[lD];rw[show(2047*4503599627370496:Int)=((9218868437227405312:Nat):Int)from rfl,show(2047*4503599627370496:Nat)=9218868437227405312 from rfl];clear hz lD;generalize (9218868437227405312:Nat)=w;omega
theorem pY.Yw{N M e x y c:Int}{f:Nat}(h:pY N M e f)(s:nO N M e x y c)(hy:0<y):e=-1074\/4503599627370496<=x / y:=by
 rcases h.ge with h1|h1
 ·exact .inl h1
 ·rcases Int.lt_or_le (-1074) e with h2|h2
  ·refine .inr (s.Yq hy ?_);rw[Ys h2,Int.pow_succ,show 4503599627370496*(M*(2 ^ ex (e - 1)*2))=9007199254740992*(M*2 ^ ex (e - 1))by grind];exact h1
  ·exact .inl (by have:=h.least;omega)
theorem ai0{e:Int}(h:-1074<=e):((ex e:Nat):Int)=e+1074:=by unfold ex;omega
end Go.Pi
end
section
open Go Go.Pi
namespace Go.Pi
variable{p q a:Prop}
set_option maxRecDepth 100000
set_option maxHeartbeats 0
section
variable{X:aS}{G:Nat->PV}
def Ay(N M:Int)(r:PV):Prop:=∃v,r= .int .u64 v/\0<=v/\v<18446744073709551616/\yo PP N.toNat M.toNat v.toNat
theorem Ay.zero{M:Int}(hM:0<M):Ay 0 M (.int .u64 0):=by
 have hD:0<M.toNat*2 ^ 0:=by omega
 refine⟨0,rfl,ad,ad,0,⟨zX,.inl rfl⟩,?_⟩;simp[Dl]
namespace Yx
theorem cw(h:p:=by
 first
 |(refine aO (vB e g ad ad ad) pQ mM ?_;rintro xx bX;have bP:=bX.deep;refine bx bP ?_;exact bN)
 |(refine aO (F3 h bX hy ad ad ad) pQ mM ?_;rintro _ ⟨q,m,w,rfl,ou,tD,hw,avb,avc⟩;rw[<-ou]at Na Nb;have bP:=hw.deep;refine bx bP ?_;exact bN)
 |exact J8
 |(refine aO (xG me bX ad ad) pQ mM ?_;rintro _ ⟨c,rfl,hc⟩;rw[show(2:Int) ^ (1:Int).toNat=2 from rfl]at hc;have bP:=hd;refine bx bP ?_;exact bN)
 |fail):p:=h
end Yx
namespace Yy
theorem cw(h:p:=by
 first
 |(refine aO (vB (-e) h ad ad ad) pQ mM ?_;rintro xx bX;have bP:=bX.deep;refine bx bP ?_;exact bN)
 |(refine aO (F3 bX g hy ad ad ad) pQ mM ?_;rintro _ ⟨q,m,w,rfl,ou,tD,hw,avb,avc⟩;rw[<-ou]at Na Nb;have bP:=hw.deep;refine bx bP ?_;exact bN)
 |exact J8
 |(refine aO (xG me g ad ad) pQ mM ?_;rintro _ ⟨c,rfl,hc⟩;rw[show(2:Int) ^ (1:Int).toNat=2 from rfl]at hc;have bP:=hd;refine bx bP ?_;exact bN)
 |fail):p:=h
end Yy
namespace Yz
theorem aU(x:a)(g:q)(h:a->q->p:=by(intro x g;exact nA (Kj x (Kj hd (Kj gd (Kj hv (Kj bW aI))))) g)):p:=h x g
theorem cr(h:p:=by
 first
 |((have e:a=[]:=List.eq_nil_of_length_eq_zero ad;subst e;simp only[vl]at ha;subst ha;exact Ay.zero hM))<;>exact bp
 |fail):p:=h
theorem bj(h:p:=by
 first
 |skip
  rename_i nN b0 b1 b2 b3 gdd;have Fb:0<N:=by
   rcases Int.lt_or_le 0 N with h1|h1
   ·exact h1
   ·have:=XJ mg sD ad;subst this;simp at*
  obtain⟨BF,BG⟩:=Sr hM;obtain⟨d1,d2⟩:=b3 Fb;refine b5 (fun m' s'=>∃(e:Int)(f:Nat),s'.t 0=v/\s'.t 1=u/\s'.t 5= .int .i64 e/\(pY N M e f)/\(e<=32*L+1 - f)/\m'=f) ?_ (n:=_) ⟨_,1,bV,bV,bV,zO,zO,rfl⟩;rintro m' ⟨t,H,k⟩ ⟨e,f,h0,h1,h5,cg,dH,hm⟩ next
  simp only at h0 h1 h5;refine nA (Kj h0 (Kj h1 h5)) ?_;have QN:=cg.least;have Mk:=cg.lt.1;by_cases LF:e>0
  ·have sc:=nO.up (N:=N) (M:=M) LF;have hy:0<M*2 ^ e.toNat:=Int.mul_pos hM (nM _);have bY:=hN;have Na:=sc.M7 hy bY cg.lt.2.2;have Nb:=cg.Yw sc hy;open Yx LD LG LH in exact bN
  ·have sc:=nO.down (N:=N) (M:=M) LF QN;have hy:=hM;have bY:0<=N*2 ^ (-e).toNat:=Int.mul_nonneg hN (Int.le_of_lt (nM _));have Na:=sc.M7 hy bY cg.lt.2.2;have Nb:=cg.Yw sc hy;open Yy LD LG LH in exact bN
  done
 |fail):p:=h
end Yz
theorem Dn{N M:Int}{L L2:Nat}{v u:PV}(h:ez N L v)(g:ez M L2 u)(hM:0<M)(hl:L<=33554432)(aW:L2<=33554432):Pure ai X G 204 [v,u] (Ay N M):=by
 have hN:=h.ym;have hd:=h.deep;have gd:=g.deep;have h':=h;obtain⟨a,iR,mg,sD,ha,uz⟩:=h';have hv:=iR.qe;have bW:=iR.len;refine ay arG af ?_;refine nA (Kj hd (Kj gd (Kj hv bW))) ?_;open Yz LC in exact bp
end
end Go.Pi
end
section
namespace Go.Pi
def nP(a:List Int):List PV:=a.map fun x=> .int .u64 x
theorem YA(a:List Int):(fY a).flatten=nP a:=by
 induction a with
 |nil=>rfl
 |cons x xs ih=>simp only[fY,nP,List.map_cons,List.flatten_cons]at*;rw[ih];rfl
theorem avd(a:List Int):(nP a).length=a.length:=by simp[nP]
theorem ov(n:Nat):(List.replicate n [PV.int .u64 0]).flatten=nP (List.replicate n 0):=by rw[<-YA];exact(X4 n).symm
theorem ave{a:List Int}{k:Nat}{y:Int}(hk:k<a.length):io (nP a) k [.int .u64 y]=nP (a.set k y):=by
 simp only[io,nP,List.map_set,List.length_cons,List.length_nil,Nat.zero_add];rw[List.set_eq_take_append_cons_drop,if_pos (by simpa using hk)];simp
theorem avf{a:List Int}{k:Nat}{y:Int}(hk:k<a.length):List.take (k*1) (nP a)++[PV.int .u64 y]++List.drop (k*1+1) (nP a)=nP (a.set k y):=by
 rw[Nat.mul_one];exact ave hk
theorem aX.nP{H:al}{id st:Nat}{A:List Nat}{a:List Int}(hA:id∈A)(hH:H id=some ⟨28,st,nP a,1⟩):aX A H 28 1 (.row id st a.length) (fY a):=
 ⟨fun y hy=>by
  simp only[fY,List.mem_map]at hy;obtain⟨x,_,rfl⟩:=hy;exact⟨rfl,rfl⟩,.inr ⟨id,st,hA,by rw[M3],by rw[YA];exact hH⟩⟩
theorem eb.set{a:List Int}{k:Nat}{y:Int}(h:eb a)(h0:0<=y)(h1:y<4294967296):eb (a.set k y):=by
 intro x hx;rcases List.mem_or_eq_of_mem_set hx with hx|hx
 ·exact h x hx
 ·subst hx;exact⟨h0,h1⟩
theorem Qv{a nx:List Int}{k x r:Int}(hk:0<=k)(hx:a[k.toNat]?=some x)(hl:nx.length=a.length)(h:vl (a.drop (k+1).toNat)=10*vl (nx.drop (k+1).toNat)+r):
 vl (a.drop (k - 1+1).toNat)=10*vl ((nx.set k.toNat ((r*4294967296+x) / 10)).drop (k - 1+1).toNat)+(r*4294967296+x) % 10:=by
 have ha:k.toNat<a.length:=by
  rcases Nat.lt_or_ge k.toNat a.length with h2|h2
  ·exact h2
  ·rw[List.getElem?_eq_none h2]at hx;cases hx
 rw[show(k - 1+1).toNat=k.toNat by omega];rw[show(k+1).toNat=k.toNat+1 by omega]at h;rw[List.getElem?_eq_getElem ha]at hx;rw[List.drop_eq_getElem_cons ha,Option.some.inj hx,List.drop_eq_getElem_cons (l:=nx.set k.toNat _) (by simp;omega),List.getElem_set_self,List.drop_set_of_lt (by omega)];simp only[vl];rw[h];omega
theorem avg{a nx:List Int}{k r:Int}(hk:¬k≥0)(h:vl (a.drop (k+1).toNat)=10*vl (nx.drop (k+1).toNat)+r):vl a=10*vl nx+r:=by
 rw[show(k+1).toNat=0 by omega]at h;simpa using h
theorem avh{i K:Nat}{n N:Int}(hn:0<n)(h:n*10 ^ i<=N)(hK:N<10 ^ K):i<K:=by
 rcases Nat.lt_or_ge i K with h2|h2
 ·exact h2
 ·exfalso;obtain⟨c,rfl⟩:∃c,i=K+c:=⟨i - K,by omega⟩;have h1:(0:Int)<10 ^ (K+c):=Int.pow_pos (by decide);have h3:(1:Int)*10 ^ (K+c)<=n*10 ^ (K+c):=Int.mul_le_mul_of_nonneg_right (by omega) (by omega);have h4:(0:Int)<10 ^ c:=Int.pow_pos (by decide);have h5:(10:Int) ^ K*1<=10 ^ K*10 ^ c:=Int.mul_le_mul_of_nonneg_left (by omega) (Int.le_of_lt (Int.pow_pos (by decide)));rw[Int.pow_add]at h3;rw[Int.pow_add]at h;omega
theorem avi{i:Nat}{n m r N:Int}(hr:0<=r)(e:n=10*m+r)(h:n*10 ^ i<=N):m*10 ^ (1+i)<=N:=by
 have h1:(0:Int)<10 ^ i:=Int.pow_pos (by decide);have h3:10*m*10 ^ i<=n*10 ^ i:=Int.mul_le_mul_of_nonneg_right (by omega) (by omega);rw[Nat.add_comm,Int.pow_succ,show m*(10 ^ i*10)=10*m*10 ^ i by grind];omega
theorem avj{a:List Int}{L:Nat}(ha:eb a)(hl:a.length<=L):vl a<10 ^ (10*L):=by
 have h1:=Dh ha;have h2:=M2 hl;have h3:(4294967296:Int) ^ L<=10 ^ (10*L):=by
  rw[Int.pow_mul];have:(10:Int) ^ 10=10000000000:=by decide
  rw[this];clear h1 h2 hl
  induction L with
  |zero=>simp
  |succ n ih=>
   rw[Int.pow_succ,Int.pow_succ];exact Int.mul_le_mul ih (by decide) (by decide) (Int.le_of_lt (Int.pow_pos (by decide)))
 omega
end Go.Pi
end
section
namespace Go.Pi
def bE(b:Int):Nat:=((if b / 4503599627370496=0 then 1 else b / 4503599627370496) - 1).toNat
def bM(b:Int):Int:=if b / 4503599627370496=0 then b % 4503599627370496 else b % 4503599627370496+4503599627370496
theorem Ng{b:Int}(h0:0<b)(h1:b<9218868437227405312):(bE b:Int)*4503599627370496+bM b=b/\0<bM b/\bM b<9007199254740992/\(bE b=0\/4503599627370496<=bM b)/\bE b<=2045:=by
 unfold bE bM;split<;>omega
theorem qf(n:Nat):(0:Int)<10 ^ n:=Int.pow_pos (by decide)
theorem Hx{a b c:Nat}(h:c=a+b):(10:Int) ^ c=10 ^ a*10 ^ b:=by rw[h,Int.pow_add]
theorem avD(n:Nat):((10:Int) ^ n).toNat=10 ^ n:=by
 have:((10 ^ n:Nat):Int)=(10:Int) ^ n:=Int.natCast_pow 10 n;rw[<-this,Int.toNat_natCast]
theorem Hy{A B b n v:Int}(dX:0<b)(dG:b<9218868437227405312)(uC:0<=A)(hB:0<B)(po:A*(PP:Nat)=bM b*2 ^ bE b*B)(hv:0<=v)
 (yq:1<=n->B*10 ^ (n - 1).toNat<=A)(Az:n<=0->B<=A*10 ^ (1 - n).toNat){x y q Q:Int}(hx:x=A*10 ^ (17 - n).toNat)(hy:y=B*10 ^ (n - 17).toNat)(hq:q=x / y)(hQ:Q=if y<=x % y*2 then q+1 else q)
 (hr:yo PP (Q*10 ^ (n - 17).toNat).toNat ((10:Int) ^ (17 - n).toNat).toNat v.toNat):v=b:=by
 obtain⟨e1,e2,e3,e4,e5⟩:=Ng dX dG;obtain⟨a,rfl⟩:=Int.eq_ofNat_of_zero_le uC;obtain⟨d,rfl⟩:=Int.eq_ofNat_of_zero_le (Int.le_of_lt hB);obtain⟨m,hm⟩:=Int.eq_ofNat_of_zero_le (Int.le_of_lt e2);have hd:0<d:=by omega
 have Zc:a*PP=m*2 ^ bE b*d:=by
  rw[hm]at po;have:((a*PP:Nat):Int)=((m*2 ^ bE b*d:Nat):Int):=by
   rw[Int.natCast_mul,Int.natCast_mul,Int.natCast_mul,Int.natCast_pow];exact po
  omega
 rw[avD]at hr;have key:v.toNat=bE b*4503599627370496+m:=by
  rcases Int.lt_or_le 17 n with cM|cM
  ·have xK:(17 - n).toNat=0:=by omega
   obtain⟨i,hi⟩:∃i,(n - 17).toNat=i:=⟨_,rfl⟩;rw[xK,Int.pow_zero,Int.mul_one]at hx;rw[hi]at hy hr;rw[xK,Nat.pow_zero]at hr;have lJ:=yq (by omega);rw[Hx (show(n - 1).toNat=16+i by omega)]at lJ;subst hx hy;have ey:((d:Int)*10 ^ i)=((d*10 ^ i:Nat):Int):=by rw[Int.natCast_mul,Int.natCast_pow];rfl
   rw[ey]at hq hQ;have eQ:Q=((if d*10 ^ i<=2*(a % (d*10 ^ i))then a / (d*10 ^ i)+1 else a / (d*10 ^ i):Nat):Int):=by
    rw[hQ,hq,<-Int.natCast_ediv,<-Int.natCast_emod];split
    ·rename_i h;rw[if_pos (by omega)];rfl
    ·rename_i h;rw[if_neg (by omega)]
   have Bw:Q*(10:Int) ^ i=((Q.toNat*10 ^ i:Nat):Int):=by
    rw[Int.natCast_mul,Int.natCast_pow,Int.toNat_of_nonneg (by rw[eQ];omega)];rfl
   rw[Bw,Int.toNat_natCast]at hr;refine au3 (P:=PP) (Q:=Q.toNat) (i:=i) hd Zc (by omega) (by omega) e5 ?_ (by rw[eQ,Int.toNat_natCast]) hr;have:((10000000000000000*10 ^ i*d:Nat):Int)<=(a:Int):=by
    rw[Int.natCast_mul,Int.natCast_mul,Int.natCast_pow];have Hz:(10:Int) ^ 16=10000000000000000:=by decide
    rw[Hz]at lJ;have:((10000000000000000:Nat):Int)*((10:Nat):Int) ^ i*(d:Int)=(d:Int)*(10000000000000000*10 ^ i):=by
     rw[show((10:Nat):Int)=10 from rfl,show((10000000000000000:Nat):Int)=10000000000000000 from rfl];grind
    omega
   omega
  ·have xK:(n - 17).toNat=0:=by omega
   obtain⟨j,hj⟩:∃j,(17 - n).toNat=j:=⟨_,rfl⟩;rw[xK,Int.pow_zero,Int.mul_one]at hy;rw[hj]at hx hr;rw[xK,Int.pow_zero,Int.mul_one]at hr;have lJ:(d:Int)*10000000000000000<=a*10 ^ j:=by
    have Hz:(10:Int) ^ 16=10000000000000000:=by decide
    rcases Int.lt_or_le 0 n with h|h
    ·have h1:=yq (by omega);have h2:=Int.mul_le_mul_of_nonneg_right h1 (Int.le_of_lt (qf j));rw[Int.mul_assoc,<-Int.pow_add,show(n - 1).toNat+j=16 by omega,Hz]at h2;exact h2
    ·have h1:=Az (by omega);have h2:=Int.mul_le_mul_of_nonneg_right h1 (Int.le_of_lt (qf 16));rw[Int.mul_assoc (a:Int),<-Int.pow_add,show(1 - n).toNat+16=j by omega,Hz]at h2;exact h2
   subst hx hy;have xJ:((a:Int)*10 ^ j)=((a*10 ^ j:Nat):Int):=by rw[Int.natCast_mul,Int.natCast_pow];rfl
   rw[xJ]at hq hQ lJ;have eQ:Q=((if d<=2*(a*10 ^ j % d)then a*10 ^ j / d+1 else a*10 ^ j / d:Nat):Int):=by
    rw[hQ,hq,<-Int.natCast_ediv,<-Int.natCast_emod];split
    ·rename_i h;rw[if_pos (by omega)];rfl
    ·rename_i h;rw[if_neg (by omega)]
   refine au4 (P:=PP) (Q:=Q.toNat) (j:=j) hd Zc (by omega) (by omega) e5 (by omega) (by rw[eQ,Int.toNat_natCast]) hr
 omega
set_option exponentiation.threshold 2000 in
theorem Zd:(2:Int) ^ 1300<=10 ^ 400:=by
 have h:2 ^ 1300<=10 ^ 400:=by
  rw[show 1300=13*100 from rfl,show 400=4*100 from rfl,Nat.pow_mul,Nat.pow_mul];exact Nat.pow_le_pow_left (by decide) 100
 have h2:((2 ^ 1300:Nat):Int)<=((10 ^ 400:Nat):Int):=Int.ofNat_le.2 h;rw[Int.natCast_pow,Int.natCast_pow]at h2;exact h2
theorem Ze{a b:Nat}(h:a<=b):(2:Int) ^ a<=2 ^ b:=by
 obtain⟨k,rfl⟩:∃k,b=a+k:=⟨b - a,by omega⟩;rw[Int.pow_add];have h6:=nM k;have h7:(2:Int) ^ a*1<=2 ^ a*2 ^ k:=Int.mul_le_mul_of_nonneg_left (by omega) (Int.le_of_lt (nM _));omega
theorem avE{A B b:Int}(dX:0<b)(dG:b<9218868437227405312)(hB:0<B)(po:A*(PP:Nat)=bM b*2 ^ bE b*B){n:Int}(h:B*10 ^ n.toNat<=A):n<400:=by
 obtain⟨e1,e2,e3,e4,e5⟩:=Ng dX dG;rcases Int.lt_or_le n 400 with h4|h4
 ·exact h4
 ·exfalso;have hP:=Hu;have k1:B*10 ^ n.toNat*(PP:Nat)<=bM b*2 ^ bE b*B:=by rw[<-po];exact Int.mul_le_mul_of_nonneg_right h (Int.le_of_lt hP)
  have k2:bM b*2 ^ bE b<2 ^ 53*2 ^ 2045:=by
   have h5:(2:Int) ^ bE b<=2 ^ 2045:=by
    obtain⟨k,hk⟩:∃k,2045=bE b+k:=⟨2045 - bE b,by omega⟩;rw[hk,Int.pow_add];have h6:=nM k;have h7:(2:Int) ^ bE b*1<=2 ^ bE b*2 ^ k:=Int.mul_le_mul_of_nonneg_left (by omega) (Int.le_of_lt (nM _));omega
   have M8:(2:Int) ^ 53=9007199254740992:=by decide
   have h8:bM b*2 ^ bE b<9007199254740992*2 ^ bE b:=Int.mul_lt_mul_of_pos_right e3 (nM _);have h9:(9007199254740992:Int)*2 ^ bE b<=9007199254740992*2 ^ 2045:=Int.mul_le_mul_of_nonneg_left h5 (by omega);rw[M8];exact Int.lt_of_lt_of_le h8 h9
  have k3:(2:Int) ^ 53*2 ^ 2045<=10 ^ n.toNat*(PP:Nat):=by
   have h5:(10:Int) ^ 400<=10 ^ n.toNat:=by
    obtain⟨k,hk⟩:∃k,n.toNat=400+k:=⟨n.toNat - 400,by omega⟩;rw[hk,Int.pow_add];have h6:=qf k;have h7:(10:Int) ^ 400*1<=10 ^ 400*10 ^ k:=Int.mul_le_mul_of_nonneg_left (by omega) (Int.le_of_lt (qf _));omega
   have h6:(10:Int) ^ 400*(PP:Nat)<=10 ^ n.toNat*(PP:Nat):=Int.mul_le_mul_of_nonneg_right h5 (Int.le_of_lt hP);have h7:(2:Int) ^ 53*2 ^ 2045<=10 ^ 400*2 ^ 1074:=by
    rw[<-Int.pow_add];refine Int.le_trans (Ze (show 53+2045<=1300+1074 by decide)) ?_;rw[Int.pow_add];exact Int.mul_le_mul_of_nonneg_right Zd (Int.le_of_lt (nM _))
   rw[uA]at*;exact Int.le_trans h7 h6
  have k4:bM b*2 ^ bE b*B<10 ^ n.toNat*(PP:Nat)*B:=Int.mul_lt_mul_of_pos_right (Int.lt_of_lt_of_le k2 k3) hB;have k5:(10:Int) ^ n.toNat*(PP:Nat)*B=B*10 ^ n.toNat*(PP:Nat):=by grind
  omega
theorem avF{A B b:Int}(dX:0<b)(dG:b<9218868437227405312)(hA:0<=A)(hB:0<B)(po:A*(PP:Nat)=bM b*2 ^ bE b*B){n:Int}(h:A*10 ^ (1 - n).toNat<B):-400<n:=by
 obtain⟨e1,e2,e3,e4,e5⟩:=Ng dX dG;rcases Int.lt_or_le (-400) n with h4|h4
 ·exact h4
 ·exfalso;have hP:=Hu;have k1:1*B<=bM b*2 ^ bE b*B:=Int.mul_le_mul_of_nonneg_right (by
   have h6:=nM (bE b);have h7:(1:Int)*1<=bM b*2 ^ bE b:=Int.mul_le_mul (by omega) (by omega) (by omega) (by omega);omega) (Int.le_of_lt hB)
  rw[<-po]at k1;have h5:((PP:Nat):Int)<=10 ^ (1 - n).toNat:=by
   obtain⟨k,hk⟩:∃k,(1 - n).toNat=400+k:=⟨(1 - n).toNat - 400,by omega⟩;rw[hk,Int.pow_add,uA];have h6:=qf k;have h7:(10:Int) ^ 400*1<=10 ^ 400*10 ^ k:=Int.mul_le_mul_of_nonneg_left (by omega) (Int.le_of_lt (qf _));have h8:(2:Int) ^ 1074<=10 ^ 400:=Int.le_trans (Ze (show 1074<=1300 by decide)) Zd;rw[Int.mul_one]at h7;exact Int.le_trans h8 h7
  have h6:A*(PP:Nat)<=A*10 ^ (1 - n).toNat:=Int.mul_le_mul_of_nonneg_left h5 hA;omega
theorem avG{A B n k:Int}(hB:0<B)(hk:1<=k)(jL:k<=17)(sF:A*10 ^ (-n).toNat<B*10 ^ n.toNat):A*10 ^ (k - n).toNat / (B*10 ^ (n - k).toNat)<1000000000000000000:=by
 have hy:0<B*10 ^ (n - k).toNat:=Int.mul_pos hB (qf _);have cM:(10:Int) ^ k.toNat<=1000000000000000000:=by
  obtain⟨c,hc⟩:∃c,18=k.toNat+c:=⟨18 - k.toNat,by omega⟩;have e18:(10:Int) ^ 18=1000000000000000000:=by decide
  rw[<-e18,hc,Int.pow_add];have h6:=qf c;have h7:(10:Int) ^ k.toNat*1<=10 ^ k.toNat*10 ^ c:=Int.mul_le_mul_of_nonneg_left (by omega) (Int.le_of_lt (qf _));omega
 refine Int.lt_of_lt_of_le ?_ cM;refine Int.ediv_lt_of_lt_mul hy ?_;rcases Int.lt_or_le k n with h|h
 ·rw[show(-n).toNat=0 by omega,Int.pow_zero,Int.mul_one]at sF;rw[show(k - n).toNat=0 by omega,Int.pow_zero,Int.mul_one];rw[Hx (show n.toNat=k.toNat+(n - k).toNat by omega)]at sF;have:(10:Int) ^ k.toNat*(B*10 ^ (n - k).toNat)=B*(10 ^ k.toNat*10 ^ (n - k).toNat):=by grind
  omega
 ·rw[show(n - k).toNat=0 by omega,Int.pow_zero,Int.mul_one];rcases Int.lt_or_le 0 n with h0|h0
  ·rw[show(-n).toNat=0 by omega,Int.pow_zero,Int.mul_one]at sF;have h2:=Int.mul_lt_mul_of_pos_right sF (qf (k - n).toNat);rw[Hx (show k.toNat=n.toNat+(k - n).toNat by omega)];have:(10:Int) ^ n.toNat*10 ^ (k - n).toNat*B=B*10 ^ n.toNat*10 ^ (k - n).toNat:=by grind
   omega
  ·rw[show n.toNat=0 by omega,Int.pow_zero,Int.mul_one]at sF;have h2:=Int.mul_lt_mul_of_pos_right sF (qf k.toNat);rw[Hx (show(k - n).toNat=(-n).toNat+k.toNat by omega)];have:A*(10 ^ (-n).toNat*10 ^ k.toNat)=A*10 ^ (-n).toNat*10 ^ k.toNat:=by grind
   have e3:(10:Int) ^ k.toNat*B=B*10 ^ k.toNat:=Int.mul_comm _ _;omega
end Go.Pi
end
section
open Go Go.Pi
namespace Go.Pi.R
variable{p q a:Prop}
set_option maxRecDepth 100000
set_option maxHeartbeats 0
section
variable{X:aS}{G:Nat->PV}
namespace aaf
theorem cr(h:p:=by
 first
 |((refine⟨_,rfl,hF,_,rfl,?_,?_⟩;(focus (simp[mz,kQ,ma, *];first|done|fail));first|exact dU|exact fun h=>(dU (lR h)).first af))<;>exact az
 |exact kH
 |(refine qS (e:=e) 1001 rfl rfl hF (fun R t0 H0 aI eU hR=>cG.2 ?_) (fun c g n' b1 hF=>?_)<;>(try refine cA ?_)<;>exact az)
 |fail):p:=h
theorem bw(h:p:=by
 first
 |exact ja
 |(refine dw (xw dX) cB dM hF ?_;rintro _ b1 ⟨_,rfl,xv,dU⟩ lR hF;exact kB)
 |exact xu
 |exact RW
 |fail):p:=h
end aaf
theorem awp{F:Int->ByteArray}{m:Nat}{x:List PV}(ih:iS X G m)(xw:∀{y},BZ m y->Mt ai X G 103 [.agg y] (mB F y))(hx:iz x)(hm:SizeOf.sizeOf x<=m):Mt ai X G 162 [.agg x] (mB F (x.drop 3)):=by
 intro e aZ;have hF:aZ=true->aZ=true:=id;obtain⟨flags,key,dC,gZ,hC,hJ,hY,rfl,hr,Dr,aag,dX,aah⟩:=hx.open (hm);have:=Dr.1;have:=Dr.2.1;have:=aag.1;have:=aag.2.1;have:=aah.1;have:=aah.2.1;refine ay aqn af ?_;refine cA ?_;open aaf in exact az
namespace aai
theorem cr(h:p:=by
 first
 |((refine⟨_,rfl,hF,_,rfl,?_,?_⟩;(focus (simp[mz,kQ,ma, *];first|done|fail));first|exact dU|(intro h;have hr:=dS (lR h);simp only[decide_eq_true_eq]at hr;obtain⟨h1,h2⟩:=ajM h hr;subst h2;exact⟨[aA],.name _ _ _,zX,.name _ _ _ _ _⟩)|(intro h;have:=dS h;contradiction)))<;>exact az
 |exact RX
 |exact kH
 |fail):p:=h
theorem bw(h:p:=by
 first
 |exact ja
 |exact vw
 |(refine dw (awq _ _ _ rfl) cB dM hF ?_;rintro _ b1 ⟨_,rfl,xv,dU⟩ lR hF;exact kB)
 |(refine dw (awr _ _ _ rfl) cB dM hF ?_;rintro _ b1 ⟨_,rfl,xv,dU⟩ lR hF;exact kB)
 |exact RW
 |fail):p:=h
end aai
theorem r72{F:Int->ByteArray}(B:lG X G F){x:List PV}(hx:eP x)(awq:∀aA cj rest,x=[.int .i64 2,.int .i64 aA,cj,.bool rest]->Mt ai X G 142 [.agg x] (mB F x))(awr:∀aA cj rest,x=[.int .i64 3,.int .i64 aA,cj,.bool rest]->Mt ai X G 143 [.agg x] (mB F x)):Mt ai X G 103 [.agg x] (mB F x):=by
 intro e aZ;have hF:aZ=true->aZ=true:=id;have hm:=Nat.le_refl (SizeOf.sizeOf x);obtain⟨kind,aA,cj,rest,rfl,dh⟩:=hx.open (hm);have:=dh.1;have:=dh.2.1;refine ay ao1 af ?_;refine cA ?_;open aai in exact az
namespace aaj
theorem cw(h:p:=by
 first
 |exact vy
 |exact JV
 |exact RY
 |exact FO
 |(refine vz (A:=[8010,10005,5007]) (ys:=ys) (v:=v) (cB) (cB) (cB) (cB) (aY.frame Q4) af af tB vr af fH aJ rX (fun t' H' n' v' tH tI bI hf=>?_);have z6:=hf 0 af af aJ;have JX:=hf 1 af af aJ;have z7:=hf 2 af af aJ;(try refine cA ?_))<;>exact bu
 |fail):p:=h
theorem fu(h:p:=by
 first
 |skip
  all_goals first
   |(have next:=nx;unfold Hid at next;generalize ec:ys++[_]=zs at bI;refine next (n - 1) ad _ ⟨i+1,_,v',zs,ad,cB,cB,cB,cB,cB,cB,gK,cB,cB,cB,cB,fun h=>gP (hF h),bI,?_,qO,?_⟩)
   |skip
  all_goals first
   |(intro y hy;rw[<-ec]at hy;rcases List.mem_append.1 hy with hy|hy;(focus exact dY y hy);(simp only[List.mem_singleton]at hy;subst hy;simp[mz,kQ,ma, *];first|done|fail))
   |(intro h;rw[<-ec];exact su.snoc (by simpa using hg) rfl (vW (hF h)) (by first|exact dU h|exact(dU h).first af|exact mW.sq))
   |skip
  all_goals
   refine⟨?_,_,rfl,gP,_,rfl,jb ⟨g1,g2,pS,fun y hy=>dY y rS,fun h=>absurd h ad⟩,fun h=>mW.parts (.inl rfl) (.inl rfl) ?_⟩
   ·have h0:¬0∈gi v:=fun h=>absurd (g4 0 h) af
    simpa using h0
   ·rw[g3];have:=vW h
    rwa [List.take_of_length_le ad]at this
  done
 |fail):p:=h
end aaj
namespace aak
theorem bj(h:p:=by
 first
 |skip
  have hB:=dh.1.len;refine b5 (fun n s=>∃(i:Nat)(b:Bool)(v:PV)(ys:List (List PV)),i+n=(ae cj).length/\s.t 0= .ptr 0 0 0/\s.t 3= .ptr 1 1 0/\s.t 4= .ptr 2 2 0/\s.t 5= .ptr 1002 4 0/\s.t 10=cj/\s.t 11= .int .i64 (ae cj).length/\s.t 12= .int .i64 i/\
   s.H 0=some ⟨e,0,[.bool b],0⟩/\s.H 1=some ⟨37,1,[.int .i64 2,.int .i64 aA,cj,.bool rest],0⟩/\s.H 2=some ⟨30,2,zN,0⟩/\s.H 1002=some ⟨30,4,[.int .i64 70,.str (bs []),.str (bs []),.int .u64 0,v,.int .i64 0],0⟩/\
   (b=true->aZ=true)/\aX [8010,10005,5007] s.H 30 6 v ys/\(∀y,y∈ys->Nd y)/\ys.length=i/\(b=true->su F ((ae cj).take i) ys)) ?_ (n:=(ae cj).length)
   ⟨0,aZ,.ah,[],af,nB,nB,nB,nB,nB,nB,nB,nB,nB,nB,nB,id,aX.nil,af,rfl,fun _=> .nil⟩
  rintro n ⟨t,H,k⟩ ⟨i,b,v,ys,hi,h0,h3,h4,h5,dN,cp,cI,e0,e1,e2,e5,gP,aY,dY,eY,vW⟩ next
  simp only at h0 h3 h4 h5 dN cp cI e0 e1 e2 e5 aY;clear hF;have hF:b=true->b=true:=id;have hE:=fun(n:Nat) (c:Option Chunk)=>(aX.dF (n:=n) (aY.frame (H':=H.put 2 c) Q4))
  obtain⟨g1,g2,g3,g4⟩:=aY.gv;refine nA (Kj h0 (Kj h3 (Kj h4 (Kj h5 (Kj dN (Kj cp (Kj cI (Kj e0 (Kj e1 (Kj e2 e5)))))))))) ?_;have nx:Hid _:=next
  clear next
  open aaj dO in exact bu
  done
 |fail):p:=h
end aak
theorem awt{F:Int->ByteArray}{m:Nat}{x:List PV}(xw:∀{y},BZ m y->Mt ai X G 103 [.agg y] (mB F y))(RZ:∀{y},IZ m y->Mt ai X G 162 [.agg y] (mB F (y.drop 3)))(aA:Int)(cj:PV)(rest:Bool)(Ds:x=[.int .i64 2,.int .i64 aA,cj,.bool rest])(hx:eP x)(hm:SizeOf.sizeOf x<=m):Mt ai X G 142 [.agg x] (mB F x):=by
 intro e aZ;have hF:aZ=true->aZ=true:=id;subst Ds;obtain⟨k',r',i',re',he,dh⟩:=hx.open hm;cases he;have:=dh.1;have:=dh.2.1;refine ay ap9 af ?_;refine cA ?_;open aak bi in exact az
end
end Go.Pi.R
end
section
open Go Go.Pi
namespace Go.Pi.R
variable{p q a:Prop}
set_option maxRecDepth 100000
set_option maxHeartbeats 0
section
variable{X:aS}{G:Nat->PV}
namespace aal
theorem bw(h:p:=by
 first
 |exact vw
 |(refine dw (ih.e hx) cB dM hF ?_;exact fX)
 |(refine aO (B.Nk ‹Nd _›) pE dM ?_;rintro _ ⟨s,b,rfl⟩;exact kB)
 |fail):p:=h
end aal
theorem HA{F:Int->ByteArray}(B:lG X G F){m:Nat}{x:List PV}(ih:iS X G m)(comp:Bool)(hx:EZ m x):Mt ai X G 133 [.agg x,.bool comp] (fun _=>da):=by
 intro e aZ;have hF:aZ=true->aZ=true:=id;have bY:=hx;obtain⟨gG,me⟩:=bY;have hm:=Nat.le_of_lt me;obtain⟨kind,op,aA,chain,flags,nn,str,text,kids,bf,parts,aC,aG,rfl,hn,ao,ht,aq,aE,aD,av,au⟩:=gG.open (hm);have:=ao.1;have:=ao.2.1;have:=aq.1;have:=aq.2.1;have:=aE.1;have:=aE.2.1;have:=aD.1;have:=aD.2.1;have:=av.1;have:=av.2.1;have:=au.1;have:=au.2.1;refine ay ap2 af ?_;refine cA ?_;open aal bi in exact az
namespace aam
theorem bw(h:p:=by
 first
 |(refine dw (ih.e hx) cB dM hF ?_;exact fX)
 |fail):p:=h
end aam
theorem awv{m:Nat}{x:List PV}(ih:iS X G m)(hx:EZ m x):Mt ai X G 144 [.agg x] (fun _=>da):=by
 intro e aZ;have hF:aZ=true->aZ=true:=id;have bY:=hx;obtain⟨gG,me⟩:=bY;have hm:=Nat.le_of_lt me;obtain⟨kind,op,aA,chain,flags,nn,str,text,kids,bf,parts,aC,aG,rfl,hn,ao,ht,aq,aE,aD,av,au⟩:=gG.open (hm);have:=ao.1;have:=ao.2.1;have:=aq.1;have:=aq.2.1;have:=aE.1;have:=aE.2.1;have:=aD.1;have:=aD.2.1;have:=av.1;have:=av.2.1;have:=au.1;have:=au.2.1;refine ay aqb af ?_;refine cA ?_;open aam bi in exact az
namespace aan
theorem gw(h:p:=by
 first
 |exact s7
 |exact kH
 |(refine qS (e:=e) 6001 rfl rfl hF (fun R t0 H0 aI eU hR=>cG.2 ?_) (fun c g n' b1 hF=>?_)<;>(try refine cA ?_)<;>exact bu)
 |fail):p:=h
theorem cw(h:p:=by
 first
 |exact vy
 |exact JV
 |exact RY
 |(refine dw (HA B ih _ ‹EZ _ _›) cB dM hF ?_;exact vb)
 |exact FO
 |(refine vz (A:=[7010,10019]) (ys:=ys) (v:=v) (cB) (cB) (cB) (cB) (aY.frame vh) af af tB vr af fH aJ rX (fun t' H' n' v' tH tI bI hf=>?_);have z6:=hf 0 af af aJ;have JX:=hf 1 af af aJ;have z7:=hf 2 af af aJ;(try refine cA ?_))<;>exact bu
 |fail):p:=h
theorem fu(h:p:=by
 first
 |skip
  all_goals first
   |(have next:=nx;unfold Hid at next;generalize ec:ys++[_]=zs at bI;refine next (n - 1) ad _ ⟨i+1,_,v',zs,ad,cB,cB,cB,cB,cB,cB,gK,cB,cB,cB,cB,fun h=>(show b=true->aZ=true from ej) (hF h),bI,?_,qO,?_⟩)
   |skip
  all_goals first
   |(intro y hy;rw[<-ec]at hy;rcases List.mem_append.1 hy with hy|hy;(focus exact dY y hy);(simp only[List.mem_singleton]at hy;subst hy;simp[mz,kQ,ma, *];first|done|fail))
   |(intro h;rw[<-ec];exact su.snoc (by have h9:=‹(ae cj)[((i:Nat):Int).toNat]?=some _›;simpa using h9) rfl (vW (hF h)) (by first|exact dU h|exact(dU h).first af|exact(dU h).second))
   |skip
  all_goals first
   |(refine⟨?_,_,rfl,fun h=>absurd h Bool.false_ne_true,_,rfl,jb ⟨g1,g2,pS,fun y hy=>dY y rS,fun h=>absurd h ad⟩,fun h=>absurd h Bool.false_ne_true⟩;have h0:¬0∈gi v:=fun h=>absurd (g4 0 h) af;simpa using h0)
   |skip
  all_goals
   refine⟨?_,_,rfl,ej,_,rfl,jb ⟨g1,g2,pS,fun y hy=>dY y rS,fun h=>absurd h ad⟩,fun h=>mW.parts (.inr rfl) (.inr (.inl rfl)) ?_⟩
   ·have h0:¬0∈gi v:=fun h=>absurd (g4 0 h) af
    simpa using h0
   ·rw[g3];have:=vW h
    rwa [List.take_of_length_le ad]at this
  done
 |fail):p:=h
end aan
namespace aao
theorem bj(h:p:=by
 first
 |skip
  have hB:=dh.1.len;refine b5 (fun n s=>∃(i:Nat)(b:Bool)(v:PV)(ys:List (List PV)),i+n=(ae cj).length/\s.t 0= .ptr 0 0 0/\s.t 3= .ptr 1 1 0/\s.t 4= .ptr 2 2 0/\s.t 5= .ptr 1002 4 0/\s.t 10=cj/\s.t 11= .int .i64 (ae cj).length/\s.t 12= .int .i64 i/\
   s.H 0=some ⟨e,0,[.bool b],0⟩/\s.H 1=some ⟨37,1,[.int .i64 3,.int .i64 aA,cj,.bool rest],0⟩/\s.H 2=some ⟨30,2,zN,0⟩/\s.H 1002=some ⟨30,4,[.int .i64 71,.str (bs []),.str (bs []),.int .u64 0,v,.int .i64 0],0⟩/\
   (b=true->aZ=true)/\aX [7010,10019] s.H 30 6 v ys/\(∀y,y∈ys->Nd y)/\ys.length=i/\(b=true->su F ((ae cj).take i) ys)) ?_ (n:=(ae cj).length)
   ⟨0,aZ,.ah,[],af,nB,nB,nB,nB,nB,nB,nB,nB,nB,nB,nB,id,aX.nil,af,rfl,fun _=> .nil⟩
  rintro n ⟨t,H,k⟩ ⟨i,b,v,ys,hi,h0,h3,h4,h5,dN,cp,cI,e0,e1,e2,e5,gP,aY,dY,eY,vW⟩ next
  simp only at h0 h3 h4 h5 dN cp cI e0 e1 e2 e5 aY;have ej:Hid (b=true->aZ=true):=gP;clear hF gP;have hF:b=true->b=true:=id;have hE:=fun(n:Nat) (c:Option Chunk)=>(aX.dF (n:=n) (aY.frame (H':=H.put 2 c) vh))
  have p6:=fun(n:Nat) (c c1 c2:Option Chunk)=>(aX.dF (n:=n) (aY.frame (H':=((H.put 4004 c1).put 0 c2).put 2 c) vh))
  have jw:=hZ aY;obtain⟨g1,g2,g3,g4⟩:=aY.gv;refine nA (Kj h0 (Kj h3 (Kj h4 (Kj h5 (Kj dN (Kj cp (Kj cI (Kj e0 (Kj e1 (Kj e2 e5)))))))))) ?_;have nx:Hid _:=next
  clear next
  open aan in exact bu
  done
 |fail):p:=h
end aao
theorem aww{F:Int->ByteArray}(B:lG X G F){m:Nat}{x:List PV}(ih:iS X G m)(xw:∀{y},BZ m y->Mt ai X G 103 [.agg y] (mB F y))(RZ:∀{y},IZ m y->Mt ai X G 162 [.agg y] (mB F (y.drop 3)))(aA:Int)(cj:PV)(rest:Bool)(Ds:x=[.int .i64 3,.int .i64 aA,cj,.bool rest])(hx:eP x)(hm:SizeOf.sizeOf x<=m):Mt ai X G 143 [.agg x] (mB F x):=by
 intro e aZ;have hF:aZ=true->aZ=true:=id;subst Ds;obtain⟨k',r',i',re',he,dh⟩:=hx.open hm;cases he;have:=dh.1;have:=dh.2.1;refine ay aqa af ?_;refine cA ?_;open aao bi in exact az
end
end Go.Pi.R
end
section
open Go Go.Pi
namespace Go.Pi.R
variable{p q a:Prop}
set_option maxRecDepth 100000
set_option maxHeartbeats 0
section
variable{X:aS}{G:Nat->PV}
theorem Dt{m:Nat}{v:PV}(ih:iS X G m)(lv:aB (SZ m) v):Mt ai X G 17 [v] (fun _=>pf (ae v).length):=by
 intro e aZ;have hF:aZ=true->aZ=true:=id;refine ay Tp af ?_;have hv:=lv.1;have hB:=lv.1.len;refine EL hv ?_;refine b5 (fun n s=>∃(i:Nat)(b:Bool)(ys:List (List PV)),i+n=(ae v).length/\s.t 0= .ptr 0 0 0/\s.t 8=v/\s.t 9= .int .i64 (ae v).length/\s.t 10= .int .i64 i/\s.H 0=some ⟨e,0,[.bool b],0⟩/\(b=true->aZ=true)/\
  (∀y,y∈ys->Nd y)/\ys.length=i/\aX [5006] s.H 30 6 (s.t 5) ys) ?_ (n:=(ae v).length) ⟨0,aZ,[],af,nB,nB,nB,nB,nB,id,af,rfl,aiL⟩
 rintro n ⟨t,H,k⟩ ⟨i,b,ys,hi,h0,h8,h9,dN,e0,hF,dY,eY,lL⟩ next
 simp only at h0 h8 h9 dN e0 lL;refine EL (Kj h0 (Kj h8 (Kj h9 dN))) ?_;refine mw (fun hp hb=>?_) (fun hp hb=>?_)
 ·refine EL (Kj h0 (Kj h8 (Kj h9 dN))) ?_;refine cO (P:=SZ m) SZ.len lv ad hp (fun y hy b6 hg=>?_);have hM:=ih.s hy;obtain⟨kind,op,aA,flags,str,exprs,kids,decls,cases,aC,aG,rfl,jc,hr,ao,aN,aq,aL,aM,av,au⟩:=hy.1.open (hy.le);refine EL (Kj h0 (Kj h8 (Kj h9 (Kj dN (Kj e0 (Kj jc.1 (Kj jc.2.1 (Kj ao.1 (Kj ao.2.1 (Kj aN.1 (Kj aN.2.1 (Kj aq.1 (Kj aq.2.1 (Kj aL.1 (Kj aL.2.1 (Kj aM.1 (Kj aM.2.1 (Kj av.1 (Kj av.2.1 (Kj au.1 au.2.1)))))))))))))))))))) ?_;refine dw (e:=e) (b0:=b) hM (sA e0) (sA (Kj jc.1 (Kj jc.2.1 (Kj ao.1 (Kj ao.2.1 (Kj aN.1 (Kj aN.2.1 (Kj aq.1 (Kj aq.2.1 (Kj aL.1 (Kj aL.2.1 (Kj aM.1 (Kj aM.2.1 (Kj av.1 (Kj av.2.1 (Kj au.1 au.2.1)))))))))))))))) hF ?_;rintro r b1 ⟨c,rfl,hc⟩ lR hF;obtain⟨nk,nt,nm,nn,gJ,na,rfl,hN⟩:=hc.open;have dR:=hN.2.1;refine EL (Kj h0 (Kj h8 (Kj h9 (Kj dN dR)))) ?_;refine GV (A:=[5006]) (ys:=ys) (nB) (nB) hc.len hc.deep ?_ af af ad ?_
  ·refine P9 ?_;exact lL.frame (fun b hb=>FD)
  ·intro v' H2 fb bI hf fq;have:=fq rfl;subst this;refine EL (Kj h0 (Kj h8 (Kj h9 dN))) ?_;generalize ec:ys++[_]=zs at bI;refine next (n - 1) ad _ ⟨i+1,b1,zs,ad,sA h0,sA h8,sA h9,ajk,?_,hF,?_,qO,?_⟩
   ·show H2 0=_;rw[hf 0 af af];exact nB
   ·intro y hy;rw[<-ec]at hy;rcases List.mem_append.1 hy with hy|hy
    ·exact dY y hy
    ·simp at hy;subst hy;exact hc
   ·refine P9 ?_;exact bI
 ·refine P9 ?_;obtain⟨y,ids,eC,qE,hy,Dp⟩:=lL.settle;have eC:Go.Pi.settle 30 H (t 5)=some (y,ids):=eC;refine EL (Kj eC e0) ?_;refine⟨FE,b,rfl,hF,?_⟩;have:ys.length=(ae v).length:=by omega
  rcases hy with⟨rfl,rfl⟩|rfl
  ·exact⟨.inl rfl,rfl,this,o0⟩
  ·exact⟨.inr ⟨_,rfl⟩,Dp,this,dY⟩
namespace aap
theorem cw(h:p:=by
 first
 |exact vy
 |exact JV
 |exact R0
 |exact FO
 |(refine vz (A:=[12011]) (ys:=ys) (v:=v) (cB) (cB) (cB) (cB) (aY.frame Q3) af af tB vr af fH aJ rX (fun t' H' n' v' tH tI bI hf=>?_);have z6:=hf 0 af af aJ;have z7:=hf 2 af af aJ;(try refine cA ?_))<;>exact bu
 |fail):p:=h
theorem fu(h:p:=by
 first
 |skip
  all_goals first
   |(have next:=nx;unfold Hid at next;generalize ec:ys++[_]=zs at bI;refine next (n - 1) ad _ ⟨i+1,_,v',zs,ad,cB,cB,cB,cB,cB,gK,cB,cB,cB,bI,?_,qO,?_⟩)
   |skip
  all_goals first
   |(intro y hy;rw[<-ec]at hy;rcases List.mem_append.1 hy with hy|hy;(focus exact dY y hy);(simp only[List.mem_singleton]at hy;subst hy;simp[mz,kQ,ma, *];first|done|fail))
   |(intro h;rw[<-ec];exact xU.snoc (by have h9:=‹(ae decls)[((i:Nat):Int).toNat]?=some _›;simpa using h9) rfl (vW (hF h)) ((dU h).first af))
   |skip
  all_goals
   refine⟨?_,_,rfl,fun _=>trivial,_,rfl,jb ⟨g1,g2,pS,fun y hy=>dY y rS,fun h=>absurd h Jz⟩ (fun h=>absurd h Jz) (fun h=>absurd h Jz),fun h nV=>?_⟩
   ·have h0:¬0∈gi v:=fun h=>absurd (g4 0 h) af
    simpa using h0
   ·obtain⟨l,h1,h2,h3⟩:=vW h;rw[List.take_of_length_le ad]at h1;have hk:kk=12:=(show op=1->kk=12 from awx) nV;exact⟨l,h1,h2,.parts _ _ _ _ _ _ _ (.inr (.inr hk)) (by rw[g3];exact h3)⟩
  done
 |fail):p:=h
end aap
namespace aaq
theorem cr(h:p:=by
 first
 |exact RX
 |exact kH
 |fail):p:=h
theorem bw(h:p:=by
 first
 |exact ja
 |(refine arU (zB) ad ad (fun p kk fw jL=>?_);refine cA ?_)<;>exact az
 |fail):p:=h
theorem bj(h:p:=by
 first
 |skip
  have hB:=aL.1.len;have awx:Hid (op=1->kk=12):=fw;have ai3:Hid (kk=11\/kk=12\/kk=13):=jL;clear fw jL;refine b5 (fun n s=>∃(i:Nat)(b:Bool)(v:PV)(ys:List (List PV)),i+n=(ae decls).length/\s.t 0= .ptr 0 0 0/\s.t 4= .ptr 2 2 0/\s.t 6= .ptr 4007 30 0/\s.t 38=decls/\s.t 39= .int .i64 (ae decls).length/\s.t 40= .int .i64 i/\
   s.H 0=some ⟨e,0,[.bool b],0⟩/\s.H 2=some ⟨30,2,zN,0⟩/\s.H 4007=some ⟨30,30,[.int .i64 kk,.str (bs []),.str (bs []),.int .u64 0,v,.int .i64 0],0⟩/\
   aX [12011] s.H 30 6 v ys/\(∀y,y∈ys->Nd y)/\ys.length=i/\(b=true->xU F ((ae decls).take i) ys)) ?_ (n:=(ae decls).length)
   ⟨0,true,.ah,[],af,nB,nB,nB,nB,nB,nB,nB,nB,nB,aX.nil,af,rfl,fun _=> .nil⟩
  rintro n ⟨t,H,k⟩ ⟨i,b,v,ys,hi,h0,h4,h6,Du,Dv,Dw,e0,e2,e5,aY,dY,eY,vW⟩ next
  simp only at h0 h4 h6 Du Dv Dw e0 e2 e5 aY;clear hF;have hF:b=true->b=true:=id;have hE:=fun(n:Nat) (c:Option Chunk)=>(aX.dF (n:=n) (aY.frame (H':=H.put 2 c) Q3))
  obtain⟨g1,g2,g3,g4⟩:=aY.gv;refine nA (Kj h0 (Kj h4 (Kj h6 (Kj Du (Kj Dv (Kj Dw (Kj e0 (Kj e2 e5)))))))) ?_;have nx:Hid _:=next
  clear next
  open aap dO in exact bu
  done
 |fail):p:=h
end aaq
theorem r45{F:Int->ByteArray}{m:Nat}{x:List PV}(ih:iS X G m)(xw:∀{y},BZ m y->Mt ai X G 103 [.agg y] (mB F y))(kind op flags:Int)(aA str exprs kids decls cases aC aG:PV)(Ds:x=[.int .i64 kind,.int .i64 op,aA,.int .i64 flags,str,exprs,kids,decls,cases,aC,aG])(hx:bH x)(hm:SizeOf.sizeOf x<=m):Mt ai X G 60 [.agg x] (TP F op decls):=by
 intro e aZ;have hF:aZ=true->aZ=true:=id;subst Ds;obtain⟨awz,op',awB,awC,awD,awE,awF,awG,awH,awI,awJ,he,jc,hr_,ao,aN,aq,aL,aM,av,au⟩:=hx.open hm;cases he;have:=jc.1;have:=jc.2.1;have:=ao.1;have:=ao.2.1;have:=aN.1;have:=aN.2.1;have:=aq.1;have:=aq.2.1;have:=aL.1;have:=aL.2.1;have:=aM.1;have:=aM.2.1;have:=av.1;have:=av.2.1;have:=au.1;have:=au.2.1;refine ay T60 af ?_;refine cA ?_;open aaq in exact az
end
end Go.Pi.R
end
section
open Go Go.Pi
namespace Go.Pi.R
variable{p q a:Prop}
set_option maxRecDepth 100000
set_option maxHeartbeats 0
section
variable{X:aS}{G:Nat->PV}
namespace aar
theorem cw(h:p:=by
 first
 |(refine dw (Np ‹MZ _ _›) cB dM hF ?_;exact vb)
 |(refine vz (A:=[2006,8007]) (ys:=ys) (v:=v) (cB) (cB) (cB) (cB) (aY.frame vh) af af tB vr af fH aJ rX (fun t' H' n' v' tH tI bI hf=>?_);have z6:=hf 0 af af aJ;have z7:=hf 2 af af aJ;(try refine cA ?_))<;>exact bu
 |fail):p:=h
theorem fu(h:p:=by
 first
 |skip
  all_goals first
   |(have next:=nx;unfold Hid at next;generalize ec:ys++[_]=zs at bI;refine next (n - 1) ad _ ⟨i+1,_,v',zs,ad,cB,cB,cB,cB,cB,gK,cB,cB,cB,bI,?_,qO,fun h=>(show b=true->aZ=true from ej) (hF h)⟩)
   |skip
  all_goals first
   |(intro y hy;rw[<-ec]at hy;rcases List.mem_append.1 hy with hy|hy;(focus exact dY y hy);(simp only[List.mem_singleton]at hy;subst hy;exact lQ))
   |skip
  all_goals
   refine⟨?_,_,rfl,ej,jz.2 (jb ⟨g1,g2,pS,fun y hy=>dY y rS,fun h=>absurd h ad⟩)⟩;have h0:¬0∈gi v:=fun h=>absurd (g4 0 h) af
   simpa using h0
  done
 |fail):p:=h
end aar
namespace aas
theorem bw(h:p:=by
 first
 |exact ja
 |exact vw
 |exact xu
 |fail):p:=h
theorem bj(h:p:=by
 first
 |skip
  all_goals
   have hB:=fz.1.len;have ej:Hid (_->aZ=true):=hF;clear hF;refine b5 (fun n s'=>∃(i:Nat)(b:Bool)(v:PV)(ys:List (List PV)),i+n=(ae fM).length/\s'.t 0= .ptr 0 0 0/\s'.t 4= .ptr 2 2 0/\s'.t 5= .ptr 2008 16 0/\s'.t 35=fM/\s'.t 36= .int .i64 (ae fM).length/\s'.t 37= .int .i64 i/\
    s'.H 0=some ⟨e,0,[.bool b],0⟩/\s'.H 2=some ⟨30,2,zN,0⟩/\s'.H 2008=some ⟨30,16,[.int .i64 43,.str s,.str (bs []),.int .u64 0,v,.int .i64 0],0⟩/\
    aX [2006,8007] s'.H 30 6 v ys/\(∀y,y∈ys->Nd y)/\ys.length=i+1/\(b=true->aZ=true)) ?_ (n:=(ae fM).length)
    ⟨0,_,.row 2006 14 1,[_],af,nB,nB,nB,nB,nB,nB,nB,nB,nB,aX.xn af (nB) rfl BW,by intro y hy;simp only[List.mem_singleton]at hy;subst hy;simp[mz,kQ,ma, *],rfl,ej⟩
   rintro n ⟨t,H,k⟩ ⟨i,b,v,ys,hi,h0,h4,h6,Du,Dv,Dw,e0,e2,e5,aY,dY,eY,gP⟩ next
   simp only at h0 h4 h6 Du Dv Dw e0 e2 e5 aY;clear ej;have ej:Hid (b=true->aZ=true):=gP;clear gP;have hF:b=true->b=true:=id;have hE:=fun(n:Nat) (c:Option Chunk)=>(aX.dF (n:=n) (aY.frame (H':=H.put 2 c) vh))
   obtain⟨g1,g2,g3,g4⟩:=aY.gv;refine nA (Kj h0 (Kj h4 (Kj h6 (Kj Du (Kj Dv (Kj Dw (Kj e0 (Kj e2 e5)))))))) ?_;have nx:Hid _:=next
   clear next
   open aar dO in exact bu
  done
 |fail):p:=h
end aas
theorem r47{F:Int->ByteArray}(B:lG X G F){m:Nat}{x:List PV}(ih:iS X G m)(Np:∀{y},MZ m y->Mt ai X G 105 [.agg y] (fun _=>da))(hx:gH x)(hm:SizeOf.sizeOf x<=m):Mt ai X G 62 [.agg x] (fun _=>da):=by
 intro e aZ;have hF:aZ=true->aZ=true:=id;obtain⟨name,ext,fM,rfl,fR,fz⟩:=hx.open (hm);have:=fR.1;have:=fR.2.1;have:=fz.1;have:=fz.2.1;refine ay T62 af ?_;refine cA ?_;open aas bi in exact az
namespace aat
theorem cr(h:p:=by
 first
 |exact Ca
 |((refine⟨_,rfl,?_,?_⟩;(first|exact hF|exact fun _=>trivial|exact fun h=>absurd h Bool.false_ne_true);exact jz.2 (jb (tF ⟨hS,dR,jN,lS⟩ (by have:=Nq.1.len;omega) ad))))<;>exact az
 |exact kH
 |(refine qS (e:=e) 11 rfl rfl hF (fun R t0 H0 aI eU hR=>cG.2 ?_) (fun c g n' b1 hF=>?_)<;>(try refine cA ?_)<;>exact az)
 |fail):p:=h
theorem bw(h:p:=by
 first
 |exact ja
 |(refine dw (Dt ih ‹_›) cB dM hF ?_;exact E3)
 |(refine dw (Nr ax ax _ _ _) cB dM hF ?_;exact fX)
 |(refine dw (HA B ih _ ‹EZ _ _›) cB dM hF ?_;exact fX)
 |exact xu
 |fail):p:=h
end aat
theorem r74{F:Int->ByteArray}(B:lG X G F){m:Nat}{x:List PV}(ih:iS X G m)(Nr:∀{k v},EZ m k->EZ m v->∀(kind flags:Int)(static:Bool),Mt ai X G 88 [.int .i64 kind,.int .i64 flags,.agg k,.agg v,.bool static] (fun _=>da))(hx:iI x)(hm:SizeOf.sizeOf x<=m):Mt ai X G 105 [.agg x] (fun _=>da):=by
 intro e aZ;have hF:aZ=true->aZ=true:=id;obtain⟨kind,flags,key,value,init,block,rfl,hr,Dr,aau,aav,Nq⟩:=hx.open (hm);have:=Dr.1;have:=Dr.2.1;have:=aau.1;have:=aau.2.1;have:=aav.1;have:=aav.2.1;have:=Nq.1;have:=Nq.2.1;refine ay ao2 af ?_;refine cA ?_;open aat in exact az
end
end Go.Pi.R
end
