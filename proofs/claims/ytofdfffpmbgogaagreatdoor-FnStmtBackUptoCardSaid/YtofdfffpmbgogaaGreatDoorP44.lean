import Derived.Test.YtofdfffpmbgogaaGreatDoorP09
import Derived.Test.YtofdfffpmbgogaaGreatDoorP10
import Derived.Test.YtofdfffpmbgogaaGreatDoorP11
import Derived.Test.YtofdfffpmbgogaaGreatDoorP12
import Derived.Test.YtofdfffpmbgogaaGreatDoorP13
import Derived.Test.YtofdfffpmbgogaaGreatDoorP18
import Derived.Test.YtofdfffpmbgogaaGreatDoorP20
import Derived.Test.YtofdfffpmbgogaaGreatDoorP27
import Derived.Test.YtofdfffpmbgogaaGreatDoorP32
import Derived.Test.YtofdfffpmbgogaaGreatDoorP33
import Derived.Test.YtofdfffpmbgogaaGreatDoorP38
import Derived.Test.YtofdfffpmbgogaaGreatDoorP40
import Derived.Test.YtofdfffpmbgogaaGreatDoorP42
import Derived.Test.YtofdfffpmbgogaaGreatDoorP43
/- Part of the proof. -/
set_option linter.all false
section
open Go Go.Pi
namespace Go.Pi
variable{p q a:Prop}
set_option maxRecDepth 100000
set_option maxHeartbeats 0
section
variable{X:aS}{G:Nat->PV}
namespace Zo
theorem eV(x:a)(g:q)(h:a->q->p:=by(intro x g;exact nA (Kj x (Kj h0 (Kj h4 (Kj h5 (Kj h6 (Kj kD (Kj ib (Kj kD (Kj ib aI))))))))) g)):p:=h x g
theorem xc(h:p:=by
 first
 |(refine next _ ?_ _ ⟨_,pT,pT,pT,pT,zM,zM,zM,rfl⟩;(first|exact wM|(intro _;omega)|(intro _;rw[show n+1 - 1=n by omega];omega)))
 |fail):p:=h
end Zo
namespace Zp
theorem fO(x:a)(g:q)(h:a->q->p:=by(intro x g;exact nA (Kj x (Kj h0 (Kj h4 (Kj h5 (Kj h6 (Kj h0 (Kj h4 (Kj h5 (Kj h6 (Kj kD (Kj ib (Kj kD (Kj ib aI))))))))))))) g)):p:=h x g
theorem Jm(h:p:=by
 first
 |(refine next _ ?_ _ ⟨_,Fl,Fl,Fl,Fl,vn,vn,vn,vn,rfl⟩;(first|exact wM|(rw[show(-n).toNat=0 by omega,Int.pow_zero,Int.mul_one];omega)|(intro _;omega)|(rw[show(-(n2 - 1)).toNat=(1 - n2).toNat by omega,show(n2 - 1).toNat=0 by omega,Int.pow_zero,Int.mul_one];omega)))
 |fail):p:=h
end Zp
namespace Zq
theorem E6(h:p:=by
 first
 |exact F5
 |((exact absurd (Hy dX dG uC uD po lr yq Az rfl Rf ou (Q:=q+1) (by rw[<-tD,if_pos ad]) FC) ax))<;>exact jO
 |((exact absurd (Hy dX dG uC uD po lr yq Az rfl Rf ou (Q:=q) (by rw[<-tD,if_neg ad]) FC) ax))<;>exact jO
 |fail):p:=h
theorem BD(h:p:=by
 first
 |(refine aO (sz 10 (17 - n2) hA ad ad ad ad ad) pQ tu ?_;rintro xx bX;have bP:=bX.deep;refine fO bP ?_;exact jO)
 |exact SA
 |exact F6
 |exact F7
 |exact akI
 |exact SC
 |fail):p:=h
end Zq
namespace Zr
theorem BD(h:p:=by
 first
 |(refine aO (sz 10 (k - n2) hA ad ad ad ad ad) pQ tu ?_;rintro xx bX;have bP:=bX.deep;refine fO bP ?_;exact jO)
 |exact SA
 |exact F6
 |exact F7
 |exact akI
 |exact SC
 |fail):p:=h
end Zr
namespace Zs
theorem E6(h:p:=by
 first
 |exact F5
 |((exact absurd (Hy dX dG uC uD po lr yq Az Rd rfl ou (Q:=q+1) (by rw[<-tD,if_pos ad]) FC) ax))<;>exact jO
 |((exact absurd (Hy dX dG uC uD po lr yq Az Rd rfl ou (Q:=q) (by rw[<-tD,if_neg ad]) FC) ax))<;>exact jO
 |fail):p:=h
theorem BD(h:p:=by
 first
 |(refine aO (sz 10 (n2 - 17) hB ad ad ad ad ad) pQ tu ?_;rintro xx bX;have bP:=bX.deep;refine fO bP ?_;exact jO)
 |exact akJ
 |exact F6
 |exact SF
 |exact akI
 |exact SC
 |fail):p:=h
end Zs
namespace Zt
theorem BD(h:p:=by
 first
 |(refine aO (sz 10 (n2 - k) hB ad ad ad ad ad) pQ tu ?_;rintro xx bX;have bP:=bX.deep;refine fO bP ?_;exact jO)
 |exact akJ
 |exact F6
 |exact SF
 |exact akI
 |exact SC
 |fail):p:=h
end Zt
namespace Zu
theorem eV(x:a)(g:q)(h:a->q->p:=by(intro x g;exact nA (Kj x (Kj h0 (Kj h4 (Kj h5 (Kj h6 (Kj h0 (Kj h4 (Kj h5 (Kj h6 (Kj kD (Kj ib (Kj kD (Kj ib aI))))))))))))) g)):p:=h x g
theorem rO(h:p:=by
 first
 |(refine aO (sz 10 (1 - n2) hA ad ad ad ad ad) pQ ve ?_;rintro u2 G3;have bP:=G3.deep;refine eV bP ?_;exact jr)
 |(refine aO (xG G3 hB ad ad) pQ ve ?_;rintro _ ⟨c2,rfl,jA⟩;have bP:=bP;refine eV bP ?_;exact jr)
 |fail):p:=h
theorem Su(h:p:=by
 first
 |skip
  have hn5:=avF dX dG uC uD po (n:=n2) ad;open Zp in exact jO
  done
 |fail):p:=h
theorem Sv(h:p:=by
 first
 |skip
  all_goals
   have Az:n2<=0->B<=A*10 ^ (1 - n2).toNat:=by intro h;omega
   have yq:=eu;have sF:=jT;have uz:=cg;have X1:=dH;refine b5 (fun m' s'=>∃(k:Int),s'.t 0= .int .u64 b/\s'.t 4=wx/\s'.t 5=wy/\s'.t 6= .int .i64 n2/\s'.t 7= .int .i64 k/\(1<=k)/\(k<=17)/\m'=(17 - k).toNat) ?_ (n:=_) ⟨_,pT,pT,pT,pT,pT,wM,wM,rfl⟩;rintro m' ⟨t,H,k⟩ ⟨k,h0,h4,h5,h6,h7,cg,dH,hm⟩ next
   simp only at h0 h4 h5 h6 h7;refine nA (Kj h0 (Kj h4 (Kj h5 (Kj h6 (Kj h7 (Kj h0 (Kj h4 (Kj h5 (Kj h6 (Kj kD ib)))))))))) ?_;have F4:=avG uD cg dH sF;by_cases hkn:k≥n2
   ·rw[show(n2 - k).toNat=0 by omega,Int.pow_zero,Int.mul_one]at F4;have Kb:=uD;by_cases Nh:k=17
    ·subst Nh;open Zq LK in exact jO
    ·skip;open Zr LL LM LN in exact jO
   ·rw[show(k - n2).toNat=0 by omega,Int.pow_zero,Int.mul_one]at F4;have Kb:0<B*10 ^ (n2 - k).toNat:=Int.mul_pos uD (qf _);by_cases Nh:k=17
    ·subst Nh;open Zs LK in exact jO
    ·skip;open Zt LL LM LN in exact jO
  done
 |fail):p:=h
end Zu
namespace Zv
theorem bx(x:a)(g:q)(h:a->q->p:=by(intro x g;exact nA (Kj x (Kj h0 (Kj h4 (Kj h5 (Kj h6 (Kj kD (Kj ib (Kj kD (Kj ib aI))))))))) g)):p:=h x g
theorem cw(h:p:=by
 first
 |(refine aO (sz 10 n hB ad ad ad ad ad) pQ mM ?_;rintro u hu;have bP:=hu.deep;refine bx bP ?_;exact bN)
 |(refine aO (xG hA hu ad ad) pQ mM ?_;rintro _ ⟨c,rfl,hc⟩;have bP:=bP;refine bx bP ?_;exact bN)
 |fail):p:=h
theorem iZ(h:p:=by
 first
 |skip
  have tE:=avE dX dG uD po (n:=n) ad;open Zo in exact jr
  done
 |fail):p:=h
theorem nD(h:p:=by
 first
 |skip
  refine b5 (fun m' s'=>∃(n2:Int),s'.t 0= .int .u64 b/\s'.t 4=wx/\s'.t 5=wy/\s'.t 6= .int .i64 n2/\(-400<=n2)/\(n2<=400)/\(1<=n2->B*10 ^ (n2 - 1).toNat<=A)/\(A*10 ^ (-n2).toNat<B*10 ^ n2.toNat)/\m'=(n2+400).toNat) ?_ (n:=_) ⟨_,pT,pT,pT,pT,vn,vn,vn,vn,rfl⟩;rintro m' ⟨t,H,k⟩ ⟨n2,h0,h4,h5,h6,cg,dH,eu,jT,hm⟩ next
  simp only at h0 h4 h5 h6;refine nA (Kj h0 (Kj h4 (Kj h5 (Kj h6 (Kj h0 (Kj h4 (Kj h5 (Kj h6 (Kj kD ib))))))))) ?_;open Zu LI in exact jr
  done
 |fail):p:=h
end Zv
namespace Zw
theorem bw(h:p:=by
 first
 |(refine aO (avJ b ad dG) pQ lT ?_;rintro _ ⟨wx,wy,A,B,rfl,hA,hB,uD,po⟩;have bP:=hA.deep;refine aU bP ?_;exact bp)
 |fail):p:=h
theorem bj(h:p:=by
 first
 |skip
  have uC:=hA.ym;have kD:=hA.deep;have ib:=hB.deep;refine b5 (fun m' s'=>∃(n:Int),s'.t 0= .int .u64 b/\s'.t 4=wx/\s'.t 5=wy/\s'.t 6= .int .i64 n/\(0<=n)/\(n<=400)/\(1<=n->B*10 ^ (n - 1).toNat<=A)/\m'=(400 - n).toNat) ?_ (n:=_) ⟨_,aiW,aiW,aiW,aiW,zM,zM,zM,rfl⟩;rintro m' ⟨t,H,k⟩ ⟨n,h0,h4,h5,h6,cg,dH,eu,hm⟩ next
  simp only at h0 h4 h5 h6;refine nA (Kj h0 (Kj h4 (Kj h5 (Kj h6 (Kj kD ib))))) ?_;open Zv kU in exact bN
  done
 |fail):p:=h
end Zw
theorem avL(b:Int)(dX:0<b)(dG:b<9218868437227405312):Pure ai X G 157 [.int .u64 b] (fun r=>∃z m,r= .bZ [.str z,.int .i64 m]/\1<=z.size/\z.size<=20/\-1000<=m/\m<=1000):=by
 refine ay aqi af ?_;refine zA ?_;open Zw Y1 in exact bp
end
end Go.Pi
end
section
open Go Go.Pi
namespace Go.Pi.R
variable{p q a:Prop}
set_option maxRecDepth 100000
set_option maxHeartbeats 0
section
variable{X:aS}{G:Nat->PV}
namespace Zx
theorem bw(h:p:=by
 first
 |(refine gA (avy eA) lA ad ad gx fe (fun r cR fh dg fc gL hr=>?_);obtain hcm:=hr;(refine aU aI ?_;exact bp))
 |(refine gA (avw hs _) lA ad ad gx fe (fun r cR fh dg fc gL hr=>?_);obtain⟨k,tx,mo,nu,fr,jE,ba,bb,bc,rfl,uB⟩:=hr;(refine aU aI ?_;exact bp))
 |fail):p:=h
end Zx
theorem c80(s:ByteArray)(yp:Int)(hs:s.size<=2097152):Pure ai X G 130 [.str s,.int .i64 0,.int .i64 yp,.bool false] (fun r=>vU (16*s.size+1000) r):=by
 have eA:s.size<=4398046511104:=by omega
 refine ay api af ?_;refine zA ?_;open Zx Y1 Y2 in exact bp
namespace Zy
theorem bw(h:p:=by
 first
 |(refine gA (Xv eA) lA ad ad gx fe (fun r cR fh dg fc gL hr=>?_);obtain⟨k,tx,mo,nu,fr,jE,ba,bb,bc,rfl,uB⟩:=hr;(refine aU aI ?_;exact bp))
 |fail):p:=h
end Zy
theorem c87(s:ByteArray)(hs:s.size<=2097152)(h0:1<=s.size):Pure ai X G 135 [.str s,.int .i64 0] (fun r=>vU (16*s.size+1000) r):=by
 have eA:s.size<=268435456:=by omega
 refine ay ap3 af ?_;refine zA ?_;open Zy Y1 Y2 in exact bp
end
end Go.Pi.R
end
section
open Go Go.Pi
namespace Go.Pi.R
variable{p q a:Prop}
set_option maxRecDepth 100000
set_option maxHeartbeats 0
section
variable{X:aS}{G:Nat->PV}
theorem avO{n:Nat}(h1:9218868437227405312<n)(h2:n<9223372036854775808):FloatKind.f64.format.order n n=none:=by
 have e1:FloatKind.f64.format.signWeight=9223372036854775808:=by rfl
 have e2:FloatKind.f64.format.binade=4503599627370496:=by rfl
 have e3:FloatKind.f64.format.infRung=9218868437227405312:=by rfl
 have e:FloatKind.f64.format.read n= .nan (n / 9223372036854775808 % 2==1) (n % 9223372036854775808 - 9218868437227405312):=by
  unfold Ieee.Format.read;rw[e1,e2,e3];simp only[];rw[if_neg ad,if_neg ad,if_neg ad]
 unfold Ieee.Format.order;rw[e];rfl
theorem Rn(n:Nat):Pure ai X G 155 [.bR .f64 n] (fun r=>∃b,r= .bool b/\(9218868437227405312<n->n<9223372036854775808->b=true)):=by
 refine ay aqh af ?_;refine P9 ?_;refine⟨_,rfl,fun h1 h2=>?_⟩;rw[avO h1 h2];rfl
namespace Zz
theorem cr(h:p:=by
 first
 |exact Rl
 |fail):p:=h
theorem bw(h:p:=by
 first
 |(refine aO (Rn _) pP fe ?_;rintro _ ⟨bn,rfl,cU⟩;have cU:=cU ad ad;subst cU;(refine aU aI ?_;exact bp))
 |fail):p:=h
end Zz
namespace ZA
theorem bw(h:p:=by
 first
 |exact Rm
 |(refine aO (avL b ad ad) pP fe ?_;rintro _ ⟨z,m,rfl,kT,lD,r7,vC⟩;(refine aU aI ?_;exact bp))
 |(refine aO (avK _ ad) pP fe ?_;rintro _ ⟨z3,rfl,WX⟩;(refine aU aI ?_;exact bp))
 |(refine aO (Zn _ ad ad) pP fe ?_;rintro _ ⟨z4,rfl,hz4⟩;(refine aU aI ?_;exact bp))
 |exact FF
 |fail):p:=h
end ZA
theorem ZB(b:Int)(h0:0<=b)(h1:b<9223372036854775808):Pure ai X G 134 [.int .u64 b] (fun r=>∃z,r= .str z/\z.size<=2000):=by
 refine ay TJ af ?_;refine zA ?_;by_cases aCl:9218868437227405312<b
 ·skip;open Zz Y3 in exact bp
 ·skip;open ZA Y3 Y4 in exact bp
end
end Go.Pi.R
end
section
open Go Go.Pi
namespace Go.Pi.R
variable{p q a:Prop}
set_option maxRecDepth 100000
set_option maxHeartbeats 0
section
variable{X:aS}{G:Nat->PV}
namespace ZC
theorem bw(h:p:=by
 first
 |exact Rm
 |(refine aO (ZB _ ad ad) pP fe ?_;rintro _ ⟨z,rfl,hz⟩;(refine aU aI ?_;exact bp))
 |exact FF
 |fail):p:=h
end ZC
theorem n84(b:Int)(h0:0<=b)(h1:b<18446744073709551616):Pure ai X G 134 [.int .u64 b] (fun r=>∃z,r= .str z/\z.size<=2001):=by
 by_cases hb:b<9223372036854775808
 ·obtain⟨r,c,hf,z,rfl,hz⟩:=ZB (X:=X) (G:=G) b h0 hb;exact⟨_,c,hf,z,rfl,ad⟩
 ·refine ay TJ af ?_;refine zA ?_;open ZC Y1 Y4 in exact bp
namespace ZD
theorem bj(h:p:=by
 first
 |skip
  refine b5 (fun m' s'=>∃(p:Int)(z:ByteArray),s'.t 0= .str s/\s'.t 3= .str z/\s'.t 4= .int .i64 p/\(0<=p)/\(p<=s.size)/\((z.size:Int)<=4*p)/\m'=(s.size - p).toNat) ?_ (n:=_) ⟨_,_,bV,bV,bV,wM,wM,wM,rfl⟩;rintro m' ⟨t,H,k⟩ ⟨p,z,h0,h3,h4,cg,dH,eu,hm⟩ next
  simp only at h0 h3 h4;refine nA (Kj h0 (Kj h3 h4)) ?_;open Y5 Y6 Y7 Y8 in exact bN
  done
 |fail):p:=h
end ZD
theorem ZE(s:ByteArray)(hs:s.size<=1099511627776):Pure ai X G 23 [.str s] (fun r=>∃z,r= .str z):=by
 have eA:s.size<=4398046511104:=by omega
 refine ay T23 af ?_;refine zA ?_;open ZD Y1 in exact bp
namespace ZF
theorem aU(x:a)(g:q)(h:a->q->p:=by(intro x g;exact nA (Kj x (Kj hd (Kj hS aI))) g)):p:=h x g
theorem cr(h:p:=by
 first
 |(exact⟨_,_,rfl⟩)<;>exact bp
 |fail):p:=h
theorem bw(h:p:=by
 first
 |(refine aO (n84 _ (by have:=C0 ax;omega) (by have:=C0 ax;omega)) pP fe ?_;rintro _ ⟨z,rfl,hz⟩;(refine aU aI ?_;exact bp))
 |(refine aO (ZE _ (by first|omega|(have:=avQ ax;omega))) pP fe ?_;rintro _ ⟨z,rfl⟩;(refine aU aI ?_;exact bp))
 |fail):p:=h
end ZF
theorem n56{c:List PV}(hc:Nd c):Pure ai X G 89 [.agg c] (fun r=>∃(s:ByteArray)(b:Bool),r= .bZ [.str s,.bool b]):=by
 obtain⟨nk,nt,nm,nn,gJ,na,rfl,hN⟩:=hc.open;have hd:=hN.2.1;have hS:=hN.1;have C0:=hc.num;have avQ:=hc.big;refine ay T89 af ?_;refine nA (Kj hd hS) ?_;open ZF in exact bp
theorem avS{n:Nat}(h1:n<18446744073709551616):Op.negFloat .f64 n<18446744073709551616/\(9223372036854775808<=n->Op.negFloat .f64 n<9223372036854775808):=by
 unfold Op.negFloat;have e:(2:Nat) ^ (FloatKind.f64.format.exponentBits+FloatKind.f64.format.fractionBits)=2 ^ 63:=by rfl
 rw[e];constructor
 ·exact Nat.xor_lt_two_pow (n:=64) ad aJ
 ·intro h;have key:n ^^^ 2 ^ 63<2 ^ 63:=by
   apply Nat.lt_pow_two_of_testBit;intro i hi;rw[Nat.testBit_xor,Nat.testBit_two_pow];by_cases h3:i=63
   ·subst h3;rw[Nat.testBit_eq_decide_div_mod_eq];have:n / 2 ^ 63 % 2=1:=by omega
    simp[this]
   ·rw[Nat.testBit_lt_two_pow (Nat.lt_of_lt_of_le (show n<2 ^ 64 by omega) (Nat.pow_le_pow_right aJ ad))];simp;omega
  exact key
namespace ZG
theorem cr(h:p:=by
 first
 |((simp[jz,mz,wW,kQ,ma];done))<;>exact bp
 |exact Rp
 |fail):p:=h
theorem bw(h:p:=by
 first
 |exact Rq
 |exact FF
 |fail):p:=h
end ZG
theorem ZH(n:Nat)(h:n<9223372036854775808):Pure ai X G 84 [.bR .f64 n] da:=by
 refine ay Tx af ?_;refine zA ?_;open ZG Y1 in exact bp
namespace ZI
theorem cr(h:p:=by
 first
 |((simp[jz,mz,wW,kQ,ma, *];done))<;>exact bp
 |exact Rp
 |fail):p:=h
theorem bw(h:p:=by
 first
 |exact Rq
 |(refine aO (ZH _ (k2 ad)) pP fe ?_;rintro _ ⟨c,rfl,hc⟩;have jk:=hc.deep;obtain⟨nk,nt,nm,nn,gJ,na,rfl,hN⟩:=hc.open;have dR:=hN.2.1;(refine aU aI ?_;exact bp))
 |exact FF
 |(refine nA dR ?_)<;>exact bp
 |fail):p:=h
end ZI
theorem n51(n:Nat)(h:n<18446744073709551616):Pure ai X G 84 [.bR .f64 n] da:=by
 by_cases h2:n<9223372036854775808
 ·exact ZH n h2
 ·obtain⟨k1,k2⟩:=avS h;refine ay Tx af ?_;refine zA ?_;open ZI Y1 in exact bp
end
end Go.Pi.R
end
section
open Go Go.Pi
namespace Go.Pi.R
variable{p q a:Prop}
set_option maxRecDepth 100000
set_option maxHeartbeats 0
section
variable{X:aS}{G:Nat->PV}
theorem n70(s:ByteArray)(i:Int)(hs:s.size<=1099511627776)(h0:0<=i)(h1:2*i+1<s.size):Pure ai X G 101 [.str s,.int .i64 i] (fun r=>∃n,r= .int .i64 n):=by
 refine ay aoZ af ?_;refine zA ?_;open Y1 Y9 in exact bp
namespace ZJ
theorem bx(x:a)(g:q)(h:a->q->p:=by(intro x g;exact nA (Kj x (Kj h0 (Kj h4 (Kj h5 (Kj h6 (Kj B4 aI)))))) g)):p:=h x g
theorem gT(h:p:=by
 first
 |(refine next _ ?_ _ ⟨_,_,Fm,Fm,Fm,Fm,wM,wM,wM,rfl⟩;exact wM)
 |fail):p:=h
theorem gw(h:p:=by
 first
 |(exact⟨_,_,rfl,ajd⟩)<;>exact bN
 |fail):p:=h
theorem cw(h:p:=by
 first
 |(refine aO (n70 s _ ad ad ad) pP iK ?_;rintro _ ⟨n,rfl⟩;(refine bx aI ?_;exact bN))
 |exact Rr
 |fail):p:=h
end ZJ
namespace ZK
theorem aU(x:a)(g:q)(h:a->q->p:=by(intro x g;exact nA (Kj x (Kj B4 aI)) g)):p:=h x g
theorem bj(h:p:=by
 first
 |skip
  refine b5 (fun m' s'=>∃(i:Int)(z:ByteArray),s'.t 0= .str s/\s'.t 4= .str z/\s'.t 5= .int .i64 (s.size / 2)/\s'.t 6= .int .i64 i/\(0<=i)/\((z.size:Int)<=4*i)/\(i<=s.size)/\m'=(s.size / 2 - i).toNat) ?_ (n:=_) ⟨_,_,Fs,Fs,Fs,Fs,wM,wM,wM,rfl⟩;rintro m' ⟨t,H,k⟩ ⟨i,z,h0,h4,h5,h6,cg,dH,eu,hm⟩ next
  simp only at h0 h4 h5 h6;refine nA (Kj h0 (Kj h4 (Kj h5 (Kj h6 B4)))) ?_;open ZJ in exact bN
  done
 |fail):p:=h
end ZK
theorem n41(s:ByteArray)(hs:s.size<=2097152):Pure ai X G 56 [.str s] (fun r=>∃(s:ByteArray)(b:Bool),r= .bZ [.str s,.bool b]/\s.size<=1099511627776):=by
 have B4:(s.size:Int).tdiv 2=(s.size:Int) / 2:=Int.tdiv_eq_ediv_of_nonneg ad;refine ay T56 af ?_;refine zA ?_;open ZK in exact bp
namespace ZL
theorem bx(x:a)(g:q)(h:a->q->p:=by(intro x g;exact nA (Kj x (Kj h0 (Kj h3 aI))) g)):p:=h x g
theorem gT(h:p:=by
 first
 |(refine next _ ?_ _ ⟨_,by(exact sB (Kj h0 h3)),by(exact sB (Kj h0 h3)),wM,wM,rfl⟩;exact wM)
 |fail):p:=h
end ZL
namespace ZM
theorem bj(h:p:=by
 first
 |skip
  refine b5 (fun m' s'=>∃(i:Int),s'.t 0= .str s/\s'.t 3= .int .i64 i/\(0<=i)/\(i<=s.size)/\m'=(s.size - i).toNat) ?_ (n:=_) ⟨_,bV,bV,wM,wM,rfl⟩;rintro m' ⟨t,H,k⟩ ⟨i,h0,h3,cg,dH,hm⟩ next
  simp only at h0 h3;refine nA (Kj h0 h3) ?_;open ZL Y7 in exact bN
  done
 |fail):p:=h
end ZM
theorem n43(s:ByteArray)(hs:s.size<=1099511627776):Pure ai X G 58 [.str s] (fun r=>∃b:Bool,r= .bool b):=by
 refine ay T58 af ?_;refine zA ?_;open ZM Y1 in exact bp
namespace ZN
theorem bx(x:a)(g:q)(h:a->q->p:=by(intro x g;exact nA (Kj x (Kj h0 (Kj h3 (Kj hS (Kj jN aI))))) g)):p:=h x g
theorem gT(h:p:=by
 first
 |(refine next _ ?_ _ ⟨_,ai9,ai9,wM,wM,rfl⟩;exact wM)
 |fail):p:=h
theorem cw(h:p:=by
 first
 |((refine xT hF ad ad (fun y hy b6 hg=>?_);obtain⟨nk,nt,nm,nn,gJ,na,rfl,hN⟩:=hy.open;refine nA (Kj h0 (Kj h3 (Kj hS (Kj jN (Kj hN.1 hN.2.1))))) ?_))<;>exact bN
 |fail):p:=h
end ZN
namespace ZO
theorem aU(x:a)(g:q)(h:a->q->p:=by(intro x g;exact nA (Kj x (Kj hS (Kj dR (Kj jN aI)))) g)):p:=h x g
theorem bj(h:p:=by
 first
 |skip
  refine b5 (fun m' s'=>∃(i:Int),s'.t 0=v/\s'.t 3= .int .i64 i/\(0<=i)/\(i<=n)/\m'=(n - i).toNat) ?_ (n:=_) ⟨_,by(exact sB (Kj hS jN)),by(exact sB (Kj hS jN)),wM,wM,rfl⟩;rintro m' ⟨t,H,k⟩ ⟨i,h0,h3,cg,dH,hm⟩ next
  simp only at h0 h3;refine nA (Kj h0 (Kj h3 (Kj hS jN))) ?_;open ZN Y7 in exact bN
  done
 |fail):p:=h
end ZO
theorem ZP{n:Nat}{v:PV}(h:pf n v)(hn:n<=4194304):Pure ai X G 104 [v] (fun r=>∃b:Bool,r= .bool b):=by
 obtain⟨hS,dR,jN,lS⟩:=h;have hF:p8 0 v:=⟨hS,dR,ad,lS,fun h=>absurd h ad⟩;refine ay Tz af ?_;refine nA (Kj hS (Kj dR jN)) ?_;open ZO in exact bp
noncomputable def AB(X:aS)(G:Nat->PV)(n:Int):ByteArray:=by
 classical exact if h:∃z:ByteArray,z.size<=12/\Pure ai X G 86 [.int .i64 n] (fun r=>r= .str z)then h.choose else bs []
theorem avX(n:Int):(AB X G n).size<=1000:=by
 unfold AB;split
 ·rename_i h;have:=h.choose_spec.1;omega
 ·rw[ig];simp
theorem avY(n:Int)(h0:0<=n)(h1:n<1000):Pure ai X G 86 [.int .i64 n] (fun r=>r= .str (AB X G n)):=by
 have h:∃z:ByteArray,z.size<=12/\Pure ai X G 86 [.int .i64 n] (fun r=>r= .str z):=by
  obtain⟨r,c,hf,z,rfl,hz⟩:=Zn (X:=X) (G:=G) n ad ad;exact⟨z,hz,_,c,hf,rfl⟩
 unfold AB;rw[dif_pos h];exact h.choose_spec.2
end
end Go.Pi.R
end
section
open Go Go.Pi
namespace Go.Pi.R
variable{p q a:Prop}
set_option maxRecDepth 100000
set_option maxHeartbeats 0
section
variable{X:aS}{G:Nat->PV}
def qP(ys:List (List PV)):Prop:=∀y,y∈ys->∃n:Int,y=[.int .u8 n]/\0<=n/\n<256
theorem qP.nil:qP []:=fun y hy=>absurd hy af
theorem qP.app{ys:List (List PV)}{a b:Int}(h:qP ys):qP (ys++[[.int .u8 (IntKind.wrap .u8 a)],[.int .u8 (IntKind.wrap .u8 b)]]):=by
 intro y hy;simp only[List.mem_append,List.mem_cons,List.not_mem_nil,or_false]at hy;rcases hy with hy|rfl|rfl
 ·exact h y hy
 ·exact⟨_,rfl,(vt _).1,(vt _).2⟩
 ·exact⟨_,rfl,(vt _).1,(vt _).2⟩
theorem qP.flat{ys:List (List PV)}(h:qP ys):pX ys.flatten/\ys.flatten.length=ys.length:=by
 constructor
 ·intro c hc;obtain⟨y,hy,ZQ⟩:=List.mem_flatten.1 hc;obtain⟨n,rfl,h0,h1⟩:=h y hy;simp only[List.mem_singleton]at ZQ;exact⟨n,ZQ,h0,h1⟩
 ·have:=wV (s:=1) (zs:=ys) fun y hy=>by obtain⟨n,rfl,_⟩:=h y hy;rfl
  omega
theorem aX.none{H:al}{A:List Nat}{e s id st:Nat}(hA:id∈A)(hH:H id=some ⟨e,st,[],s⟩):aX A H e s (.row id st 0) []:=⟨fun y hy=>absurd hy af,.inr ⟨id,st,hA,rfl,hH⟩⟩
theorem avZ{H:al}{A:List Nat}{e:Nat}{g:PV}{ys:List (List PV)}(h:aX A H e 1 g ys)(hu:qP ys):gE H 1 g=some (ys.length,ys.flatten):=by
 have hl:=hu.flat.2;rcases h.2 with⟨rfl,rfl⟩|⟨id,st,_,rfl,hH⟩
 ·rfl
 ·simp only[gE,hH];rw[if_pos ⟨trivial,ad⟩,List.take_of_length_le ad]
namespace ZR
theorem eV(x:a)(g:q)(h:a->Nx p q:=by(intro x;simp only[x,h3,dN,cp,cI,hv,hd,List.replicate_zero,List.flatten_nil,aI,go_sem,Nat.reduceEqDiff,Nat.reduceAdd,Nat.reduceLeDiff,Nat.reduceLT,Nat.reduceMul,Nat.reduceSub,reduceIte,reduceCtorEq,Int.reduceEq,Int.reduceLT,Int.reduceLE,Nat.reduceBEq,Int.reduceToNat,cV];exact Nx.r)):p:=h x g
theorem xc(h:p:=by
 first
 |(refine next _ ?_ _ ⟨_,_,_,Ft,Ft,Ft,Ft,BH,BH,BH,BH,BH,rfl⟩;(first|exact wM|exact aX.none af (abk)|exact qP.nil|exact gn.app|(simp;done)|(simp only[List.length_append,List.length_cons,List.length_nil];omega)))
 |fail):p:=h
end ZR
namespace ZS
theorem bx(x:a)(g:q)(h:a->Nx p q:=by(intro x;simp only[x,h3,dN,cp,cI,hv,hd,List.replicate_zero,List.flatten_nil,aI,go_sem,Nat.reduceEqDiff,Nat.reduceAdd,Nat.reduceLeDiff,Nat.reduceLT,Nat.reduceMul,Nat.reduceSub,reduceIte,reduceCtorEq,Int.reduceEq,Int.reduceLT,Int.reduceLE,Nat.reduceBEq,Int.reduceToNat,cV];exact Nx.r)):p:=h x g
theorem cw(h:p:=by
 first
 |((refine cO (P:=fun y=>∃n:Int,y=[.int .u16 n]/\0<=n/\n<65536) (fun h=>by obtain⟨n,rfl,_⟩:=h;rfl) lv ad ad (fun y hy b6 hg=>?_);obtain⟨yn,rfl,iQ,nF⟩:=hy;refine aaZ (Kj h3 (Kj dN (Kj cp (Kj cI (Kj hv hd))))) ?_))<;>exact bN
 |fail):p:=h
theorem iZ(h:p:=by
 first
 |skip
  refine PH (A:=[1004,5008]) (ids:=[5007]) (aa6 (Kj h3 (Kj dN (Kj cp (Kj cI (Kj hv hd)))))) (by refine aaZ (Kj h3 (Kj dN (Kj cp (Kj cI (Kj hv hd))))) ?_;exact cg.frame JC) af tB (by intro z hz;simp only[List.mem_cons,List.not_mem_nil,or_false]at hz;rcases hz with rfl|rfl<;>exact⟨rfl,rfl⟩) af fH ?_;intro v' H' fb bI hf fq;have:=fq rfl;subst this;refine aaZ (Kj h3 (Kj dN (Kj cp (Kj cI (Kj hv hd))))) ?_;open ZR in exact jr
  done
 |fail):p:=h
theorem nD(h:p:=by
 first
 |skip
  obtain⟨l,bL,aW⟩:=M1 gn.flat.1;have he:gE H 1 g=some (ys.length,ys.flatten):=avZ cg gn;have sR:=gn.flat.2;rcases cg.2 with⟨iQ,Ni⟩|⟨id0,st0,_,Ni,_⟩
  ·subst Ni;simp only[he,bL];refine zA ?_;exact⟨_,rfl,ai7⟩
  ·subst Ni;simp only[he,bL];refine zA ?_;exact⟨_,rfl,ai7⟩
  done
 |fail):p:=h
end ZS
namespace ZT
theorem aU(x:a)(g:q)(h:a->Nx p q:=by(intro x;simp only[x,hv,hd,List.replicate_zero,List.flatten_nil,aI,go_sem,Nat.reduceEqDiff,Nat.reduceAdd,Nat.reduceLeDiff,Nat.reduceLT,Nat.reduceMul,Nat.reduceSub,reduceIte,reduceCtorEq,Int.reduceEq,Int.reduceLT,Int.reduceLE,Nat.reduceBEq,Int.reduceToNat,cV];exact Nx.r)):p:=h x g
theorem bj(h:p:=by
 first
 |skip
  refine b5 (fun m' s'=>∃(i:Int)(g:PV)(ys:List (List PV)),s'.t 3=g/\s'.t 10=v/\s'.t 11= .int .i64 (ae v).length/\s'.t 12= .int .i64 i/\(aX [1004,5008] s'.H 5 1 g ys)/\(0<=i)/\(i<=(ae v).length)/\(ys.length=2*i.toNat)/\(qP ys)/\m'=((ae v).length - i).toNat) ?_ (n:=_) ⟨0,_,[],Fu,Fu,Fu,Fu,BH,BH,BH,BH,BH,rfl⟩;rintro m' ⟨t,H,k⟩ ⟨i,g,ys,h3,dN,cp,cI,cg,dH,eu,jT,gn,hm⟩ next
  simp only at h3 dN cp cI;refine aaZ (Kj h3 (Kj dN (Kj cp (Kj cI (Kj hv hd))))) ?_;open ZS kU in exact bN
  done
 |fail):p:=h
end ZT
theorem n42{v:PV}(lv:aB (fun y=>∃n:Int,y=[.int .u16 n]/\0<=n/\n<65536) v):Pure ai X G 57 [v] (fun r=>∃s:ByteArray,r= .str s/\s.size<=2097152):=by
 have hv:=lv.1;have hd:=lv.2.1;have hB:=lv.1.len;refine ay T57 af ?_;refine nA (Kj hv hd) ?_;open ZT in exact bp
end
end Go.Pi.R
end
section
open Go Go.Pi
namespace Go.Pi.R
variable{p q a:Prop}
theorem awe{X:aS}{G:Nat->PV}:lG X G (AB X G) where
 JU:=fun n h0 h1=>avY n h0 h1
 hF:=avX
 ZX:=fun s yp hs=>by
  obtain⟨r,c,hf,k,t,m,nu,fr,jE,a,b,c2,rfl,h⟩:=c80 (X:=X) (G:=G) s yp hs;exact⟨_,c,hf,k,t,m,nu,fr,jE,a,b,c2,rfl,ad⟩
 ZY:=fun s hs h1=>by
  obtain⟨r,c,hf,k,t,m,nu,fr,jE,a,b,c2,rfl,h⟩:=c87 (X:=X) (G:=G) s hs h1;exact⟨_,c,hf,k,t,m,nu,fr,jE,a,b,c2,rfl⟩
 JT:=fun lv=>n42 lv
 ZZ:=fun s hs=>n41 s hs
 Z0:=fun s hs=>n43 s hs
 Nk:=fun hc=>n56 hc
 Z1:=fun s hs=>ZE s hs
 Z2:=fun n hn=>n51 n hn
 yr:=fun h hn=>ZP h ad
end Go.Pi.R
end
section
open Go Go.Pi
namespace Go.Pi.R
variable{p q a:Prop}
set_option maxRecDepth 100000
set_option maxHeartbeats 0
section
variable{X:aS}{G:Nat->PV}
theorem Mt.mono{T:Nat->Option FX}{f:Nat}{vs:List PV}{P Q:Bool->PV->Prop}(h:Mt T X G f vs P)(hi:∀b r,P b r->Q b r):Mt T X G f vs Q:=by
 intro e aZ;obtain⟨r,c,h1,f',h2,h3,h4⟩:=h e aZ;exact⟨r,c,h1,f',h2,h3,hi _ _ h4⟩
structure sH(X:aS)(G:Nat->PV)(F:Int->ByteArray)(m:Nat):Prop where
 i:iS X G m
 l:∀{y},EZ m y->Mt ai X G 46 [.agg y] (fun _=>da)
 b:∀{y},BZ m y->Mt ai X G 103 [.agg y] (mB F y)
section
variable{F:Int->ByteArray}{m:Nat}
theorem sH.jt(B:lG X G F)(yr:∀{n:Nat}{v:PV},pf n v->n<=4194304->Pure ai X G 104 [v] (fun r=>∃b:Bool,r= .bool b))(g:sH X G F m){y:List PV}(hy:FZ m y)(k:Int):Mt ai X G 61 [.agg y,.int .u64 k] (fun _=>da):=r46 B yr g.i hy.1 hy.le k
theorem sH.HE(g:sH X G F m){y:List PV}(hy:IZ m y):Mt ai X G 162 [.agg y] (mB F (y.drop 3)):=awp g.i g.b hy.1 hy.le
theorem sH.axd(g:sH X G F m)(kind op flags:Int)(aA str exprs kids decls cases aC aG:PV)(hx:bH [.int .i64 kind,.int .i64 op,aA,.int .i64 flags,str,exprs,kids,decls,cases,aC,aG])(hm:SizeOf.sizeOf ([.int .i64 kind,.int .i64 op,aA,.int .i64 flags,str,exprs,kids,decls,cases,aC,aG]:List PV)<=m):Mt ai X G 60 [.agg [.int .i64 kind,.int .i64 op,aA,.int .i64 flags,str,exprs,kids,decls,cases,aC,aG]] (TP F op decls):=r45 g.i g.b _ _ _ _ _ _ _ _ _ _ _ rfl hx hm
theorem sH.oK(g:sH X G F m){x:List PV}(hx:bH x)(hm:SizeOf.sizeOf x<=m):Mt ai X G 60 [.agg x] (fun _=>da):=by
 obtain⟨kind,op,aA,flags,str,exprs,kids,decls,cases,aC,aG,rfl,_⟩:=hx.open hm;exact Mt.mono (g.axd _ _ _ _ _ _ _ _ _ _ _ hx hm) fun b r ⟨c,hr,hc,_⟩=>⟨c,hr,hc⟩
end
theorem ihg{F:Int->ByteArray}(B:lG X G F)(yr:∀{n:Nat}{v:PV},pf n v->n<=4194304->Pure ai X G 104 [v] (fun r=>∃b:Bool,r= .bool b)):∀m,sH X G F m:=by
 intro m
 induction m with
 |zero=>exact⟨⟨fun h=>absurd h.2 (Nat.not_lt_zero _),fun h=>absurd h.2 (Nat.not_lt_zero _),fun h=>absurd h.2 (Nat.not_lt_zero _)⟩,fun h=>absurd h.2 (Nat.not_lt_zero _),fun h=>absurd h.2 (Nat.not_lt_zero _)⟩
 |succ m g=>
  have jt:∀{y},FZ m y->∀k,Mt ai X G 61 [.agg y,.int .u64 k] (fun _=>da):=fun hy k=>g.jt B yr hy k
  have Nr:∀{k v},EZ m k->EZ m v->∀(kind flags:Int)(static:Bool),Mt ai X G 88 [.int .i64 kind,.int .i64 flags,.agg k,.agg v,.bool static] (fun _=>da):=fun hk hv a b c=>r55 B g.i jt hk hv a b c
  have Np:∀{y},MZ m y->Mt ai X G 105 [.agg y] (fun _=>da):=fun hy=>r74 B g.i Nr hy.1 hy.le
  have gD:∀{y},CZ m y->Mt ai X G 62 [.agg y] (fun _=>da):=fun hy=>r47 B g.i Np hy.1 hy.le
  have HE:∀{y},IZ m y->Mt ai X G 162 [.agg y] (mB F (y.drop 3)):=fun hy=>g.HE hy
  have hb:∀{y},BZ (m+1) y->Mt ai X G 103 [.agg y] (mB F y):=fun h=>
   r72 B h.1 (fun a b c e=>awt g.b HE a b c e h.1 (Nat.le_of_lt_succ h.2)) (fun a b c e=>aww B g.i g.b HE a b c e h.1 (Nat.le_of_lt_succ h.2))
  have hl:∀{y},EZ (m+1) y->Mt ai X G 46 [.agg y] (fun _=>da):=fun h=>r29 B g.i g.l h.1 (Nat.le_of_lt_succ h.2)
  have oK:∀{y},SZ m y->Mt ai X G 60 [.agg y] (fun _=>da):=fun hy=>g.oK hy.1 hy.le
  refine⟨⟨fun h=>?_,fun h=>?_,fun h=>Mt.mono (hb h) fun b r ⟨c,hr,hc,_⟩=>⟨c,hr,hc⟩⟩,hl,hb⟩
  ·have hm:=Nat.le_of_lt_succ h.2;exact r16 g.i (r22 B jt h.1 hm) (r25 B g.i jt h.1 hm) (r26 g.i h.1 hm) (r27 B g.i h.1 hm) (r28 g.i gD h.1 hm) (hl h) (r31 B g.i h.1 hm) h.1 hm
  ·have hm:=Nat.le_of_lt_succ h.2;exact r21 B g.i (g.oK h.1 hm) jt gD (r49 B g.i (r75 (F:=F) g.i oK h.1 hm) (r76 (F:=F) g.i oK h.1 hm) (r77 g.i g.b h.1 hm) h.1 hm) h.1 hm
theorem axf(m:Nat):sH X G (AB X G) m:=ihg awe (fun h hn=>ZP h hn) m
end
end Go.Pi.R
end
section
open Go Go.Pi
namespace Go.Pi.R
variable{p q a:Prop}
set_option maxRecDepth 100000
set_option maxHeartbeats 0
section
variable{X:aS}{G:Nat->PV}
namespace aa1
theorem bx(x:a)(g:q)(h:a->q->p:=by(intro x g;exact nA (Kj x (Kj h1 (Kj h2 (Kj h5 (Kj h6 (Kj e1 (Kj hS (Kj dR aI)))))))) g)):p:=h x g
theorem gT(h:p:=by
 first
 |(refine next _ ?_ _ ⟨_,_,BP,BP,BP,BP,BP,wM,wM,rfl⟩;exact wM)
 |fail):p:=h
theorem cw(h:p:=by
 first
 |((refine aO (ih hy (cE _ b6) _) bS (sB AG) ?_;rintro _ ⟨zc,rfl⟩;refine nA (Kj h1 (Kj h2 (Kj h5 (Kj h6 (Kj e1 (Kj hS dR)))))) ?_))<;>exact bN
 |((refine xT hN ad ad (fun y hy b6 hg=>?_);have Dp:=hy.deep;obtain⟨ck,ct,cm,cn,axg,ca,rfl,Nu⟩:=hy.open;have AG:=Nu.2.1;refine nA (Kj h1 (Kj h2 (Kj h5 (Kj h6 (Kj e1 (Kj hS (Kj dR AG))))))) ?_))<;>exact bN
 |fail):p:=h
end aa1
namespace aa2
theorem aU(x:a)(g:q)(h:a->q->p:=by(intro x g;exact nA (Kj x (Kj hS (Kj dR aI))) g)):p:=h x g
theorem bj(h:p:=by
 first
 |skip
  refine b5 (fun m' s'=>∃(i z:Int),s'.t 1= .int .i64 DH/\s'.t 2= .ptr 1 1 0/\s'.t 5= .int .i64 z/\s'.t 6= .int .i64 i/\s'.H 1=some ⟨30,1,[.int .i64 nk,.str nt,.str nm,.int .u64 nn,gJ,.int .i64 na],0⟩/\(0<=i)/\(i<=(ae gJ).length)/\m'=((ae gJ).length - i).toNat) ?_ (n:=_) ⟨_,_,rW,rW,rW,rW,rW,wM,wM,rfl⟩;rintro m' ⟨t,H,k⟩ ⟨i,z,h1,h2,h5,h6,e1,cg,dH,hm⟩ next
  simp only at h1 h2 h5 h6 e1;refine nA (Kj h1 (Kj h2 (Kj h5 (Kj h6 (Kj e1 (Kj hS dR)))))) ?_;open aa1 Y7 in exact bN
  done
 |fail):p:=h
end aa2
theorem g7:∀(m:Nat){c:List PV},Nd c->SizeOf.sizeOf c<m->∀DH:Int,Pure ai X G 7 [.agg c,.int .i64 DH] (fun r=>∃z,r= .int .i64 z):=by
 intro m
 induction m with
 |zero=>intro c _ h;exact absurd h (Nat.not_lt_zero _)
 |succ m ih=>
  intro c hc hm DH;have cE:∀v y,v∈c->y∈ae v->SizeOf.sizeOf y<m:=fun v y hv hy=>Nat.lt_of_lt_of_le (cK hv hy) (Nat.le_of_lt_succ hm)
  obtain⟨nk,nt,nm,nn,gJ,na,rfl,hN⟩:=hc.open;have hS:=hN.1;have dR:=hN.2.1;have hB:=hN.2.2.1;have cE:∀y,y∈ae gJ->SizeOf.sizeOf y<m:=fun y hy=>cE gJ y af hy
  clear hm;refine ay T7 af ?_;refine nA (Kj hS dR) ?_;open aa2 in exact bp
end
end Go.Pi.R
end
section
open Go Go.Pi
namespace Go.Pi.R
variable{p q a:Prop}
set_option maxRecDepth 100000
set_option maxHeartbeats 0
section
variable{T:Nat->Option FX}{X:aS}{G:Nat->PV}{Q:Ex->St->Prop}{w:List Wk}{i len n:Nat}{os:List XO}{tr:er}{d:Option Nat}{t:Nat->PV}{H:al}
theorem axh{f b g e:Nat}{b0:Bool}{args:List PV}{R:Bool->PV->Prop}(hM:Mt T X G f args R)(hb:H b=some ⟨e,g,[.bool b0],0⟩)(hd:aP args=true)
 (k:∀r b1,R b1 r->(b1=true->b0=true)->M T X G (.ops i os len tr::w) ⟨put t d r,H.put b (some ⟨e,g,[.bool b1],0⟩),n⟩ Q)(eT:lj f=false:=by rfl):MC T X G f (.ptr b g 0::args) d i os len tr w t H n Q:=by
 obtain⟨r,cells,h1,b1,rfl,dG,h2⟩:=hM e b0;refine qC eT hb rfl dZ (ly hd) dZ ⟨r,_,h1,rfl,?_⟩;rw[oZ];exact k r b1 h2 dG
end
section
variable{X:aS}{G:Nat->PV}
theorem q6{ds:List (List PV)}(hl:ds.length<=1048576)(hd:aw (.sl ds)=true)(ht:∀d,d∈ds->bH d):Pure ai X G 6 [.sl ds] (fun r=>∃c b,r= .bZ [c,.bool b]/\pf ds.length c):=by
 have lv:aB (SZ (SizeOf.sizeOf (PV.sl ds))) (.sl ds):=⟨.sl hl,hd,fun y hy=>⟨ht y hy,by
  have:=List.sizeOf_lt_of_mem (show y∈ds from hy);simp only[PV.sl.sizeOf_spec];omega⟩⟩
 have yz:=Dt (X:=X) (G:=G) (axf _).i lv;refine ay T6 af ?_;refine P9 ?_;refine axh yz (nB) (by simp only[aP,hd,Bool.and_true]) ?_;rintro c b hc _;have gF:=hc.2.1;simp only[gF,aH gF,go_sem,Nat.reduceEqDiff,Nat.reduceAdd,Nat.reduceLeDiff,Nat.reduceLT,Nat.reduceMul,Nat.reduceSub,reduceIte,reduceCtorEq,Int.reduceEq,Int.reduceLT,Int.reduceLE,Nat.reduceBEq,Int.reduceToNat,cV,cG,gX,gr];exact⟨c,b,rfl,hc⟩
theorem aa3(l:List UInt8):(l==l)=true:=by simp
namespace aa4
theorem bx(x:a)(g:q)(h:a->q->p:=by(intro x g;exact nA (Kj x (Kj h2 (Kj h3 (Kj h5 (Kj e1 (Kj e2 (Kj hS (Kj dR aI)))))))) g)):p:=h x g
theorem gT(h:p:=by
 first
 |(refine next _ ?_ _ ⟨_,BR,BR,BR,BR,BR,wM,wM,rfl⟩;exact wM)
 |fail):p:=h
theorem gw(h:p:=by
 first
 |(exact rfl)<;>exact bN
 |fail):p:=h
theorem cw(h:p:=by
 first
 |((refine aO (ih hy (cE _ b6)) bS (sB AG) ?_;rintro _ rfl;refine nA (Kj h2 (Kj h3 (Kj h5 (Kj e1 (Kj e2 (Kj hS dR)))))) ?_))<;>exact bN
 |((refine Nt hg hN ad ?_;refine nA (Kj h2 (Kj h3 (Kj h5 (Kj e1 (Kj e2 (Kj hS (Kj dR AG))))))) ?_))<;>exact bN
 |((refine xT hN ad ad (fun y hy b6 hg=>?_);have Dp:=hy.deep;obtain⟨ck,ct,cm,cn,axg,ca,rfl,Nu⟩:=hy.open;have AG:=Nu.2.1;refine nA (Kj h2 (Kj h3 (Kj h5 (Kj e1 (Kj e2 (Kj hS (Kj dR AG))))))) ?_))<;>exact bN
 |fail):p:=h
end aa4
namespace aa5
theorem aU(x:a)(g:q)(h:a->Nx p q:=by(intro x;simp only[x,hS,dR,bne_self_eq_false,aa3,aI,go_sem,Nat.reduceEqDiff,Nat.reduceAdd,Nat.reduceLeDiff,Nat.reduceLT,Nat.reduceMul,Nat.reduceSub,reduceIte,reduceCtorEq,Int.reduceEq,Int.reduceLT,Int.reduceLE,Nat.reduceBEq,Int.reduceToNat,cV];exact Nx.r)):p:=h x g
theorem bj(h:p:=by
 first
 |skip
  refine b5 (fun m' s'=>∃(i:Int),s'.t 2= .ptr 1 1 0/\s'.t 3= .ptr 2 2 0/\s'.t 5= .int .i64 i/\s'.H 1=some ⟨30,1,[.int .i64 nk,.str nt,.str nm,.int .u64 nn,gJ,.int .i64 na],0⟩/\s'.H 2=some ⟨30,2,[.int .i64 nk,.str nt,.str nm,.int .u64 nn,gJ,.int .i64 na],0⟩/\(0<=i)/\(i<=(ae gJ).length)/\m'=((ae gJ).length - i).toNat) ?_ (n:=_) ⟨_,rW,rW,rW,rW,rW,wM,wM,rfl⟩;rintro m' ⟨t,H,k⟩ ⟨i,h2,h3,h5,e1,e2,cg,dH,hm⟩ next
  simp only at h2 h3 h5 e1 e2;refine nA (Kj h2 (Kj h3 (Kj h5 (Kj e1 (Kj e2 (Kj hS dR)))))) ?_;open aa4 in exact bN
  done
 |fail):p:=h
end aa5
theorem yv:∀(m:Nat){c:List PV},Nd c->SizeOf.sizeOf c<m->Pure ai X G 10 [.agg c,.agg c] (fun r=>r= .bool true):=by
 intro m
 induction m with
 |zero=>intro c _ h;exact absurd h (Nat.not_lt_zero _)
 |succ m ih=>
  intro c hc hm;have cE:∀v y,v∈c->y∈ae v->SizeOf.sizeOf y<m:=fun v y hv hy=>Nat.lt_of_lt_of_le (cK hv hy) (Nat.le_of_lt_succ hm)
  obtain⟨nk,nt,nm,nn,gJ,na,rfl,hN⟩:=hc.open;have hS:=hN.1;have dR:=hN.2.1;have hB:=hN.2.2.1;have cE:∀y,y∈ae gJ->SizeOf.sizeOf y<m:=fun y hy=>cE gJ y af hy
  clear hm;refine ay T10 af ?_;simp only[hS,dR,bne_self_eq_false,aa3,go_sem,Nat.reduceEqDiff,Nat.reduceAdd,Nat.reduceLeDiff,Nat.reduceLT,Nat.reduceMul,Nat.reduceSub,reduceIte,reduceCtorEq,Int.reduceEq,Int.reduceLT,Int.reduceLE,Nat.reduceBEq,Int.reduceToNat,cV];open aa5 in exact bp
theorem q8{k:Int}{t:ByteArray}{v:PV}(hS:mA v)(hd:aw v=true):Pure ai X G 8 [.int .i64 k,.str t,v] (fun r=>r= .agg [.int .i64 k,.str t,.str (bs []),.int .u64 0,v,.int .i64 0]):=by
 have hc:=fQ hS;refine ay T8 af ?_;refine nA (Kj hc hd) ?_;open bi Gz in exact az
end
end Go.Pi.R
end
