import Derived.Test.YtofdfffpmbgogaaGreatDoorP18
import Derived.Test.YtofdfffpmbgogaaGreatDoorP30
import Derived.Test.YtofdfffpmbgogaaGreatDoorP38
import Derived.Test.YtofdfffpmbgogaaGreatDoorP40
/- Part of the proof. -/
set_option linter.all false
set_option maxHeartbeats 0
set_option maxRecDepth 100000
section
open Go Go.Pi
namespace Go.Pi
variable{p q a:Prop}
section
variable{X:aS}{G:Nat->PV}
namespace YV
theorem bx(x:a)(g:q)(h:a->q->p:=by(intro x g;exact nA (Kj x (Kj h0 (Kj h2 (Kj e0 aI)))) g)):p:=h x g
theorem gT(h:p:=by
 first
 |(refine next _ ?_ _ ⟨_,_,_,_,Jv,Jv,Jv,wM,wM,rfl⟩;exact wM)
 |fail):p:=h
theorem gw(h:p:=by
 first
 |((refine⟨_,_,_,rfl,ad,ad⟩))<;>exact bN
 |fail):p:=h
theorem cw(h:p:=by
 first
 |exact Rx
 |(refine o5 (auk hs _ _ _) ol ad ad iK (fun r hr=>?_);obtain⟨b,rfl,hb,pZ⟩:=hr;cases b;all_goals (first|(have hb:=hb rfl)|clear hb);all_goals (refine bx aI ?_;exact bN))
 |(refine o5 (aul hs _ _ _ _) ol ad ad iK (fun r hr=>?_);obtain⟨b,rfl,hb,pZ⟩:=hr;cases b;all_goals (first|(have hb:=hb rfl)|clear hb);all_goals (refine bx aI ?_;exact bN))
 |exact Rw
 |(refine gA (WY hs) ol ad ad gx iK (fun r cR fh dg fc gL hr=>?_);obtain⟨rfl,YW⟩:=hr;have YW:=YW ad ad (by rw[<-pG];assumption);(refine bx aI ?_;exact bN))
 |(refine gA (aun hs) ol ad ad gx iK (fun r cR fh dg fc gL hr=>?_);obtain hcm:=hr;(refine bx aI ?_;exact bN))
 |exact xo
 |exact JM
 |(refine aO (WQ _) pP iK ?_;rintro _ ⟨bq,rfl⟩;(refine bx aI ?_;exact bN))
 |fail):p:=h
end YV
namespace YX
theorem bw(h:p:=by
 first
 |exact Rz
 |(refine gA (WY hs) lA ad ad gx fe (fun r cR fh dg fc gL hr=>?_);obtain⟨rfl,qR⟩:=hr;(refine aU aI ?_;exact bp))
 |fail):p:=h
theorem bj(h:p:=by
 first
 |skip
  all_goals
   refine b5 (fun m' s'=>∃(p b2:Int)(l2 bg:Bool),s'.t 0= .ptr 0 0 0/\s'.t 2= .bool bg/\s'.H 0=some ⟨e,0,[.str s,.int .i64 p,.bool sc,.bool l2,.int .i64 b2],0⟩/\(bB<=p)/\(p<=s.size)/\m'=(s.size - p).toNat+(1 - min b2.natAbs 1)) ?_ (n:=_) ⟨_,_,_,_,bV,bV,bV,wM,wM,rfl⟩;rintro m' ⟨t,H,k⟩ ⟨p,b2,l2,bg,h0,h2,e0,cg,dH,hm⟩ next
   simp only at h0 h2 e0;refine nA (Kj h0 (Kj h2 e0)) ?_;open YV in exact bN
  done
 |fail):p:=h
end YX
theorem avy{s:ByteArray}(hs:s.size<=4398046511104):Sc ai X G 152 s [] (fun _=>True) (fun bB cT cR dg r=>True):=by
 intro e sc ln bB cT h0 h1 _;refine ay aqe af ?_;refine zA ?_;open YX Y1 in exact bp
end
end Go.Pi
end
section
open Go Go.Pi
namespace Go.Pi
variable{p q a:Prop}
section
variable{X:aS}{G:Nat->PV}
theorem J9(q:Int)(h0:0<=q)(h1:q<18446744073709551616):Pure ai X G 154 [.sl [[.int .u64 (q % 4294967296)],[.int .u64 (q / 4294967296)]]] (ez q 2):=by
 have h:=Ax (X:=X) (G:=G) (v:= .sl (fY [q % 4294967296,q / 4294967296])) (a:=[q % 4294967296,q / 4294967296]) (.inr rfl) (by intro x hx;simp at hx;omega) af;have e:vl [q % 4294967296,q / 4294967296]=q:=by simp only[vl];omega
 rw[e]at h;exact h
theorem avI{m e:Int}(he:1075<=e):m*2 ^ (e - 1075).toNat*(PP:Nat)=m*2 ^ (e - 1).toNat*1:=by
 rw[uA,Int.mul_assoc,<-Int.pow_add,Int.mul_one];congr 2;omega
theorem aja{m e:Int}(he:¬1075<=e)(h1:1<=e):m*(PP:Nat)=m*2 ^ (e - 1).toNat*(1*2 ^ (1075 - e).toNat):=by
 rw[uA,Int.one_mul,Int.mul_assoc,<-Int.pow_add];congr 2;omega
namespace Zf
theorem aU(x:a)(g:q)(h:a->q->p:=by(intro x g;exact nA (Kj x (Kj e1 aI)) g)):p:=h x g
theorem bw(h:p:=by
 first
 |exact Sx
 |exact Ka
 |(refine aO (vB _ hu ad ad ad) pQ lT ?_;rintro x3 mT;have bP:=mT.deep;refine aU bP ?_;exact bp)
 |((refine pH rfl bS (zB) ?_;obtain⟨x,cells,hf,hx⟩:=J9 (X:=X) (G:=G) (b % 4503599627370496) ad ad;have bP:=hx.deep;refine⟨_,_,hf,?_⟩;refine nA bP ?_))<;>exact bp
 |fail):p:=h
theorem bj(h:p:=by
 first
 |skip
  have e2:bM b=b % 4503599627370496:=by simp[bM,hz]
  have e3:bE b=((1:Int) - 1).toNat:=by simp[bE,hz]
  have sv:(0:Int)<1*2 ^ ((1075:Int) - 1).toNat:=by rw[Int.one_mul];exact Int.pow_pos aJ
  refine nA (Kj hx.deep (Kj hu.deep mT.deep)) ?_;exact⟨_,_,_,_,rfl,hx.mono ad,mT.mono ad,sv,Ra⟩;done
 |fail):p:=h
end Zf
namespace Zg
theorem aU(x:a)(g:q)(h:a->q->p:=by(intro x g;exact nA (Kj x (Kj e1 (Kj hz aI))) g)):p:=h x g
theorem bw(h:p:=by
 first
 |exact Sx
 |exact Ka
 |(refine aO (vB _ hu ad ad ad) pQ lT ?_;rintro x4 AA;have bP:=AA.deep;refine aU bP ?_;exact bp)
 |((refine pH rfl bS (zB) ?_;obtain⟨x,cells,hf,hx⟩:=J9 (X:=X) (G:=G) (b % 4503599627370496+4503599627370496) ad ad;have bP:=hx.deep;refine⟨_,_,hf,?_⟩;refine nA bP ?_))<;>exact bp
 |fail):p:=h
theorem xz(h:p:=by
 first
 |skip
  refine nA (Kj hu.deep mT.deep) ?_;exact⟨_,_,_,_,rfl,mT.mono ad,hu.mono ad,ad,by rw[e2,e3];exact avI ad⟩;done
 |fail):p:=h
theorem xA(h:p:=by
 first
 |skip
  have sv:(0:Int)<1*2 ^ (1075 - b / 4503599627370496).toNat:=by rw[Int.one_mul];exact Int.pow_pos aJ
  refine nA (Kj hx.deep (Kj hu.deep AA.deep)) ?_;exact⟨_,_,_,_,rfl,hx.mono ad,AA.mono ad,sv,Ra⟩;done
 |fail):p:=h
end Zg
theorem avJ(b:Int)(h0:0<=b)(h1:b<9218868437227405312):Pure ai X G 181 [.int .u64 b] (fun r=>∃x y A B,r= .bZ [x,y]/\ez A 64 x/\ez B 64 y/\0<B/\A*(PP:Nat)=bM b*2 ^ bE b*B):=by
 refine ay ari af ?_;refine zA ?_;by_cases hz:b / 4503599627370496=0
 ·have e1:b / 4503599627370496 % 2048=0:=by omega
  open Zf in exact bp
 ·have e1:b / 4503599627370496 % 2048=b / 4503599627370496:=by omega
  have e2:bM b=b % 4503599627370496+4503599627370496:=by simp[bM,hz]
  have e3:bE b=(b / 4503599627370496 - 1).toNat:=by simp[bE,hz]
  open Zg Gt in exact bp
namespace Zh
theorem bw(h:p:=by
 first
 |exact Sx
 |(refine aO (sz 10 _ hx ad ad ad ad ad) pQ lT ?_;rintro x3 mT;have bP:=mT.deep;refine aU bP ?_;exact bp)
 |(refine aO (sz 10 _ hu ad ad ad ad ad) pQ lT ?_;rintro x4 AA;have bP:=AA.deep;refine aU bP ?_;exact bp)
 |(refine aO (Dn mT hu ad ad ad) pQ lT ?_;rintro _ ⟨v,rfl,o2⟩;have bP:=bP;refine aU bP ?_;exact bp)
 |(refine aO (Dn hx AA Q9 ad ad) pQ lT ?_;rintro _ ⟨v,rfl,o2⟩;have bP:=bP;refine aU bP ?_;exact bp)
 |exact Sz
 |fail):p:=h
theorem xz(h:p:=by
 first
 |skip
  rw[show(-e).toNat=0 by omega];exact⟨_,rfl,o2⟩;done
 |fail):p:=h
theorem xA(h:p:=by
 first
 |skip
  rw[show e.toNat=0 by omega,Int.pow_zero,Int.mul_one];rw[Int.one_mul]at o2;exact⟨_,rfl,o2⟩;done
 |fail):p:=h
end Zh
theorem akG(q e:Int)(h0:0<=q)(h1:q<18446744073709551616)(he0:-2000<=e)(uT:e<=2000):Pure ai X G 186 [.int .u64 q,.int .i64 e] (Ay (q*10 ^ e.toNat) (10 ^ (-e).toNat)):=by
 refine ay arn af ?_;refine zA ?_;open Zh LJ Gt in exact bp
namespace Zi
theorem bx(x:a)(g:q)(h:a->q->p:=by(intro x g;exact nA (Kj x (Kj h1 (Kj h8 aI))) g)):p:=h x g
theorem gT(h:p:=by
 first
 |(refine next _ ?_ _ ⟨_,_,by(exact sB (Kj h1 h8)),by(exact sB (Kj h1 h8)),wM,wM,wM,wM,rfl⟩;exact wM)
 |fail):p:=h
theorem gw(h:p:=by
 first
 |(exact⟨_,_,rfl,ad,ad,ad,ad⟩)<;>exact bN
 |fail):p:=h
end Zi
namespace Zj
theorem bw(h:p:=by
 first
 |(refine aO (Hw hx ad hK ad) pQ lT ?_;rintro _ ⟨z,rfl,kT,lD⟩;have bP:=bP;refine aU bP ?_;exact bp)
 |exact Sz
 |fail):p:=h
theorem bj(h:p:=by
 first
 |skip
  all_goals
   refine b5 (fun m' s'=>∃(y:ByteArray)(m:Int),s'.t 1= .int .i64 m/\s'.t 8= .str y/\(1<=y.size)/\(y.size<=20)/\(n<=m)/\(m<=n+1)/\m'=y.size) ?_ (n:=_) ⟨_,_,bV,bV,wM,wM,wM,wM,rfl⟩;rintro m' ⟨t,H,k⟩ ⟨y,m,h1,h8,cg,dH,eu,jT,hm⟩ next
   simp only at h1 h8;refine nA (Kj h1 h8) ?_;open Zi in exact bN
  done
 |fail):p:=h
end Zj
theorem akH(q n k:Int)(h0:0<=q)(h1:q<18446744073709551616)(iv:-1000<=n)(gj:n<=1000):Pure ai X G 187 [.int .u64 q,.int .i64 n,.int .i64 k] (fun r=>∃z m,r= .bZ [.str z,.int .i64 m]/\1<=z.size/\z.size<=20/\n<=m/\m<=n+1):=by
 refine ay aro af ?_;refine zA ?_;have hK:q<10 ^ 20:=by
  have:(10:Int) ^ 20=100000000000000000000:=by decide
  omega
 open Zj Y1 in exact bp
namespace Zk
theorem gT(h:p:=by
 first
 |(refine next _ ?_ _ ⟨_,_,vj,vj,vj,BL,BL,BL,rfl⟩;(first|exact wM|(rw[ig];simp;done)|(intro _;omega)|(simp only[ByteArray.size_append,ig,List.length_cons,List.length_nil];omega)))
 |fail):p:=h
theorem gw(h:p:=by
 first
 |(exact⟨_,rfl,ad⟩)<;>exact bN
 |fail):p:=h
end Zk
namespace Zl
theorem bj(h:p:=by
 first
 |skip
  refine b5 (fun m' s'=>∃(i:Int)(z:ByteArray),s'.t 0= .int .i64 n/\s'.t 3= .str z/\s'.t 4= .int .i64 i/\(0<=i)/\(z.size=i.toNat)/\(0<i->i<=n)/\m'=(n - i).toNat) ?_ (n:=_) ⟨_,_,bV,bV,bV,BL,BL,BL,rfl⟩;rintro m' ⟨t,H,k⟩ ⟨i,z,h0,h3,h4,cg,dH,eu,hm⟩ next
  simp only at h0 h3 h4;refine nA (Kj h0 (Kj h3 h4)) ?_;open Zk Y5 in exact bN
  done
 |fail):p:=h
end Zl
theorem avK(n:Int)(h1:n<=1000):Pure ai X G 158 [.int .i64 n] (fun r=>∃z,r= .str z/\z.size<=1000):=by
 refine ay aqj af ?_;refine zA ?_;open Zl Y1 in exact bp
namespace Zm
theorem cr(h:p:=by
 first
 |(exact⟨_,rfl,by first|omega|(rw[ByteArray.size_append,ig];simp;omega)⟩)<;>exact bp
 |fail):p:=h
theorem bw(h:p:=by
 first
 |(refine aO (F2 _ ad ad) pQ lT ?_;rintro u hu;have bP:=hu.deep;refine aU bP ?_;exact bp)
 |(refine aO (Hw hu ad hK ad) pQ lT ?_;rintro _ ⟨z,rfl,kT,lD⟩;have bP:=bP;refine aU bP ?_;exact bp)
 |(refine aO (Hw hu ad YK ad) pQ lT ?_;rintro _ ⟨z,rfl,kT,lD⟩;have bP:=bP;refine aU bP ?_;exact bp)
 |fail):p:=h
end Zm
theorem Zn(n:Int)(h0:-4294967296<n)(h1:n<4294967296):Pure ai X G 86 [.int .i64 n] (fun r=>∃z,r= .str z/\z.size<=12):=by
 have hK:n<10 ^ 10:=by
  have:(10:Int) ^ 10=10000000000:=by decide
  omega
 have YK:-n<10 ^ 10:=by
  have:(10:Int) ^ 10=10000000000:=by decide
  omega
 refine ay T86 af ?_;refine zA ?_;open Zm LJ in exact bp
end
end Go.Pi
end
