import Derived.Test.YtofdfffpmbgogaaGreatDoorP18
import Derived.Test.YtofdfffpmbgogaaGreatDoorP38
/- Part of the proof. -/
set_option linter.all false
set_option maxHeartbeats 0
set_option maxRecDepth 100000
section
open Go Go.Pi
namespace Go.Pi
variable{p q a:Prop}
def vU(n:Int)(r:PV):Prop:=∃(k:Int)(text more:ByteArray)(num from_ jE:Int)(a b c:Bool),r= .agg [.int .i64 k,.str text,.str more,.int .u64 num,.int .i64 from_,.int .i64 jE,.bool a,.bool b,.bool c]/\(text.size:Int)<=n
section
variable{X:aS}{G:Nat->PV}
namespace Xt
theorem bx(x:a)(g:q)(h:a->q->p:=by(intro x g;exact nA (Kj x (Kj h0 (Kj h2 (Kj h3 (Kj h4 (Kj e0 (Kj e1 (Kj tC aI)))))))) g)):p:=h x g
theorem gT(h:p:=by
 first
 |(refine next _ ?_ _ ⟨_,_,_,_,_,_,_,xg,xg,xg,xg,xg,xg,xg,wM,wM,wM,rfl⟩;exact wM)
 |fail):p:=h
theorem cw(h:p:=by
 first
 |exact RE
 |(refine o5 (FJ eA _ _) ol ad ad iK (fun r hr=>?_);obtain⟨b,rfl,hb,pZ⟩:=hr;cases b;all_goals (first|(have hb:=hb rfl)|clear hb);all_goals (refine bx aI ?_;exact bN))
 |exact JO
 |exact RF
 |(refine aO (auw ad) pP iK ?_;rintro _ ⟨z,rfl⟩;(refine bx aI ?_;exact bN))
 |(refine aO (RD _) pP iK ?_;rintro _ ⟨z,rfl,hz⟩;(refine bx aI ?_;exact bN))
 |exact RG
 |exact xo
 |(exact absurd (Eq.trans ‹true=rj s _ _› (Eq.symm ‹false=rj s _ _›)) aJ)<;>exact bN
 |fail):p:=h
end Xt
namespace Xu
theorem bj(h:p:=by
 first
 |skip
  refine b5 (fun m' s'=>∃(p b2 num:Int)(l2:Bool)(st:Nat)(tx mo:ByteArray),s'.t 0= .ptr 0 0 0/\s'.t 2= .ptr 1 1 0/\s'.t 3= .ptr 1002 st 0/\s'.t 4= .int .i64 (bB+1)/\s'.H 0=some ⟨e,0,[.str s,.int .i64 p,.bool sc,.bool l2,.int .i64 b2],0⟩/\s'.H 1=some ⟨400,1,[.int .i64 0,.str (bs []),.str (bs []),.int .u64 0,.int .i64 0,.int .i64 0,.bool false,.bool false,.bool false],0⟩/\s'.H 1002=some ⟨400,st,[.int .i64 9,.str tx,.str mo,.int .u64 num,.int .i64 0,.int .i64 0,.bool false,.bool false,.bool false],0⟩/\(bB+1<=p)/\(p<=s.size)/\((tx.size:Int)<=4*(p - bB))/\m'=(s.size - p).toNat) ?_ (n:=_) ⟨_,_,_,_,_,_,_,bV,bV,bV,bV,bV,bV,bV,wM,wM,wM,rfl⟩;rintro m' ⟨t,H,k⟩ ⟨p,b2,num,l2,st,tx,mo,h0,h2,h3,h4,e0,e1,tC,cg,dH,eu,hm⟩ next
  simp only at h0 h2 h3 h4 e0 e1 tC;refine nA (Kj h0 (Kj h2 (Kj h3 (Kj h4 (Kj e0 (Kj e1 tC)))))) ?_;open Xt Gn in exact bN
  done
 |fail):p:=h
end Xu
theorem Xv{s:ByteArray}(hs:s.size<=268435456):Sc ai X G 159 s [] (fun a=>a+1<=(s.size:Int)) (fun bB cT cR dg r=>vU (16*s.size+100) r):=by
 intro e sc ln bB cT h0 h1 mF;have mF:bB+1<=(s.size:Int):=mF;have eA:s.size<=4398046511104:=by omega
 refine ay aqk af ?_;refine zA ?_;open Xu Y1 in exact bp
namespace Xw
theorem bx(x:a)(g:q)(h:a->q->p:=by(intro x g;exact nA (Kj x (Kj h0 (Kj h2 (Kj h3 (Kj h4 (Kj h5 (Kj e0 (Kj e1 (Kj tC aI))))))))) g)):p:=h x g
theorem gT(h:p:=by
 first
 |(refine next _ ?_ _ ⟨_,_,_,_,_,_,_,_,vk,vk,vk,vk,vk,vk,vk,vk,wM,wM,wM,rfl⟩;exact wM)
 |fail):p:=h
theorem cw(h:p:=by
 first
 |exact RH
 |exact JO
 |exact RF
 |exact RG
 |exact xo
 |fail):p:=h
end Xw
namespace Xx
theorem bj(h:p:=by
 first
 |skip
  refine b5 (fun m' s'=>∃(p b2 num:Int)(l2 bo:Bool)(st:Nat)(tx mo:ByteArray),s'.t 0= .ptr 0 0 0/\s'.t 2= .ptr 1 1 0/\s'.t 3= .ptr 1002 st 0/\s'.t 4= .str z/\s'.t 5= .int .i64 (bB+1)/\s'.H 0=some ⟨e,0,[.str s,.int .i64 p,.bool sc,.bool l2,.int .i64 b2],0⟩/\s'.H 1=some ⟨400,1,[.int .i64 0,.str (bs []),.str (bs []),.int .u64 0,.int .i64 0,.int .i64 0,.bool false,.bool false,.bool false],0⟩/\s'.H 1002=some ⟨400,st,[.int .i64 8,.str tx,.str mo,.int .u64 num,.int .i64 0,.int .i64 0,.bool false,.bool false,.bool bo],0⟩/\(bB+1<=p)/\(p<=s.size)/\((tx.size:Int)<=4*(p - bB))/\m'=(s.size - p).toNat) ?_ (n:=_) ⟨_,_,_,_,_,_,_,_,bV,bV,bV,bV,bV,bV,bV,bV,wM,wM,wM,rfl⟩;rintro m' ⟨t,H,k⟩ ⟨p,b2,num,l2,bo,st,tx,mo,h0,h2,h3,h4,h5,e0,e1,tC,cg,dH,eu,hm⟩ next
  simp only at h0 h2 h3 h4 h5 e0 e1 tC;refine nA (Kj h0 (Kj h2 (Kj h3 (Kj h4 (Kj h5 (Kj e0 (Kj e1 tC))))))) ?_;open Xw Gn in exact bN
  done
 |fail):p:=h
end Xx
theorem auy{s:ByteArray}(hs:s.size<=268435456):Sc ai X G 177 s [] (fun a=>a+1<=(s.size:Int)) (fun bB cT cR dg r=>vU (16*s.size+100) r):=by
 intro e sc ln bB cT h0 h1 mF;have mF:bB+1<=(s.size:Int):=mF;have eA:s.size<=4398046511104:=by omega
 refine ay arc af ?_;refine zA ?_;open Xx Y1 in exact bp
namespace Xy
theorem eV(x:a)(g:q)(h:a->q->p:=by(intro x g;exact nA (Kj x (Kj h0 (Kj h2 (Kj h3 (Kj h7 (Kj e0 (Kj e1 (Kj E9 (Kj h0 (Kj h2 (Kj h3 (Kj e0 (Kj e1 aI))))))))))))) g)):p:=h x g
theorem xc(h:p:=by
 first
 |(refine next _ ?_ _ ⟨_,_,_,_,BI,BI,BI,BI,BI,BI,BI,wM,wM,rfl⟩;exact wM)
 |fail):p:=h
theorem BC(h:p:=by
 first
 |((refine⟨_,_,_,rfl,ad,ad,_,_,_,_,_,_,_,_,_,rfl,Fw⟩))<;>exact jr
 |fail):p:=h
theorem rO(h:p:=by
 first
 |(refine o5 (zZ eA _) Jk ad ad E5 (fun r hr=>?_);obtain⟨b,rfl,hb,pZ⟩:=hr;cases b;all_goals (first|(have hb:=hb rfl)|clear hb);all_goals (refine eV aI ?_;exact jr))
 |(refine gA (zY eA) Jk ad ad gx E5 (fun r cR fh dg fc gL hr=>?_);obtain⟨rfl,rfl,r,n,rfl,pG,gj,r4,qR,iv,tE,o3⟩:=hr;(refine eV aI ?_;exact jr))
 |(refine aO (M0 _) pP E5 ?_;rintro _ ⟨v,rfl⟩;(refine eV aI ?_;exact jr))
 |(refine gA (FK _) Jk ad ad gx E5 (fun r cR fh dg fc gL hr=>?_);obtain⟨rfl,dG,fD⟩:=hr;(refine eV aI ?_;exact jr))
 |fail):p:=h
end Xy
namespace Xz
theorem bx(x:a)(g:q)(h:a->q->p:=by(intro x g;exact nA (Kj x (Kj h0 (Kj h2 (Kj h3 (Kj h4 (Kj e0 (Kj e1 aI))))))) g)):p:=h x g
theorem gT(h:p:=by
 first
 |(refine next _ ?_ _ ⟨_,_,_,_,zH,zH,zH,zH,zH,zH,wM,wM,rfl⟩;exact wM)
 |fail):p:=h
theorem cw(h:p:=by
 first
 |exact RE
 |exact JO
 |exact JM
 |exact xo
 |fail):p:=h
theorem fu(h:p:=by
 first
 |skip
  all_goals
   refine b5 (fun m' s'=>∃(q b3:Int)(l3:Bool)(st:Nat),s'.t 0= .ptr 0 0 0/\s'.t 2= .ptr 1 1 0/\s'.t 3= .int .i64 (p+1)/\s'.t 7= .ptr 21012 st 0/\s'.H 0=some ⟨e,0,[.str s,.int .i64 q,.bool sc,.bool l3,.int .i64 b3],0⟩/\s'.H 1=some ⟨400,1,[.int .i64 0,.str (bs []),.str (bs []),.int .u64 0,.int .i64 0,.int .i64 0,.bool false,.bool false,.bool false],0⟩/\s'.H 21012=some ⟨400,st,[.int .i64 10,.str z,.str (bs []),.int .u64 0,.int .i64 0,.int .i64 0,.bool false,.bool false,.bool false],0⟩/\(p+1<=q)/\(q<=s.size)/\m'=(s.size - q).toNat) ?_ (n:=_) ⟨_,_,_,_,xf,xf,xf,xf,xf,xf,xf,wM,wM,rfl⟩;rintro m' ⟨t,H,k⟩ ⟨q,b3,l3,st,h0,h2,h3,h7,e0,e1,E9,cg,dH,hm⟩ next
   simp only at h0 h2 h3 h7 e0 e1 E9;refine nA (Kj h0 (Kj h2 (Kj h3 (Kj h7 (Kj e0 (Kj e1 (Kj E9 (Kj h0 (Kj h2 (Kj h3 (Kj e0 e1))))))))))) ?_;open Xy in exact jr
  done
 |fail):p:=h
end Xz
namespace XA
theorem bj(h:p:=by
 first
 |skip
  refine b5 (fun m' s'=>∃(p b2:Int)(l2 cl:Bool),s'.t 0= .ptr 0 0 0/\s'.t 2= .ptr 1 1 0/\s'.t 3= .int .i64 (bB+1)/\s'.t 4= .bool cl/\s'.H 0=some ⟨e,0,[.str s,.int .i64 p,.bool sc,.bool l2,.int .i64 b2],0⟩/\s'.H 1=some ⟨400,1,[.int .i64 0,.str (bs []),.str (bs []),.int .u64 0,.int .i64 0,.int .i64 0,.bool false,.bool false,.bool false],0⟩/\(bB+1<=p)/\(p<=s.size)/\m'=(s.size - p).toNat) ?_ (n:=_) ⟨_,_,_,_,bV,bV,bV,bV,bV,bV,wM,wM,rfl⟩;rintro m' ⟨t,H,k⟩ ⟨p,b2,l2,cl,h0,h2,h3,h4,e0,e1,cg,dH,hm⟩ next
  simp only at h0 h2 h3 h4 e0 e1;refine nA (Kj h0 (Kj h2 (Kj h3 (Kj h4 (Kj e0 e1))))) ?_;open Xz Gn in exact bN
  done
 |fail):p:=h
end XA
theorem auz{s:ByteArray}(hs:s.size<=268435456):Sc ai X G 178 s [] (fun a=>a+1<=(s.size:Int)) (fun bB cT cR dg r=>vU (16*s.size+100) r):=by
 intro e sc ln bB cT h0 h1 mF;have mF:bB+1<=(s.size:Int):=mF;have eA:s.size<=4398046511104:=by omega
 refine ay ard af ?_;refine zA ?_;open XA Y1 in exact bp
end
end Go.Pi
end
