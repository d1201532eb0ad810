import Derived.Test.YtofdfffpmbgogaaGreatDoorP18
import Derived.Test.YtofdfffpmbgogaaGreatDoorP39
import Derived.Test.YtofdfffpmbgogaaGreatDoorP40
/- Part of the proof. -/
set_option linter.all false
set_option maxHeartbeats 0
set_option maxRecDepth 100000
section
open Go Go.Pi
namespace Go.Pi
variable{p q a:Prop}
section
variable{X:aS}{G:Nat->PV}
theorem ajJ{N:Int}{L:Nat}{v:PV}(h:ez N L v)(hl:L<=16777216):Pure ai X G 131 [v] (fun r=>∃z,r= .str z/\z.size<=10*L+1):=by
 have h':=h;obtain⟨a,iR,mg,sD,ha,uz⟩:=h';have hK:=avj mg uz;rw[ha]at hK;obtain⟨r,c,hf,z,rfl,h1,h2⟩:=Hw (X:=X) (G:=G) h hl hK ad;exact⟨_,c,hf,z,rfl,ad⟩
namespace YQ
theorem bw(h:p:=by
 first
 |exact FL
 |exact FM
 |exact B8
 |exact RJ
 |exact RK
 |(refine aO (YM hN ad) pQ lT ?_;rintro _ ⟨v,rfl,lr,cc,o2⟩;have bP:=bP;refine aU bP ?_;exact bp)
 |fail):p:=h
end YQ
theorem avs{s:ByteArray}(hs:s.size<=2097152)(base:Int)(dX:0<=base)(dG:base<=16):Sc ai X G 191 s [.int .i64 base] (fun a=>a+2<=(s.size:Int)) (fun bB cT cR dg r=>vU (16*s.size+100) r):=by
 intro e sc ln bB cT h0 h1 mF;have mF:bB+2<=(s.size:Int):=mF;have eA:s.size<=4398046511104:=by omega
 refine ay art af ?_;refine zA ?_;open YQ Y1 Lf in exact bp
namespace YR
theorem bx(x:a)(g:q)(h:a->q->p:=by(intro x g;exact nA (Kj x (Kj h0 (Kj h2 (Kj h5 (Kj h6 (Kj e0 (Kj e1 aI))))))) g)):p:=h x g
theorem gT(h:p:=by
 first
 |(refine next _ ?_ _ ⟨_,_,_,_,zI,zI,zI,zI,zI,zI,wM,wM,wM,rfl⟩;exact wM)
 |fail):p:=h
theorem gw(h:p:=by
 first
 |((refine⟨_,_,_,rfl,ad,ad,_,_,_,_,_,_,_,_,_,_,_,rfl,BJ,Nf,avt⟩))<;>exact bN
 |fail):p:=h
theorem cw(h:p:=by
 first
 |(refine aO (JP _ _ Nf ad ad ad) pQ mM ?_;rintro gq ⟨N,hN⟩;have bP:=hN.deep;refine bx bP ?_;exact bN)
 |(refine aO (YM hN ad) pQ mM ?_;rintro _ ⟨v,rfl,lr,cc,o2⟩;have bP:=bP;refine bx bP ?_;exact bN)
 |fail):p:=h
end YR
namespace YS
theorem bw(h:p:=by
 first
 |exact FM
 |exact B8
 |fail):p:=h
theorem bj(h:p:=by
 first
 |skip
  have Nf:=jW;have avt:zz.size<=s.size:=by omega
  refine b5 (fun m' s'=>∃(i p b2:Int)(l2:Bool),s'.t 0= .ptr 0 0 0/\s'.t 2= .ptr 1 1 0/\s'.t 5= .str zz/\s'.t 6= .int .i64 i/\s'.H 0=some ⟨e,0,[.str s,.int .i64 p,.bool sc,.bool l2,.int .i64 b2],0⟩/\s'.H 1=some ⟨400,1,[.int .i64 0,.str (bs []),.str (bs []),.int .u64 0,.int .i64 0,.int .i64 0,.bool false,.bool false,.bool false],0⟩/\(0<=i)/\(bB<=p)/\(p<=s.size)/\m'=(zz.size - i).toNat) ?_ (n:=_) ⟨_,_,_,_,bV,bV,bV,bV,bV,bV,wM,wM,wM,rfl⟩;rintro m' ⟨t,H,k⟩ ⟨i,p,b2,l2,h0,h2,h5,h6,e0,e1,cg,dH,eu,hm⟩ next
  simp only at h0 h2 h5 h6 e0 e1;refine nA (Kj h0 (Kj h2 (Kj h5 (Kj h6 (Kj e0 e1))))) ?_;open YR in exact bN
  done
 |fail):p:=h
end YS
theorem avu{s:ByteArray}(hs:s.size<=2097152):Sc ai X G 192 s [] (fun _=>True) (fun bB cT cR dg r=>∃(k:Int)(text more:ByteArray)(num from_ jE:Int)(a b c:Bool)(z:ByteArray)(ok:Bool),r= .bZ [.agg [.int .i64 k,.str text,.str more,.int .u64 num,.int .i64 from_,.int .i64 jE,.bool a,.bool b,.bool c],.str z,.bool ok]/\text.size<=100/\iM X G 10 z/\z.size<=s.size):=by
 intro e sc ln bB cT h0 h1 _;have eA:s.size<=4398046511104:=by omega
 refine ay aru af ?_;refine zA ?_;open YS Y1 in exact bp
namespace YT
theorem bw(h:p:=by
 first
 |exact FL
 |(refine o5 (FJ eA _ _) lA ad ad fe (fun r hr=>?_);obtain⟨b,rfl,hb,pZ⟩:=hr;cases b;all_goals (first|(have hb:=hb rfl)|clear hb);all_goals (refine aU aI ?_;exact bp))
 |(refine gA (avs hs _ ad ad) lA ad ad gx fe (fun r cR fh dg fc gL hr=>?_);obtain⟨k,tx,mo,nu,fr,jE,ba,bb,bc,rfl,uB⟩:=hr;(refine aU aI ?_;exact bp))
 |(refine gA (avu hs) lA ad ad gx fe (fun r cR fh dg fc gL hr=>?_);obtain⟨k,tx,mo,nu,fr,jE,ba,bb,bc,z,ok,rfl,uB,Nf,ec⟩:=hr;(refine aU aI ?_;exact bp))
 |exact FM
 |(refine gA (aut fW) lA ad ad gx fe (fun r cR fh dg fc gL hr=>?_);obtain⟨ne,rfl⟩:=hr;(refine aU aI ?_;exact bp))
 |exact B8
 |exact FH
 |exact RJ
 |exact RK
 |(refine aO (avr _ _ (iM.app ax ax) (by rw[ByteArray.size_append];first|omega|(rw[ig];simp;done)|(rw[ig];simp;omega))) pP fe ?_;rintro _ ⟨v,bo,rfl,lr,cc⟩;(refine aU aI ?_;exact bp))
 |fail):p:=h
end YT
theorem avv{s:ByteArray}(hs:s.size<=2097152):Sc ai X G 175 s [] (fun _=>True) (fun bB cT cR dg r=>vU (16*s.size+100) r):=by
 intro e sc ln bB cT h0 h1 _;have eA:s.size<=4398046511104:=by omega
 have fW:s.size<=268435456:=by omega
 have YU:iM X G 10 (bs []):=iM.nil;refine ay ara af ?_;refine zA ?_;open YT Y1 Lf in exact bp
end
end Go.Pi
end
