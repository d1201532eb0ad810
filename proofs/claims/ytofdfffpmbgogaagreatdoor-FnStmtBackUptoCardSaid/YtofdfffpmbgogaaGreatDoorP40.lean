import Derived.Test.YtofdfffpmbgogaaGreatDoorP18
import Derived.Test.YtofdfffpmbgogaaGreatDoorP30
import Derived.Test.YtofdfffpmbgogaaGreatDoorP38
/- Part of the proof. -/
set_option linter.all false
set_option maxHeartbeats 0
set_option maxRecDepth 100000
section
open Go Go.Pi
namespace Go.Pi
variable{p q a:Prop}
section
variable{X:aS}{G:Nat->PV}
def Ho(v:PV):Prop:=aB (fun y=>∃t:ByteArray,y=[.str t]/\t.size<=1000) v
def auA(xs:List (List PV)):Bool:=xs.all fun y=>match y with
 |[.str t]=>decide (t.size<=1000)
 |_=>false
theorem Ho.of{xs:List (List PV)}(h:auA xs=true)(hl:xs.length<=1000):Ho (.sl xs):=by
 have key:∀y,y∈xs->∃t:ByteArray,y=[.str t]/\t.size<=1000:=by
  intro y hy;have:=List.all_eq_true.1 h y hy;split at this
  ·exact⟨_,rfl,by simpa using this⟩
  ·cases this
 exact⟨.inr ⟨xs,rfl,ad⟩,by simp only[aw];exact qo fun y hy=>by obtain⟨n,rfl,_⟩:=key y hy;rfl,key⟩
theorem auB:Pure ai X G 200 [] (fun r=>∃xs,r= .sl xs/\Ho (.sl xs)):=by
 refine ay arC af ?_;refine P9 ?_;exact⟨_,rfl,Ho.of dZ aJ⟩
namespace XB
theorem bx(x:a)(g:q)(h:a->q->p:=by(intro x g;exact nA (Kj x (Kj h0 (Kj h2 (Kj h3 (Kj h4 (Kj e0 (Kj e1 (Kj rK aI)))))))) g)):p:=h x g
theorem gT(h:p:=by
 first
 |(refine next _ ?_ _ ⟨_,zG,zG,zG,zG,zG,zG,wM,rfl⟩;exact wM)
 |fail):p:=h
theorem gw(h:p:=by
 first
 |((refine⟨_,_,_,rfl,ad,ad,_,_,_,_,_,_,_,_,_,rfl,BJ⟩))<;>exact bN
 |fail):p:=h
theorem cw(h:p:=by
 first
 |exact RH
 |exact xo
 |(refine aO (JL _) pP iK ?_;rintro _ rfl;(refine bx aI ?_;exact bN))
 |((refine zw ax rfl rK ad ?_;refine nA (Kj h0 (Kj h2 (Kj h3 (Kj h4 (Kj e0 (Kj e1 rK)))))) ?_))<;>exact bN
 |((refine cO (P:=fun y=>∃t:ByteArray,y=[.str t]/\t.size<=1000) (fun h=>by obtain⟨n,rfl,_⟩:=h;rfl) lv ad ad (fun y hy b6 hg=>?_);obtain⟨yn,rfl,hyn⟩:=hy;refine nA (Kj h0 (Kj h2 (Kj h3 (Kj h4 (Kj e0 (Kj e1 rK)))))) ?_))<;>exact bN
 |fail):p:=h
end XB
namespace XD
theorem bw(h:p:=by
 first
 |(refine aO (auB) pP fe ?_;rintro _ ⟨XE,rfl,lv⟩;(refine aU aI ?_;exact bp))
 |fail):p:=h
theorem bj(h:p:=by
 first
 |skip
  have rK:=lv.1;have hB:=lv.1.len;refine b5 (fun m' s'=>∃(i:Int),s'.t 0= .ptr 0 0 0/\s'.t 2= .ptr 1 1 0/\s'.t 3= .sl XE/\s'.t 4= .int .i64 i/\s'.H 0=some ⟨e,0,[.str s,.int .i64 bB,.bool sc,.bool ln,.int .i64 cT],0⟩/\s'.H 1=some ⟨400,1,[.int .i64 0,.str (bs []),.str (bs []),.int .u64 0,.int .i64 0,.int .i64 0,.bool false,.bool false,.bool false],0⟩/\(0<=i)/\m'=((ae (.sl XE)).length - i).toNat) ?_ (n:=_) ⟨_,zK,zK,zK,zK,zK,zK,wM,rfl⟩;rintro m' ⟨t,H,k⟩ ⟨i,h0,h2,h3,h4,e0,e1,cg,hm⟩ next
  simp only at h0 h2 h3 h4 e0 e1;refine nA (Kj h0 (Kj h2 (Kj h3 (Kj h4 (Kj e0 (Kj e1 rK)))))) ?_;open XB in exact bN
  done
 |fail):p:=h
end XD
theorem auC{s:ByteArray}(hs:s.size<=268435456):Sc ai X G 180 s [] (fun _=>True) (fun bB cT cR dg r=>∃(k:Int)(text more:ByteArray)(num from_ jE:Int)(a b c:Bool),r= .agg [.int .i64 k,.str text,.str more,.int .u64 num,.int .i64 from_,.int .i64 jE,.bool a,.bool b,.bool c]/\(text.size:Int)<=1000):=by
 intro e sc ln bB cT h0 h1 _;have eA:s.size<=4398046511104:=by omega
 refine ay arh af ?_;refine zA ?_;open XD Y1 in exact bp
end
end Go.Pi
end
section
open Go Go.Pi
namespace Go.Pi
variable{p q a:Prop}
section
variable{X:aS}{G:Nat->PV}
theorem avk{z:ByteArray}{base i b v:Int}(h:iM X G base z)(hv:v=As X G b)(hb:b=jU z i)(h0:0<=i)(h1:i<(z.size:Int)):0<=v:=by
 obtain⟨p,rfl⟩:=Int.eq_ofNat_of_zero_le h0;have:=(h p ad).1;rw[hv,hb];exact this
namespace YB
theorem bx(x:a)(g:q)(h:a->q->p:=by(intro x g;exact nA (Kj x (Kj h0 (Kj h1 (Kj h5 (Kj h6 (Kj bP aI)))))) g)):p:=h x g
theorem gT(h:p:=by
 first
 |(refine next _ ?_ _ ⟨_,_,aiT,aiT,aiT,aiT,zQ,zQ,zQ,rfl⟩;(first|exact wM|exact⟨0,[],.inl ⟨rfl,rfl⟩,eb.nil,rZ.nil,rfl,af⟩|exact⟨_,xi.mono ad⟩))
 |fail):p:=h
theorem gw(h:p:=by
 first
 |(exact⟨N,hN.mono ad⟩)<;>exact bN
 |fail):p:=h
theorem cw(h:p:=by
 first
 |(refine aO (Ry _ ad ad) pP iK ?_;rintro _ ⟨v,rfl,hv,lr,cc⟩;have cC:0<=v:=avk hz hv ax ad ad;(refine bx aI ?_;exact bN))
 |(refine aO (XV base _ hN ad ad ad ad ad) pQ mM ?_;rintro gq xi;have bP:=xi.deep;refine bx bP ?_;exact bN)
 |fail):p:=h
end YB
namespace YC
theorem bj(h:p:=by
 first
 |skip
  refine b5 (fun m' s'=>∃(i:Int)(g:PV),s'.t 0= .str z/\s'.t 1= .int .i64 base/\s'.t 5=g/\s'.t 6= .int .i64 i/\(∃N,ez N i.toNat g)/\(0<=i)/\(i<=z.size)/\m'=(z.size - i).toNat) ?_ (n:=_) ⟨0,.ah,bV,bV,bV,bV,zQ,zQ,zQ,rfl⟩;rintro m' ⟨t,H,k⟩ ⟨i,g,h0,h1,h5,h6,cg,dH,eu,hm⟩ next
  simp only at h0 h1 h5 h6;refine nA (Kj h0 (Kj h1 (Kj h5 h6))) ?_;obtain⟨N,hN⟩:=cg;have bP:=hN.deep;open YB in exact bN
  done
 |fail):p:=h
end YC
theorem JP{avl:Int}(z:ByteArray)(base:Int)(hz:iM X G avl z)(dX:0<=base)(dG:base<4294967296)(hl:z.size<=16777216):Pure ai X G 194 [.str z,.int .i64 base] (fun r=>∃N,ez N z.size r):=by
 refine ay arw af ?_;refine zA ?_;open YC Y1 in exact bp
namespace YD
theorem fO(x:a)(g:q)(h:a->q->p:=by(intro x g;exact nA (Kj x (Kj h0 (Kj h3 (Kj h4 (Kj h5 (Kj h6 (Kj nz (Kj h0 (Kj h3 (Kj cC (Kj mu (Kj @Int.toNat_natCast (Kj ov (Kj Hk aI)))))))))))))) g)):p:=h x g
theorem Jm(h:p:=by
 first
 |(refine next _ ?_ _ ⟨_,_,_,_,zJ,zJ,zJ,zJ,zJ,zJ,oq,oq,oq,oq,oq,oq,oq,rfl⟩;(first|exact wM|(simp;done)|exact eb.rR _|(rw[List.drop_of_length_le ad,List.drop_of_length_le (by rw[List.length_replicate];omega)];simp[vl];done)|exact iL.set ad ad|(rw[List.length_set];exact gn)|exact Qv ad hx gn lC))
 |fail):p:=h
end YD
namespace YE
theorem jP(x:a)(g:q)(h:a->q->p:=by(intro x g;exact nA (Kj x (Kj h0 (Kj h3 (Kj h4 (Kj h5 (Kj h6 (Kj nz (Kj h0 (Kj h3 (Kj cC (Kj mu (Kj @Int.toNat_natCast (Kj ov aI))))))))))))) g)):p:=h x g
theorem Qo(h:p:=by
 first
 |skip
  have Nc:(z1++z).size=1+z.size:=by rw[ByteArray.size_append,lD]
  refine avm _ ?_ _ ⟨z1++z,r9,vl nx,sB (Kj h0 (Kj h3 (Kj h4 (Kj h5 (Kj h6 (Kj nz (Kj h0 (Kj h3 (Kj cC (Kj mu (Kj @Int.toNat_natCast ov))))))))))),sB (Kj h0 (Kj h3 (Kj h4 (Kj h5 (Kj h6 (Kj nz (Kj h0 (Kj h3 (Kj cC (Kj mu (Kj @Int.toNat_natCast ov))))))))))),qR.mono ad,?_,ad,ad,rfl⟩
  ·omega
  ·rw[Nc];exact avi (r:=r) (n:=n) ad ad hO1
  done
 |fail):p:=h
end YE
namespace YF
theorem fO(x:a)(g:q)(h:a->q->p:=by(intro x g;exact nA (Kj x (Kj h0 (Kj h3 (Kj h4 (Kj h5 (Kj h6 (Kj nz (Kj h0 (Kj h3 (Kj cC (Kj mu (Kj @Int.toNat_natCast (Kj ov aI))))))))))))) g)):p:=h x g
theorem Qn(h:p:=by
 first
 |skip
  refine Hs (aY.frame (H':=_) (by intro b hb;simp only[List.mem_singleton]at hb;subst hb;first|rfl|exact sB (Kj h0 (Kj h3 (Kj h4 (Kj h5 (Kj h6 (Kj nz (Kj h0 (Kj h3 (Kj cC (Kj mu (Kj @Int.toNat_natCast ov))))))))))))) (Ax aY.nv iL ad) (fun r9 qR=>?_);refine nA (Kj h0 (Kj h3 (Kj h4 (Kj h5 (Kj h6 (Kj nz (Kj h0 (Kj h3 (Kj cC (Kj mu (Kj @Int.toNat_natCast ov))))))))))) ?_;open YE in exact As5
  done
 |fail):p:=h
end YF
namespace YG
theorem eV(x:a)(g:q)(h:a->q->p:=by(intro x g;exact nA (Kj x (Kj h0 (Kj h3 (Kj h4 (Kj h5 (Kj h6 (Kj nz (Kj h0 (Kj h3 (Kj cC (Kj mu (Kj @Int.toNat_natCast (Kj ov (Kj Hk aI)))))))))))))) g)):p:=h x g
theorem rO(h:p:=by
 first
 |((refine sy Hv ad ad (fun x hx=>?_);have wP:=YH.get hx;refine nA (Kj h0 (Kj h3 (Kj h4 (Kj h5 (Kj h6 (Kj nz (Kj h0 (Kj h3 (Kj cC (Kj mu (Kj @Int.toNat_natCast (Kj ov Hk)))))))))))) ?_))<;>exact jr
 |((refine wX ad ad ?_;refine nA (Kj h0 (Kj h3 (Kj h4 (Kj h5 (Kj h6 (Kj nz (Kj h0 (Kj h3 (Kj cC (Kj mu (Kj @Int.toNat_natCast (Kj ov Hk)))))))))))) ?_))<;>exact jr
 |fail):p:=h
theorem Su(h:p:=by
 first
 |skip
  rw[avf ad];open YD in exact jO
  done
 |fail):p:=h
theorem Sv(h:p:=by
 first
 |skip
  have he:=avg ad lC;have hmv:=Dg iL;refine pH rfl bS (zB) ?_;obtain⟨r1,aCb,Mk,z1,rfl,kT⟩:=B9 (X:=X) (G:=G) (vv.of (xs:=[[.int .i64 (48+r)]]) af af);refine⟨_,_,Mk,?_⟩;have lD:z1.size=1:=kT;have fL:z1.size+z.size<=9223372036854775807:=by omega
  refine nA (Kj h0 (Kj h3 (Kj h4 (Kj h5 (Kj h6 (Kj nz (Kj h0 (Kj h3 (Kj cC (Kj mu (Kj @Int.toNat_natCast (Kj ov fL)))))))))))) ?_;have aY:aX [6003] H 28 1 (.row 6003 st a2.length) (fY nx):=by
   have:=aX.nP (A:=[6003]) af nz;rw[gn]at this;exact this
  open YF in exact jO
  done
 |fail):p:=h
end YG
namespace YI
theorem bx(x:a)(g:q)(h:a->q->p:=by(intro x g;exact nA (Kj x (Kj h0 (Kj h3 (Kj cC (Kj en (Kj mu (Kj @Int.toNat_natCast aI))))))) g)):p:=h x g
theorem gw(h:p:=by
 first
 |((refine⟨_,rfl,?_,?_⟩;(rcases Nat.eq_zero_or_pos z.size with jH|jH;(have e2:=eu jH;have e3:a2=[]:=List.eq_nil_of_length_eq_zero ad;subst e3;simp[vl]at pF;omega);(focus omega));omega))<;>exact bN
 |fail):p:=h
theorem fu(h:p:=by
 first
 |skip
  have hnp:0<n:=by
   have:=XI YH avp (by intro e;subst e;simp at hp);have:=Av (a2.length - 1);omega
  have hzK:=avh hnp dH hK;have avm:=next
  have hO1:=dH;have hO2:=eu;have hOm:=hm;refine b5 (fun m' s'=>∃(k r:Int)(nx:List Int)(st:Nat),s'.t 0=g/\s'.t 3= .str z/\s'.t 4= .int .u64 r/\s'.t 5= .row 6003 st a2.length/\s'.t 6= .int .i64 k/\s'.H 6003=some ⟨28,st,nP nx,1⟩/\(-1<=k)/\(k<a2.length)/\(0<=r)/\(r<10)/\(nx.length=a2.length)/\(eb nx)/\(vl (a2.drop (k+1).toNat)=10*vl (nx.drop (k+1).toNat)+r)/\m'=(k+1).toNat) ?_ (n:=_) ⟨(a2.length:Int) - 1,0,List.replicate a2.length 0,_,Jq,Jq,Jq,Jq,Jq,Jq,oq,oq,oq,oq,oq,oq,oq,rfl⟩;rintro m' ⟨t,H,k⟩ ⟨k,r,nx,st,h0,h3,h4,h5,h6,nz,cg,dH,eu,jT,gn,iL,lC,hm⟩ next
  simp only at h0 h3 h4 h5 h6 nz;refine nA (Kj h0 (Kj h3 (Kj h4 (Kj h5 (Kj h6 (Kj nz (Kj h0 (Kj h3 (Kj cC (Kj mu (Kj @Int.toNat_natCast ov))))))))))) ?_;have ew:=avd nx;open YG LI in exact jr
  done
 |fail):p:=h
end YI
namespace YJ
theorem aU(x:a)(g:q)(h:a->q->p:=by(intro x g;exact nA (Kj x (Kj hd (Kj hv (Kj bW aI)))) g)):p:=h x g
theorem cr(h:p:=by
 first
 |(exact⟨_,rfl,by rw[ig];simp,by rw[ig];simp;omega⟩)<;>exact bp
 |fail):p:=h
theorem bj(h:p:=by
 first
 |skip
  have hNp:0<N:=by
   rcases Int.lt_or_le 0 N with h1|h1
   ·exact h1
   ·have:=XJ mg sD ad;subst this;simp at*
  refine b5 (fun m' s'=>∃(z:ByteArray)(g:PV)(n:Int),s'.t 0=g/\s'.t 3= .str z/\(ez n L g)/\(n*10 ^ z.size<=N)/\(z.size=0->n=N)/\(z.size<=K)/\m'=n.toNat) ?_ (n:=_) ⟨bs [],v,N,bV,bV,QK,QK,QK,QK,rfl⟩;rintro m' ⟨t,H,k⟩ ⟨z,g,n,h0,h3,cg,dH,eu,jT,hm⟩ next
  simp only at h0 h3;refine nA (Kj h0 h3) ?_;have iv:=cg.ym;obtain⟨a2,Hv,YH,avp,pF,aCg⟩:=cg;have cC:=Hv.qe;have en:=Hv.deep;have mu:=Hv.len;open YI in exact bN
  done
 |fail):p:=h
end YJ
theorem Hw{N:Int}{L K:Nat}{v:PV}(h:ez N L v)(hl:L<=16777216)(hK:N<10 ^ K)(YK:K<=1099511627776):Pure ai X G 131 [v] (fun r=>∃z,r= .str z/\1<=z.size/\z.size<=max 1 K):=by
 have hN:=h.ym;have hd:=h.deep;have h':=h;obtain⟨a,iR,mg,sD,ha,uz⟩:=h';have hv:=iR.qe;have bW:=iR.len;refine ay ap0 af ?_;refine nA (Kj hd (Kj hv bW)) ?_;open YJ in exact bp
end
end Go.Pi
end
section
open Go Go.Pi
namespace Go.Pi
variable{p q a:Prop}
section
variable{X:aS}{G:Nat->PV}
namespace YL
theorem cr(h:p:=by
 first
 |(exact⟨_,rfl,lr,cc,o2⟩)<;>exact bp
 |fail):p:=h
theorem bw(h:p:=by
 first
 |(refine aO (F2 1 ad ad) pQ lT ?_;rintro x hx;have bP:=hx.deep;refine aU bP ?_;exact bp)
 |(refine aO (Dn h hx ad ad ad) pQ lT ?_;rintro _ ⟨v,rfl,lr,cc,o2⟩;have bP:=hd;refine aU bP ?_;exact bp)
 |fail):p:=h
end YL
theorem YM{N:Int}{L:Nat}{v:PV}(h:ez N L v)(hl:L<=33554432):Pure ai X G 208 [v] (Ay N 1):=by
 have hd:=h.deep;refine ay arK af ?_;refine nA hd ?_;open YL LA in exact bp
theorem avq{s:ByteArray}{p q:Int}{i:Nat}(h0:0<=p)(h1:p<=q)(h2:q<=(s.size:Int))(hi:(i:Int)<q - p):jU (pn s p q) i=jU s (p+i):=by
 unfold jU pn;have e:(s.extract p.toNat q.toNat).data.toList=(s.data.toList.drop p.toNat).take (q.toNat - p.toNat):=by
  rw[ByteArray.data_extract,Array.toList_extract,List.extract_eq_take_drop]
 rw[e];simp only[List.getD_eq_getElem?_getD];rw[List.getElem?_take,if_pos ad,List.getElem?_drop];congr 4;omega
theorem iM.sub{base:Int}{z:ByteArray}{p q:Int}(h:iM X G base z)(h0:0<=p)(h1:p<=q)(h2:q<=(z.size:Int)):iM X G base (pn z p q):=by
 intro i hi;have hs:=MV h0 h1 h2;rw[avq h0 h1 h2 ad];have:=h (p.toNat+i) ad;rw[show((p.toNat+i:Nat):Int)=p+i by omega]at this;exact this
theorem iM.app{base:Int}{y z:ByteArray}(h:iM X G base y)(g:iM X G base z):iM X G base (y++z):=by
 intro i hi;rw[ByteArray.size_append]at hi;rw[Xi];split
 ·rename_i h1;exact h i h1
 ·rename_i h1;exact g (i - y.size) ad
namespace YN
theorem eV(x:a)(g:q)(h:a->q->p:=by(intro x g;exact nA (Kj x (Kj h0 (Kj h1 (Kj h0 (Kj h1 aI))))) g)):p:=h x g
theorem xc(h:p:=by
 first
 |(refine next _ ?_ _ ⟨_,_,ai8,ai8,vo,vo,rfl⟩;(first|exact wM|(subst hz;exact cg.sub ad ad ad)))
 |fail):p:=h
theorem BC(h:p:=by
 first
 |(exact⟨_,_,rfl,ad,ad⟩)<;>exact jr
 |fail):p:=h
theorem rO(h:p:=by
 first
 |(refine aO (JP _ 10 cg ad ad ad) pQ ve ?_;rintro gq ⟨N,hN⟩;have bP:=hN.deep;refine eV bP ?_;exact jr)
 |(refine aO (F2 1 ad ad) pQ ve ?_;rintro x hx;have bP:=hx.deep;refine eV bP ?_;exact jr)
 |(refine aO (sz 10 _ hN ad ad ad ad ad) pQ ve ?_;rintro x3 mT;have bP:=mT.deep;refine eV bP ?_;exact jr)
 |(refine aO (sz 10 _ hx ad ad ad ad ad) pQ ve ?_;rintro x3 mT;have bP:=mT.deep;refine eV bP ?_;exact jr)
 |(refine aO (Dn mT hx ad ad ad) pQ ve ?_;rintro _ ⟨v,rfl,lr,cc,o2⟩;have bP:=bP;refine eV bP ?_;exact jr)
 |(refine aO (Dn hN mT Q9 ad ad) pQ ve ?_;rintro _ ⟨v,rfl,lr,cc,o2⟩;have bP:=bP;refine eV bP ?_;exact jr)
 |fail):p:=h
end YN
namespace YO
theorem bx(x:a)(g:q)(h:a->q->p:=by(intro x g;exact nA (Kj x (Kj h0 (Kj h1 aI))) g)):p:=h x g
theorem gT(h:p:=by
 first
 |(refine next _ ?_ _ ⟨_,Fp,Fp,vo,vo,rfl⟩;(first|exact wM|(subst hz;exact cg.sub ad ad ad)))
 |fail):p:=h
theorem fu(h:p:=by
 first
 |skip
  all_goals
   refine b5 (fun m' s'=>∃(y2:ByteArray)(e2:Int),s'.t 0= .str y2/\s'.t 1= .int .i64 e2/\(iM X G base y2)/\(y2.size<=300)/\m'=y2.size) ?_ (n:=_) ⟨_,_,Fp,Fp,vo,vo,rfl⟩;rintro m' ⟨t,H,k⟩ ⟨y2,e2,h0,h1,cg,dH,hm⟩ next
   simp only at h0 h1;refine nA (Kj h0 (Kj h1 (Kj h0 h1))) ?_;open YN in exact jr
  done
 |fail):p:=h
end YO
namespace YP
theorem cr(h:p:=by
 first
 |(exact⟨_,_,rfl,ad,ad⟩)<;>exact bp
 |fail):p:=h
theorem bj(h:p:=by
 first
 |skip
  refine b5 (fun m' s'=>∃(y:ByteArray),s'.t 0= .str y/\s'.t 1= .int .i64 e/\(iM X G base y)/\(y.size<=300)/\m'=y.size) ?_ (n:=_) ⟨_,bV,bV,vo,vo,rfl⟩;rintro m' ⟨t,H,k⟩ ⟨y,h0,h1,cg,dH,hm⟩ next
  simp only at h0 h1;refine nA (Kj h0 h1) ?_;open YO in exact bN
  done
 |fail):p:=h
end YP
theorem avr{base:Int}(z:ByteArray)(e:Int)(hz:iM X G base z)(ec:z.size<=1099511627776):Pure ai X G 195 [.str z,.int .i64 e] (fun r=>∃v b,r= .bZ [.int .u64 v,.bool b]/\0<=v/\v<18446744073709551616):=by
 refine ay arx af ?_;refine zA ?_;open YP Y1 in exact bp
end
end Go.Pi
end
