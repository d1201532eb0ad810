import Derived.Test.YtofdfffpmbgogaaGreatDoorP09
import Derived.Test.YtofdfffpmbgogaaGreatDoorP10
import Derived.Test.YtofdfffpmbgogaaGreatDoorP11
import Derived.Test.YtofdfffpmbgogaaGreatDoorP12
import Derived.Test.YtofdfffpmbgogaaGreatDoorP13
import Derived.Test.YtofdfffpmbgogaaGreatDoorP18
import Derived.Test.YtofdfffpmbgogaaGreatDoorP27
import Derived.Test.YtofdfffpmbgogaaGreatDoorP28
import Derived.Test.YtofdfffpmbgogaaGreatDoorP29
import Derived.Test.YtofdfffpmbgogaaGreatDoorP31
/- Part of the proof. -/
set_option linter.all false
set_option maxHeartbeats 0
set_option maxRecDepth 100000
section
open Go Go.Pi
namespace Go.Pi.R
variable{p q a:Prop}
section
variable{X:aS}{G:Nat->PV}
namespace aaB
theorem cr(h:p:=by
 first
 |exact s7
 |exact kH
 |(refine qS (e:=e) 72 rfl rfl hF (fun R t0 H0 aI eU hR=>cG.2 ?_) (fun c g n' b1 hF=>?_)<;>(try refine cA ?_)<;>exact az)
 |(refine qS (e:=e) 80 rfl rfl hF (fun R t0 H0 aI eU hR=>cG.2 ?_) (fun c g n' b1 hF=>?_)<;>(try refine cA ?_)<;>exact az)
 |(refine qS (e:=e) 97 rfl rfl hF (fun R t0 H0 aI eU hR=>cG.2 ?_) (fun c g n' b1 hF=>?_)<;>(try refine cA ?_)<;>exact az)
 |fail):p:=h
theorem bw(h:p:=by
 first
 |exact ja
 |(refine dw (HA B ih _ Ns) cB dM hF ?_;exact fX)
 |(refine dw (jt hfz _) cB dM hF ?_;exact fX)
 |exact JR
 |(refine dw (jt hy _) cB dM hF ?_;exact fX)
 |fail):p:=h
end aaB
theorem r55{F:Int->ByteArray}(B:lG X G F){m:Nat}{kx vx:List PV}(ih:iS X G m)(jt:∀{y},FZ m y->∀k,Mt ai X G 61 [.agg y,.int .u64 k] (fun _=>da))(Ns:EZ m kx)(sT:EZ m vx)(gp yw:Int)(static:Bool):Mt ai X G 88 [.int .i64 gp,.int .i64 yw,.agg kx,.agg vx,.bool static] (fun _=>da):=by
 intro e aZ;have hF:aZ=true->aZ=true:=id;have awR:=Ns;obtain⟨fw,jL⟩:=awR;obtain⟨awS,aop,awU,awV,awW,ann,awY,awZ,aaE,aw0,aw1,aw2,aw3,rfl,ahn,aaF,aht,aaG,aaH,aaI,aaJ,aaK⟩:=fw.open (Nat.le_of_lt jL);have:=aaF.2.1;have:=aaG.2.1;have:=aaH.2.1;have:=aaI.2.1;have:=aaJ.2.1;have:=aaK.2.1;obtain⟨cc,cC⟩:=sT;have hm:=Nat.le_of_lt cC;obtain⟨kind,op,aA,chain,flags,nn,str,text,kids,bf,parts,aC,aG,rfl,hn,ao,ht,aq,aE,aD,av,au⟩:=cc.open (hm);rcases av.2.2 with lf|⟨rfl,hk⟩
 rotate_left
 ·have DB:aP [.int .i64 awS,.int .i64 aop,.int .i64 awU,.int .i64 awV,.int .i64 awW,.bR .f64 ann,awY,.str awZ,aaE,aw0,aw1,aw2,aw3]=true:=by simp only[aP,aw,aaF.2.1,aaG.2.1,aaH.2.1,aaI.2.1,aaJ.2.1,aaK.2.1,Bool.and_true]
  exact x55 DB gp yw static (fun c=>HA B ih c Ns) hk ao.1 aq.1 aE.1 aD.1 au.1 ak1 e aZ
 have av:=lf;have:=ao.1;have:=ao.2.1;have:=aq.1;have:=aq.2.1;have:=aE.1;have:=aE.2.1;have:=aD.1;have:=aD.2.1;have:=av.1;have:=av.2.1;have:=au.1;have:=au.2.1;have hfz:FZ m [.int .i64 (-1),.int .i64 0,.ah,.ah]:=⟨.mk _ _ _ _ (.inl rfl) o0 (.inl rfl) o0 ⟨ad,ad⟩ rfl,by
  have h1:SizeOf.sizeOf (-1:Int)=1:=rfl;have h2:SizeOf.sizeOf (0:Int)=1:=rfl;have h3:SizeOf.sizeOf IntKind.i64=1:=rfl;simp only[List.cons.sizeOf_spec,List.nil.sizeOf_spec,PV.int.sizeOf_spec,PV.ah.sizeOf_spec,PV.bR.sizeOf_spec,PV.str.sizeOf_spec,h1,h2]at cC⊢;omega⟩
 refine ay GQ af ?_ (by simp only[Dq,rl,rm,rn,dz ao.1,dz aq.1,dz aE.1,dz aD.1,dz av.1,dz au.1,iy,Option.map_none]);refine cA ?_;open aaB in exact az
end
end Go.Pi.R
end
section
open Go Go.Pi
namespace Go.Pi.R
variable{p q a:Prop}
section
variable{X:aS}{G:Nat->PV}
namespace aaL
theorem bj(h:p:=by
 first
 |skip
  have hB:=aD.1.len;have ej:Hid (_->aZ=true):=hF;clear hF;refine b5 (fun n s'=>∃(i:Nat)(b:Bool)(v:PV)(ys:List (List PV))(so:Nat),i+n=(ae parts).length/\s'.t 0= .ptr 0 0 0/\s'.t 3= .ptr 1 1 0/\s'.t 4= .ptr 2 2 0/\s'.t 5= .bool true/\s'.t 6= .ptr 3010 so 0/\s'.t 30=parts/\s'.t 31= .int .i64 (ae parts).length/\s'.t 32= .int .i64 i/\
   s'.H 0=some ⟨e,0,[.bool b],0⟩/\s'.H 1=some ⟨47,1,[.int .i64 kind,.int .i64 op,.int .i64 aA,.int .i64 chain,.int .i64 flags,.bR .f64 ff,str,.str text,kids,bf,parts,aC,aG],0⟩/\s'.H 2=some ⟨30,2,zN,0⟩/\s'.H 3010=some ⟨30,so,[.int .i64 108,.str (bs []),.str (bs []),.int .u64 0,v,.int .i64 0],0⟩/\
   aX [3008,9017] s'.H 30 6 v ys/\(∀y,y∈ys->Nd y)/\ys.length=2*i+1/\(b=true->aZ=true)) ?_ (n:=(ae parts).length)
   ⟨0,_,_,[_],_,af,nB,nB,nB,mQ,nB,nB,nB,nB,nB,nB,nB,nB,aX.xn af (nB) rfl BW,ai5,rfl,ej⟩
  rintro n ⟨t,H,k⟩ ⟨i,b,v,ys,so,hi,h0,h3,h4,h5,h6,DC,yu,DD,e0,e1,e2,DE,aY,dY,eY,gP⟩ next
  simp only at h0 h3 h4 h5 h6 DC yu DD e0 e1 e2 DE aY;clear ej;have ej:Hid (b=true->aZ=true):=gP;clear gP;have hF:b=true->b=true:=id;have hE:=fun(n:Nat) (H':al) (q1:H' 3008=H 3008) (q2:H' 9017=H 9017)=>(aX.dF (n:=n) (aY.frame (H':=H') zT))
  obtain⟨g1,g2,g3,g4⟩:=aY.gv;refine nA (Kj h0 (Kj h3 (Kj h4 (Kj h5 (Kj h6 (Kj DC (Kj yu (Kj DD (Kj e0 (Kj e1 (Kj e2 DE))))))))))) ?_;have nx:Hid _:=next
  clear next
  open dO Li Lk in exact bu
  done
 |fail):p:=h
end aaL
namespace aaM
theorem bj(h:p:=by
 first
 |skip
  have hB:=aD.1.len;have ej:Hid (_->aZ=true):=hF;clear hF;refine b5 (fun n s'=>∃(i:Nat)(b:Bool)(v:PV)(ys:List (List PV))(so:Nat),i+n=(ae parts).length/\s'.t 0= .ptr 0 0 0/\s'.t 3= .ptr 1 1 0/\s'.t 4= .ptr 2 2 0/\s'.t 5= .bool false/\s'.t 6= .ptr 3010 so 0/\s'.t 30=parts/\s'.t 31= .int .i64 (ae parts).length/\s'.t 32= .int .i64 i/\
   s'.H 0=some ⟨e,0,[.bool b],0⟩/\s'.H 1=some ⟨47,1,[.int .i64 kind,.int .i64 op,.int .i64 aA,.int .i64 chain,.int .i64 flags,.bR .f64 ff,str,.str text,kids,bf,parts,aC,aG],0⟩/\s'.H 2=some ⟨30,2,zN,0⟩/\s'.H 3010=some ⟨30,so,[.int .i64 108,.str (bs []),.str (bs []),.int .u64 0,v,.int .i64 0],0⟩/\
   aX [3008,9017] s'.H 30 6 v ys/\(∀y,y∈ys->Nd y)/\ys.length=2*i+1/\(b=true->aZ=true)) ?_ (n:=(ae parts).length)
   ⟨0,_,_,[_],_,af,nB,nB,nB,mQ,nB,nB,nB,nB,nB,nB,nB,nB,aX.xn af (nB) rfl BW,ai5,rfl,ej⟩
  rintro n ⟨t,H,k⟩ ⟨i,b,v,ys,so,hi,h0,h3,h4,h5,h6,DC,yu,DD,e0,e1,e2,DE,aY,dY,eY,gP⟩ next
  simp only at h0 h3 h4 h5 h6 DC yu DD e0 e1 e2 DE aY;clear ej;have ej:Hid (b=true->aZ=true):=gP;clear gP;have hF:b=true->b=true:=id;have hE:=fun(n:Nat) (H':al) (q1:H' 3008=H 3008) (q2:H' 9017=H 9017)=>(aX.dF (n:=n) (aY.frame (H':=H') zT))
  obtain⟨g1,g2,g3,g4⟩:=aY.gv;refine nA (Kj h0 (Kj h3 (Kj h4 (Kj h5 (Kj h6 (Kj DC (Kj yu (Kj DD (Kj e0 (Kj e1 (Kj e2 DE))))))))))) ?_;have nx:Hid _:=next
  clear next
  open dO Li Lk in exact bu
  done
 |fail):p:=h
end aaM
theorem r31{F:Int->ByteArray}(B:lG X G F){m:Nat}{x:List PV}(ih:iS X G m)(hx:aR x)(hm:SizeOf.sizeOf x<=m):Mt ai X G 48 [.agg x] (fun _=>da):=by
 intro e aZ;have hF:aZ=true->aZ=true:=id;obtain⟨kind,op,aA,chain,flags,nn,str,text,kids,bf,parts,aC,aG,rfl,hn,ao,ht,aq,aE,aD,av,au⟩:=hx.open (hm)
 rename Nat=>ff
 have:=ao.1;have:=ao.2.1;have:=aq.1;have:=aq.2.1;have:=aE.1;have:=aE.2.1;have:=aD.1;have:=aD.2.1;have:=av.1;have:=av.2.1;have:=au.1;have:=au.2.1;by_cases fw:((ae kids).length:Int)=1
 ·refine ay Ts af ?_;refine cA ?_;open aaL bi Ll in exact az
 ·refine ay Ts af ?_;refine cA ?_;open aaM bi Ll in exact az
end
end Go.Pi.R
end
section
open Go Go.Pi
namespace Go.Pi.R
variable{p q a:Prop}
section
variable{X:aS}{G:Nat->PV}
namespace aaN
theorem xz(h:p:=by
 first
 |skip
  skip;have hB:=aq.1.len;have ej:Hid (_->aZ=true):=hF;clear hF;refine b5 (fun n s'=>∃(i:Nat)(b:Bool),i+n=(ae kids).length/\s'.t 0= .ptr 0 0 0/\s'.t 3= .ptr 1 1 0/\s'.t 4= .ptr 2 2 0/\s'.t 5= .bool false/\s'.t 6= .bool true/\s'.t 7= .int .i64 2/\s'.t 46=kids/\s'.t 47= .int .i64 (ae kids).length/\s'.t 48= .int .i64 i/\
   s'.H 0=some ⟨e,0,[.bool b],0⟩/\s'.H 1=some ⟨55,1,[.int .i64 kind,.int .i64 op,aA,.int .i64 flags,str,exprs,kids,decls,cases,aC,aG],0⟩/\s'.H 2=some ⟨30,2,zN,0⟩/\(b=true->aZ=true)) ?_ (n:=(ae kids).length)
   ⟨0,_,af,nB,nB,nB,mQ,mQ,mQ,nB,Jx,nB,nB,nB,nB,ej⟩
  rintro n ⟨t,H,k⟩ ⟨i,b,hi,h0,h3,h4,h5,h6,h7,jt,gD,jg,e0,e1,e2,gP⟩ next
  simp only at h0 h3 h4 h5 h6 h7 jt gD jg e0 e1 e2;clear ej;have ej:Hid (b=true->aZ=true):=gP;clear gP;have hF:b=true->b=true:=id;refine nA (Kj h0 (Kj h3 (Kj h4 (Kj h5 (Kj h6 (Kj h7 (Kj jt (Kj gD (Kj jg (Kj e0 (Kj e1 e2))))))))))) ?_;have nx:Hid _:=next
  clear next
  open dO Gq Gr in exact bu
  done
 |fail):p:=h
theorem xA(h:p:=by
 first
 |skip
  skip;have hB:=aq.1.len;have ej:Hid (_->aZ=true):=hF;clear hF;refine b5 (fun n s'=>∃(i:Nat)(b:Bool),i+n=(ae kids).length/\s'.t 0= .ptr 0 0 0/\s'.t 3= .ptr 1 1 0/\s'.t 4= .ptr 2 2 0/\s'.t 5= .bool true/\s'.t 6= .bool false/\s'.t 7= .int .i64 2/\s'.t 46=kids/\s'.t 47= .int .i64 (ae kids).length/\s'.t 48= .int .i64 i/\
   s'.H 0=some ⟨e,0,[.bool b],0⟩/\s'.H 1=some ⟨55,1,[.int .i64 kind,.int .i64 op,aA,.int .i64 flags,str,exprs,kids,decls,cases,aC,aG],0⟩/\s'.H 2=some ⟨30,2,zN,0⟩/\(b=true->aZ=true)) ?_ (n:=(ae kids).length)
   ⟨0,_,af,nB,nB,nB,mQ,mQ,mQ,nB,Jx,nB,nB,nB,nB,ej⟩
  rintro n ⟨t,H,k⟩ ⟨i,b,hi,h0,h3,h4,h5,h6,h7,jt,gD,jg,e0,e1,e2,gP⟩ next
  simp only at h0 h3 h4 h5 h6 h7 jt gD jg e0 e1 e2;clear ej;have ej:Hid (b=true->aZ=true):=gP;clear gP;have hF:b=true->b=true:=id;refine nA (Kj h0 (Kj h3 (Kj h4 (Kj h5 (Kj h6 (Kj h7 (Kj jt (Kj gD (Kj jg (Kj e0 (Kj e1 e2))))))))))) ?_;have nx:Hid _:=next
  clear next
  open dO Gq Gr in exact bu
  done
 |fail):p:=h
theorem MX(h:p:=by
 first
 |skip
  skip;have hB:=aq.1.len;have ej:Hid (_->aZ=true):=hF;clear hF;refine b5 (fun n s'=>∃(i:Nat)(b:Bool),i+n=(ae kids).length/\s'.t 0= .ptr 0 0 0/\s'.t 3= .ptr 1 1 0/\s'.t 4= .ptr 2 2 0/\s'.t 5= .bool true/\s'.t 6= .bool true/\s'.t 7= .int .i64 3/\s'.t 46=kids/\s'.t 47= .int .i64 (ae kids).length/\s'.t 48= .int .i64 i/\
   s'.H 0=some ⟨e,0,[.bool b],0⟩/\s'.H 1=some ⟨55,1,[.int .i64 kind,.int .i64 op,aA,.int .i64 flags,str,exprs,kids,decls,cases,aC,aG],0⟩/\s'.H 2=some ⟨30,2,zN,0⟩/\(b=true->aZ=true)) ?_ (n:=(ae kids).length)
   ⟨0,_,af,nB,nB,nB,mQ,mQ,mQ,nB,Jx,nB,nB,nB,nB,ej⟩
  rintro n ⟨t,H,k⟩ ⟨i,b,hi,h0,h3,h4,h5,h6,h7,jt,gD,jg,e0,e1,e2,gP⟩ next
  simp only at h0 h3 h4 h5 h6 h7 jt gD jg e0 e1 e2;clear ej;have ej:Hid (b=true->aZ=true):=gP;clear gP;have hF:b=true->b=true:=id;refine nA (Kj h0 (Kj h3 (Kj h4 (Kj h5 (Kj h6 (Kj h7 (Kj jt (Kj gD (Kj jg (Kj e0 (Kj e1 e2))))))))))) ?_;have nx:Hid _:=next
  clear next
  open dO Gq Gr in exact bu
  done
 |fail):p:=h
theorem bj(h:p:=by
 first
 |skip
  all_goals first
  |exact xz
  |exact xA
  |exact MX
  |fail
  done
 |fail):p:=h
end aaN
theorem r77{F:Int->ByteArray}{m:Nat}{x:List PV}(ih:iS X G m)(xw:∀{y},BZ m y->Mt ai X G 103 [.agg y] (mB F y))(hx:bH x)(hm:SizeOf.sizeOf x<=m):Mt ai X G 108 [.agg x] (fun _=>da):=by
 intro e aZ;have hF:aZ=true->aZ=true:=id;obtain⟨kind,op,aA,flags,str,exprs,kids,decls,cases,aC,aG,rfl,jc,hr,ao,aN,aq,aL,aM,av,au⟩:=hx.open (hm);have:=jc.1;have:=jc.2.1;have:=ao.1;have:=ao.2.1;have:=aN.1;have:=aN.2.1;have:=aq.1;have:=aq.2.1;have:=aL.1;have:=aL.2.1;have:=aM.1;have:=aM.2.1;have:=av.1;have:=av.2.1;have:=au.1;have:=au.2.1;refine ay ao5 af ?_;have cP:IntKind.i64.wrap (1+1)=2:=by decide
 have hw3:IntKind.i64.wrap (2 - 1)=1:=by decide
 have p9:IntKind.i64.wrap (3 - 1)=2:=by decide
 have dI:IntKind.i64.wrap (2+1)=3:=by decide
 refine cA ?_;open aaN bi Lm in exact az
end
end Go.Pi.R
end
