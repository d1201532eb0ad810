import Derived.Test.YtofdfffpmbgogaaGreatDoorP18
import Derived.Test.YtofdfffpmbgogaaGreatDoorP34
/- Part of the proof. -/
set_option linter.all false
set_option maxHeartbeats 0
set_option maxRecDepth 100000
section
open Go Go.Pi
namespace Go.Pi
variable{p q a:Prop}
section
variable{K op aA ch fl:Int}{nn:Nat}{tx:ByteArray}{str kids bf parts aC je fd:PV}{ds:List (List PV)}
theorem G1(ls:aQ str)(lk:aQ kids)(lp:aQ bf)(lq:aQ parts)(lc:aQ je)(hf:cd aC fd)(ff:fd.flat=true)(hs:ae str=[])(hk:ae kids=[])(hp:ae bf=[])(hq:ae parts=[])(hc:aK (ae je) ds):
 dE [.int .i64 K,.int .i64 op,.int .i64 aA,.int .i64 ch,.int .i64 fl,.bR .f64 nn,str,.str tx,kids,bf,parts,aC,je] (Xd K op aA ch fl nn e0 tx e0 e0 e0 fd (.sl ds)):=
 XL ls lk lp lq lc hs af (by rw[hk];exact .nil) (by rw[hp];exact .nil) (by rw[hq];exact .nil) hf ff hc
theorem G2{v:PV}{y:List PV}(h:(ae v).length=1)(hy:(ae v)[(0:Int).toNat]?=some y):ae v=[y]:=by
 obtain⟨a,e⟩:=ki h;rw[e]at hy⊢;simp at hy;rw[hy]
theorem aK.one{x d:List PV}(h:dE x d):aK [x] [d]:=aK.nil.snoc h
end
section
variable{X:aS}{G:Nat->PV}
abbrev nK(X:aS)(G:Nat->PV)(m:Nat):Prop:=∀{y:List PV},CZ m y->sj y->Pure ai X G 113 [.agg y] (NC y)
abbrev nL(X:aS)(G:Nat->PV)(m:Nat):Prop:=∀{y:List PV},FZ m y->oB false y->Pure ai X G 112 [.agg y] (NF y)
abbrev vT(X:aS)(G:Nat->PV)(m:Nat):Prop:=∀{y:List PV},FZ m y->oB true y->Pure ai X G 164 [.agg y] (NA 22 y)
namespace Vs
theorem cr(h:p:=by
 first
 |((exact⟨_,_,_,rfl,dT,.await _ _ cv (XK aJ (.one cv.ht)),mC ao.1 aq.1 aE.1 aD.1 av.1 au.1 hl ax ax ax ax ax⟩))<;>exact az
 |exact kH
 |fail):p:=h
end Vs
theorem asW{m:Nat}{x:List PV}{w:PV}{ds:List (List PV)}(hx:aR x)(hm:SizeOf.sizeOf x<=m)(ok:cD x)(hk:bl x=28)(hw:br CE w ds)(dB:aK (ae (x.getD 8 .undef)) ds):Pure ai X G 145 [.agg x,w] (NX x):=by
 obtain⟨kind,op,aA,chain,flags,nn,str,text,kids,bf,parts,aC,aG,rfl,hn,ao,ht,aq,aE,aD,av,au⟩:=hx.open (hm);have bX:aR [PV.int .i64 kind,.int .i64 op,.int .i64 aA,.int .i64 chain,.int .i64 flags,.bR .f64 nn,str,.str text,kids,bf,parts,aC,aG]:=hx;simp only[cQ]at hk;subst hk;have hl:aK (ae kids) ds:=dB;clear dB;cases ok with
 |mk _ _ _ _ _ _ _ _ _ _ _ _ _ hf hK eW qa oA eR fB=>
 have mD:(ae kids).length=1:=by unfold gN at hK;omega
 revert hf;simp[fP,ia];intros;subst_vars;have eB:=hl.1
 (try have lE:=fA (n:=op) ad ad)
 (try have lF:=fA (n:=chain) ad ad)
 have bz:=bz;obtain⟨d0,rfl⟩:=ki (l:=ds) ad;obtain⟨u0,y0,rfl,iQ,cv⟩:=hw.one;have lw:aQ (.sl [[.aj u0 y0,ab]]):=hw.1.1;have ln:([[.aj u0 y0,ab]]:List (List PV)).length=1:=rfl;have jf:aw (.sl [[.aj u0 y0,ab]])=true:=hw.1.2.1;have jX:db 2 (.sl [[.aj u0 y0,ab]]) (.int .i64 0)=some (.fp [.aj u0 y0,ab],none):=rfl;have:=ao.1;have:=ao.2.1;have:=aq.1;have:=aq.2.1;have:=aE.1;have:=aE.2.1;have:=aD.1;have:=aD.2.1;have:=av.1;have:=av.2.1;have:=au.1;have:=au.2.1;refine ay si af ?_;refine cA ?_;open Vs Gw in exact az
namespace Vt
theorem cr(h:p:=by
 first
 |((exact⟨_,_,_,rfl,dT,.T1 (XK aJ .nil),mC ao.1 aq.1 aE.1 aD.1 av.1 au.1 hl ax ax ax ax ax⟩))<;>exact az
 |exact kH
 |fail):p:=h
end Vt
namespace Vu
theorem cr(h:p:=by
 first
 |((exact⟨_,_,_,rfl,dT,.Mu _ _ false cv (XK aJ (.one cv.ht)),mC ao.1 aq.1 aE.1 aD.1 av.1 au.1 hl ax ax ax ax ax⟩))<;>exact az
 |exact kH
 |fail):p:=h
end Vu
namespace Vv
theorem cr(h:p:=by
 first
 |((exact⟨_,_,_,rfl,dT,.Mu _ _ true cv (XK aJ (.one cv.ht)),mC ao.1 aq.1 aE.1 aD.1 av.1 au.1 hl ax ax ax ax ax⟩))<;>exact az
 |exact kH
 |fail):p:=h
end Vv
theorem asX{m:Nat}{x:List PV}{w:PV}{ds:List (List PV)}(hx:aR x)(hm:SizeOf.sizeOf x<=m)(ok:cD x)(hk:bl x=29)(hw:br CE w ds)(dB:aK (ae (x.getD 8 .undef)) ds):Pure ai X G 145 [.agg x,w] (NX x):=by
 obtain⟨kind,op,aA,chain,flags,nn,str,text,kids,bf,parts,aC,aG,rfl,hn,ao,ht,aq,aE,aD,av,au⟩:=hx.open (hm);have bX:aR [PV.int .i64 kind,.int .i64 op,.int .i64 aA,.int .i64 chain,.int .i64 flags,.bR .f64 nn,str,.str text,kids,bf,parts,aC,aG]:=hx;simp only[cQ]at hk;subst hk;have hl:aK (ae kids) ds:=dB;clear dB;cases ok with
 |mk _ _ _ _ _ _ _ _ _ _ _ _ _ hf hK eW qa oA eR fB=>
 have mD:(ae kids).length<=1/\(flags=0\/(ae kids).length=1):=by unfold gN at hK;omega
 revert hf;simp[fP,ia];intros;subst_vars;have eB:=hl.1
 (try have lE:=fA (n:=op) ad ad)
 (try have lF:=fA (n:=chain) ad ad)
 have bz:=bz;have z1:decide (bits .and .i64 512 512=0)=false:=by decide
 by_cases h0:(ae kids).length=0
 ·obtain rfl:flags=0:=by omega
  obtain rfl:ds=[]:=List.eq_nil_of_length_eq_zero ad;have lw:=hw.1.1;have jf:=hw.1.2.1;have xY:(ae w).length=0:=hw.1.2.2;have:=ao.1;have:=ao.2.1;have:=aq.1;have:=aq.2.1;have:=aE.1;have:=aE.2.1;have:=aD.1;have:=aD.2.1;have:=av.1;have:=av.2.1;have:=au.1;have:=au.2.1;refine ay si af ?_;refine cA ?_;open Vt Lp in exact az
 ·have gj:(ae kids).length=1:=by omega
  obtain⟨d0,rfl⟩:=ki (l:=ds) ad;obtain⟨u0,y0,rfl,iQ,cv⟩:=hw.one;have lw:aQ (.sl [[.aj u0 y0,ab]]):=hw.1.1;have ln:([[.aj u0 y0,ab]]:List (List PV)).length=1:=rfl;have jf:aw (.sl [[.aj u0 y0,ab]])=true:=hw.1.2.1;have jX:db 2 (.sl [[.aj u0 y0,ab]]) (.int .i64 0)=some (.fp [.aj u0 y0,ab],none):=rfl;rcases‹flags=0\/flags=512›with rfl|rfl
  ·have:=ao.1;have:=ao.2.1;have:=aq.1;have:=aq.2.1;have:=aE.1;have:=aE.2.1;have:=aD.1;have:=aD.2.1;have:=av.1;have:=av.2.1;have:=au.1;have:=au.2.1;refine ay si af ?_;refine cA ?_;open Vu Gw in exact az
  ·have:=ao.1;have:=ao.2.1;have:=aq.1;have:=aq.2.1;have:=aE.1;have:=aE.2.1;have:=aD.1;have:=aD.2.1;have:=av.1;have:=av.2.1;have:=au.1;have:=au.2.1;refine ay si af ?_;refine cA ?_;open Vv Gw in exact az
namespace Vw
theorem cr(h:p:=by
 first
 |((exact⟨_,_,_,rfl,dT,.TU (XK aJ .nil),mC ao.1 aq.1 aE.1 aD.1 av.1 au.1 hl ax ax ax ax ax⟩))<;>exact az
 |exact kH
 |fail):p:=h
end Vw
theorem asY{m:Nat}{x:List PV}{w:PV}{ds:List (List PV)}(hx:aR x)(hm:SizeOf.sizeOf x<=m)(ok:cD x)(hk:bl x=31)(hw:br CE w ds)(dB:aK (ae (x.getD 8 .undef)) ds):Pure ai X G 145 [.agg x,w] (NX x):=by
 obtain⟨kind,op,aA,chain,flags,nn,str,text,kids,bf,parts,aC,aG,rfl,hn,ao,ht,aq,aE,aD,av,au⟩:=hx.open (hm);have bX:aR [PV.int .i64 kind,.int .i64 op,.int .i64 aA,.int .i64 chain,.int .i64 flags,.bR .f64 nn,str,.str text,kids,bf,parts,aC,aG]:=hx;simp only[cQ]at hk;subst hk;have hl:aK (ae kids) ds:=dB;clear dB;cases ok with
 |mk _ _ _ _ _ _ _ _ _ _ _ _ _ hf hK eW qa oA eR fB=>
 have mD:(ae kids).length=0:=by unfold gN at hK;omega
 revert hf;simp[fP,ia];intros;subst_vars;have eB:=hl.1
 (try have lE:=fA (n:=op) ad ad)
 (try have lF:=fA (n:=chain) ad ad)
 have bz:=bz;obtain rfl:ds=[]:=List.eq_nil_of_length_eq_zero ad;have lw:=hw.1.1;have jf:=hw.1.2.1;have xY:(ae w).length=0:=hw.1.2.2;have:=ao.1;have:=ao.2.1;have:=aq.1;have:=aq.2.1;have:=aE.1;have:=aE.2.1;have:=aD.1;have:=aD.2.1;have:=av.1;have:=av.2.1;have:=au.1;have:=au.2.1;refine ay si af ?_;refine cA ?_;open Vw Lp in exact az
namespace Vx
theorem cr(h:p:=by
 first
 |((exact⟨_,_,_,rfl,dT,.Ms _ ⟨ad,ad⟩ (oE aJ aJ),oF ao.1 aq.1 aE.1 aD.1 av.1 au.1 ax (List.eq_nil_of_length_eq_zero ad) ax ax ax ax⟩))<;>exact az
 |exact FR
 |((simp only[ge_iff_le, *];exact⟨_,_,_,rfl,dT,.Ms _ ⟨ad,ad⟩ (oE aJ aJ),oF ao.1 aq.1 aE.1 aD.1 av.1 au.1 ax (List.eq_nil_of_length_eq_zero ad) ax ax ax ax⟩))<;>exact az
 |exact kH
 |fail):p:=h
end Vx
theorem asZ{m:Nat}{x:List PV}{w:PV}{ds:List (List PV)}(hx:aR x)(hm:SizeOf.sizeOf x<=m)(ok:cD x)(hk:bl x=32)(hw:br CE w ds)(dB:aK (ae (x.getD 8 .undef)) ds):Pure ai X G 145 [.agg x,w] (NX x):=by
 obtain⟨kind,op,aA,chain,flags,nn,str,text,kids,bf,parts,aC,aG,rfl,hn,ao,ht,aq,aE,aD,av,au⟩:=hx.open (hm);have bX:aR [PV.int .i64 kind,.int .i64 op,.int .i64 aA,.int .i64 chain,.int .i64 flags,.bR .f64 nn,str,.str text,kids,bf,parts,aC,aG]:=hx;simp only[cQ]at hk;subst hk;have hl:aK (ae kids) ds:=dB;clear dB;cases ok with
 |mk _ _ _ _ _ _ _ _ _ _ _ _ _ hf hK eW qa oA eR fB=>
 have mD:(ae kids).length=0/\0<=aA/\aA<1000:=by unfold gN at hK;omega
 revert hf;simp[fP,ia];intros;subst_vars;have eB:=hl.1
 (try have lE:=fA (n:=op) ad ad)
 (try have lF:=fA (n:=chain) ad ad)
 have bz:=bz;obtain rfl:ds=[]:=List.eq_nil_of_length_eq_zero ad;have lw:=hw.1.1;have jf:=hw.1.2.1;have xY:(ae w).length=0:=hw.1.2.2;have hwr:=nJ (n:=aA) ad ad;have:=ao.1;have:=ao.2.1;have:=aq.1;have:=aq.2.1;have:=aE.1;have:=aE.2.1;have:=aD.1;have:=aD.2.1;have:=av.1;have:=av.2.1;have:=au.1;have:=au.2.1;refine ay si af ?_;refine cA ?_;open Vx Cm in exact az
namespace Vy
theorem bw(h:p:=by
 first
 |(refine aO ((show nK X G m from kI) ‹CZ _ _› ((show∀y,y∈ae aG->sj y from fB) _ b6)) bS (cB) ?_;rintro _ ⟨nm,k1,v1,dc,rfl,⟨gj,lI⟩,⟨fw,jL⟩,cc,cC,l8,nU⟩;have zm:=fun(n:Nat) (H:al)=>aH (n:=n) (H:=H) lI;have xZ:=fun(n:Nat) (H:al)=>aH (n:=n) (H:=H) jL;have AW:=fun(n:Nat) (H:al)=>aH (n:=n) (H:=H) cC;have jw:=fQ (cc.imp id fun⟨xs,h,_⟩=>⟨xs,h⟩);refine cA ?_)<;>exact az
 |fail):p:=h
theorem bj(h:p:=by
 first
 |skip
  exact⟨_,_,_,rfl,dT,.je _ _ _ _ l8 (XT (df:=[]) aJ .nil aJ .nil .nil .nil (.inl ⟨rfl,.nil⟩) (.one l8.ht)),G1 ao.1 aq.1 aE.1 aD.1 au.1 (iC av.1 ax) rfl ax (List.eq_nil_of_length_eq_zero ad) ax ax (by rw[G2 mD.2 hg];exact .one nU)⟩;done
 |fail):p:=h
end Vy
theorem as1{m:Nat}{x:List PV}{w:PV}{ds:List (List PV)}(kI:nK X G m)(hx:aR x)(hm:SizeOf.sizeOf x<=m)(ok:cD x)(hk:bl x=30)(hw:br CE w ds)(dB:aK (ae (x.getD 8 .undef)) ds):Pure ai X G 145 [.agg x,w] (NX x):=by
 obtain⟨kind,op,aA,chain,flags,nn,str,text,kids,bf,parts,aC,aG,rfl,hn,ao,ht,aq,aE,aD,av,au⟩:=hx.open (hm);have bX:aR [PV.int .i64 kind,.int .i64 op,.int .i64 aA,.int .i64 chain,.int .i64 flags,.bR .f64 nn,str,.str text,kids,bf,parts,aC,aG]:=hx;simp only[cQ]at hk;subst hk;have hl:aK (ae kids) ds:=dB;clear dB;cases ok with
 |mk _ _ _ _ _ _ _ _ _ _ _ _ _ hf hK eW qa oA eR fB=>
 have mD:(ae kids).length=0/\(ae aG).length=1:=by unfold gN at hK;omega
 revert hf;simp[fP,ia];intros;subst_vars;have eB:=hl.1
 (try have lE:=fA (n:=op) ad ad)
 (try have lF:=fA (n:=chain) ad ad)
 have bz:=bz;obtain rfl:ds=[]:=List.eq_nil_of_length_eq_zero ad;have lw:=hw.1.1;have jf:=hw.1.2.1;have xY:(ae w).length=0:=hw.1.2.2;have lI:=mD.2;have fB:Hid (∀y,y∈ae aG->sj y):=fB;have kI:Hid (nK X G m):=kI;have:=ao.1;have:=ao.2.1;have:=aq.1;have:=aq.2.1;have:=aE.1;have:=aE.2.1;have:=aD.1;have:=aD.2.1;have:=av.1;have:=av.2.1;have:=au.1;have:=au.2.1;refine ay si af ?_;refine cA ?_;open Vy qY in exact az
namespace Vz
theorem bw(h:p:=by
 first
 |(refine aO ((show nL X G m from kJ) ‹FZ _ _› ((show∀y,y∈ae aC->oB false y from eR) _ b6)) bS (cB) ?_;rintro _ ⟨nm,ar,bd,r1,r2,b1,b2,b3,df,rfl,⟨gj,lI⟩,rc,pF,cc,cC,rH,zo,A4⟩;have zm:=fun(n:Nat) (H:al)=>aH (n:=n) (H:=H) lI;have hsa:=fun(n:Nat) (H:al)=>aH (n:=n) (H:=H) pF;have MP:=fQ (rc.imp id fun⟨xs,h,_⟩=>⟨xs,h⟩);have AW:=fun(n:Nat) (H:al)=>aH (n:=n) (H:=H) cC;have jw:=fQ (cc.imp id fun⟨xs,h,_⟩=>⟨xs,h⟩);refine cA ?_)<;>exact az
 |fail):p:=h
theorem bj(h:p:=by
 first
 |skip
  have wI:=G2 mD.2 hg;by_cases tr:nm= .bF/\(ae ar).length=0/\(ae bd).length=0/\b1=false/\b2=false
  ·obtain⟨rfl,t1,t2,rfl,rfl⟩:=tr;have t3:b3=false:=by cases b3;rfl;have:=A4 rfl;omega
   subst t3;refine⟨_,_,_,rfl,dT,.Ub _ _ _ _ _ ⟨rc,pF,t1⟩ ⟨cc,cC,t2⟩ (XT (df:=[]) aJ .nil aJ .nil .nil .nil (.inr ⟨rfl,.inl rfl⟩) .nil),G1 ao.1 aq.1 aE.1 aD.1 au.1 ?_ rfl ax (List.eq_nil_of_length_eq_zero ad) ax ax zU⟩;cases rH with
   |mk _ _ _ _ _ _ _ _ _ gs ss IF la ha lb hb ht=>
    cases IF;have e1:gs=[]:=List.eq_nil_of_length_eq_zero (by have:=la.2.2;omega);have e2:ss=[]:=List.eq_nil_of_length_eq_zero (by have:=lb.2.2;omega);subst e1 e2;exact cd.trans (cd.sl av.1 (by rw[wI];exact .one zo)) (cd.qh rfl)
  ·refine⟨_,_,_,rfl,dT,.fn _ _ _ _ _ _ _ _ _ ?_ rH (XT aJ .nil aJ .nil .nil .nil (.inl ⟨rfl,.one rH.ht⟩) .nil),G1 ao.1 aq.1 aE.1 aD.1 au.1 (cd.sl av.1 (by rw[wI];exact .one zo)) rfl ax (List.eq_nil_of_length_eq_zero ad) ax ax zU⟩;by_cases e1:nm= .bF
   ·by_cases e2:(ae ar).length=0
    ·by_cases e3:(ae bd).length=0
     ·cases b1
      ·cases b2
       ·exact absurd ⟨e1,e2,e3,rfl,rfl⟩ tr
       ·exact .inr (.inr (.inr (.inr rfl)))
      ·exact .inr (.inr (.inr (.inl rfl)))
     ·exact .inr (.inr (.inl ad))
    ·exact .inr (.inl ad)
   ·exact .inl e1
  done
 |fail):p:=h
end Vz
theorem as3{m:Nat}{x:List PV}{w:PV}{ds:List (List PV)}(kJ:nL X G m)(hx:aR x)(hm:SizeOf.sizeOf x<=m)(ok:cD x)(hk:bl x=21)(hw:br CE w ds)(dB:aK (ae (x.getD 8 .undef)) ds):Pure ai X G 145 [.agg x,w] (NX x):=by
 obtain⟨kind,op,aA,chain,flags,nn,str,text,kids,bf,parts,aC,aG,rfl,hn,ao,ht,aq,aE,aD,av,au⟩:=hx.open (hm);have bX:aR [PV.int .i64 kind,.int .i64 op,.int .i64 aA,.int .i64 chain,.int .i64 flags,.bR .f64 nn,str,.str text,kids,bf,parts,aC,aG]:=hx;simp only[cQ]at hk;subst hk;have hl:aK (ae kids) ds:=dB;clear dB;cases ok with
 |mk _ _ _ _ _ _ _ _ _ _ _ _ _ hf hK eW qa oA eR fB=>
 have mD:(ae kids).length=0/\(ae aC).length=1:=by unfold gN at hK;omega
 revert hf;simp[fP,ia];intros;subst_vars;have eB:=hl.1
 (try have lE:=fA (n:=op) ad ad)
 (try have lF:=fA (n:=chain) ad ad)
 have bz:=bz;obtain rfl:ds=[]:=List.eq_nil_of_length_eq_zero ad;have lw:=hw.1.1;have jf:=hw.1.2.1;have xY:(ae w).length=0:=hw.1.2.2;have eR:Hid (∀y,y∈ae aC->oB false y):=eR;have kJ:Hid (nL X G m):=kJ;have lI:=mD.2;have:=ao.1;have:=ao.2.1;have:=aq.1;have:=aq.2.1;have:=aE.1;have:=aE.2.1;have:=aD.1;have:=aD.2.1;have:=av.1;have:=av.2.1;have:=au.1;have:=au.2.1;refine ay si af ?_;refine cA ?_;open Vz qY in exact az
namespace VA
theorem bw(h:p:=by
 first
 |(refine aO ((show vT X G m from re) ‹FZ _ _› ((show∀y,y∈ae aC->oB true y from eR) _ b6)) bS (cB) ?_;rintro _ ⟨t1,k1,fd,rfl,fw,hce,rK,MA⟩;have xZ:=fun(n:Nat) (H:al)=>aH (n:=n) (H:=H) fw;refine cA ?_)<;>exact az
 |fail):p:=h
theorem bj(h:p:=by
 first
 |skip
  exact⟨_,_,_,rfl,fw,hce,G1 ao.1 aq.1 aE.1 aD.1 au.1 (rK _ av.1 (G2 mD.2 hg)) MA ax (List.eq_nil_of_length_eq_zero ad) ax ax zU⟩;done
 |fail):p:=h
end VA
theorem as5{m:Nat}{x:List PV}{w:PV}{ds:List (List PV)}(re:vT X G m)(hx:aR x)(hm:SizeOf.sizeOf x<=m)(ok:cD x)(hk:bl x=22)(hw:br CE w ds)(dB:aK (ae (x.getD 8 .undef)) ds):Pure ai X G 145 [.agg x,w] (NX x):=by
 obtain⟨kind,op,aA,chain,flags,nn,str,text,kids,bf,parts,aC,aG,rfl,hn,ao,ht,aq,aE,aD,av,au⟩:=hx.open (hm);have bX:aR [PV.int .i64 kind,.int .i64 op,.int .i64 aA,.int .i64 chain,.int .i64 flags,.bR .f64 nn,str,.str text,kids,bf,parts,aC,aG]:=hx;simp only[cQ]at hk;subst hk;have hl:aK (ae kids) ds:=dB;clear dB;cases ok with
 |mk _ _ _ _ _ _ _ _ _ _ _ _ _ hf hK eW qa oA eR fB=>
 have mD:(ae kids).length=0/\(ae aC).length=1:=by unfold gN at hK;omega
 revert hf;simp[fP,ia];intros;subst_vars;have eB:=hl.1
 (try have lE:=fA (n:=op) ad ad)
 (try have lF:=fA (n:=chain) ad ad)
 have bz:=bz;obtain rfl:ds=[]:=List.eq_nil_of_length_eq_zero ad;have lw:=hw.1.1;have jf:=hw.1.2.1;have xY:(ae w).length=0:=hw.1.2.2;have eR:Hid (∀y,y∈ae aC->oB true y):=eR;have re:Hid (vT X G m):=re;have lI:=mD.2;have:=ao.1;have:=ao.2.1;have:=aq.1;have:=aq.2.1;have:=aE.1;have:=aE.2.1;have:=aD.1;have:=aD.2.1;have:=av.1;have:=av.2.1;have:=au.1;have:=au.2.1;refine ay si af ?_;refine cA ?_;open VA qY in exact az
theorem akf{m:Nat}{x:List PV}{w:PV}{ds:List (List PV)}(hx:aR x)(hm:SizeOf.sizeOf x<=m)(hk:bl x<=20\/bl x=25\/bl x=26)(hw:br CE w ds):Pure ai X G 145 [.agg x,w] xX:=by
 obtain⟨kind,op,aA,chain,flags,nn,str,text,kids,bf,parts,aC,aG,rfl,hn,ao,ht,aq,aE,aD,av,au⟩:=hx.open (hm);simp only[cQ]at hk;obtain⟨g21,g22,g28,g29,g30,g31,g32⟩:decide (kind=21)=false/\decide (kind=22)=false/\decide (kind=28)=false/\decide (kind=29)=false/\decide (kind=30)=false/\decide (kind=31)=false/\decide (kind=32)=false:=by simp only[decide_eq_false_iff_not];omega
 have lw:=hw.1.1;have jf:=hw.1.2.1;have:=ao.1;have:=ao.2.1;have:=aq.1;have:=aq.2.1;have:=aE.1;have:=aE.2.1;have:=aD.1;have:=aD.2.1;have:=av.1;have:=av.2.1;have:=au.1;have:=au.2.1;refine ay si af ?_;refine cA ?_;open vO in exact az
end
end Go.Pi
end
section
open Go Go.Pi
namespace Go.Pi
variable{p q a:Prop}
section
variable{X:aS}{G:Nat->PV}
namespace VB
theorem bj(h:p:=by
 first
 |skip
  exact⟨_,_,_,rfl,dT,.array _ _ hw.1 hw.2 (XK aJ (hw.ty fun _ _ h=>h.ht)),mC ao.1 aq.1 aE.1 aD.1 av.1 au.1 hl ax ax ax ax ax⟩;done
 |fail):p:=h
end VB
theorem as7{m:Nat}{x:List PV}{w:PV}{ds:List (List PV)}(hx:aR x)(hm:SizeOf.sizeOf x<=m)(ok:cD x)(hk:bl x=11)(hw:br CE w ds)(dB:aK (ae (x.getD 8 .undef)) ds):Pure ai X G 149 [.agg x,w] (NX x):=by
 obtain⟨kind,op,aA,chain,flags,nn,str,text,kids,bf,parts,aC,aG,rfl,hn,ao,ht,aq,aE,aD,av,au⟩:=hx.open (hm);have bX:aR [PV.int .i64 kind,.int .i64 op,.int .i64 aA,.int .i64 chain,.int .i64 flags,.bR .f64 nn,str,.str text,kids,bf,parts,aC,aG]:=hx;simp only[cQ]at hk;subst hk;have hl:aK (ae kids) ds:=dB;clear dB;cases ok with
 |mk _ _ _ _ _ _ _ _ _ _ _ _ _ hf hK eW qa oA eR fB=>
 have mD:0<=(ae kids).length:=by unfold gN at hK;omega
 revert hf;simp[fP,ia];intros;subst_vars;have eB:=hl.1
 (try have lE:=fA (n:=op) ad ad)
 (try have lF:=fA (n:=chain) ad ad)
 have bz:=bz;have lw:=hw.1.1;have jf:=hw.1.2.1;have MQ:=fun(n:Nat) (H:al)=>aH (n:=n) (H:=H) jf
 have Dc:=fQ (lw.imp id fun⟨xs,h,_⟩=>⟨xs,h⟩);have:=ao.1;have:=ao.2.1;have:=aq.1;have:=aq.2.1;have:=aE.1;have:=aE.2.1;have:=aD.1;have:=aD.2.1;have:=av.1;have:=av.2.1;have:=au.1;have:=au.2.1;refine ay GS af ?_;refine cA ?_;open VB bi in exact az
namespace VC
theorem bw(h:p:=by
 first
 |(refine aO (asA aE (show∀y,y∈ae bf->ug y from qa) (show dK X G m from ci)) jQ (cB) ?_;rintro _ ⟨w1,tK,rfl,cP,bL⟩;have qT:=cP.1.1;have qU:=cP.1.2.1;have J1:=fQ (qT.imp id fun⟨xs,h,_⟩=>⟨xs,h⟩);have J2:=fun(n:Nat) (H:al)=>aH (n:=n) (H:=H) qU;refine cA ?_)<;>exact az
 |fail):p:=h
theorem bj(h:p:=by
 first
 |skip
  exact⟨_,_,_,rfl,dT,.C3 _ _ cP.1 cP.2 (XT (df:=[]) aJ .nil aJ .nil (cP.ty fun _ _ h=>h.ht) .nil (.inl ⟨rfl,.nil⟩) .nil),XL ao.1 aq.1 aE.1 aD.1 au.1 ax af hl bL (by rw[‹ae parts=[]›];exact .nil) (iC av.1 ax) rfl zU⟩;done
 |fail):p:=h
end VC
theorem as8{m:Nat}{x:List PV}{w:PV}{ds:List (List PV)}(ci:dK X G m)(hx:aR x)(hm:SizeOf.sizeOf x<=m)(ok:cD x)(hk:bl x=12)(hw:br CE w ds)(dB:aK (ae (x.getD 8 .undef)) ds):Pure ai X G 149 [.agg x,w] (NX x):=by
 obtain⟨kind,op,aA,chain,flags,nn,str,text,kids,bf,parts,aC,aG,rfl,hn,ao,ht,aq,aE,aD,av,au⟩:=hx.open (hm);have bX:aR [PV.int .i64 kind,.int .i64 op,.int .i64 aA,.int .i64 chain,.int .i64 flags,.bR .f64 nn,str,.str text,kids,bf,parts,aC,aG]:=hx;simp only[cQ]at hk;subst hk;have hl:aK (ae kids) ds:=dB;clear dB;cases ok with
 |mk _ _ _ _ _ _ _ _ _ _ _ _ _ hf hK eW qa oA eR fB=>
 have mD:(ae kids).length=0:=by unfold gN at hK;omega
 revert hf;simp[fP,ia];intros;subst_vars;have eB:=hl.1
 (try have lE:=fA (n:=op) ad ad)
 (try have lF:=fA (n:=chain) ad ad)
 have bz:=bz;obtain rfl:ds=[]:=List.eq_nil_of_length_eq_zero ad;have lw:=hw.1.1;have jf:=hw.1.2.1;have xY:(ae w).length=0:=hw.1.2.2;have qa:Hid (∀y,y∈ae bf->ug y):=qa;have ci:Hid (dK X G m):=ci;have:=ao.1;have:=ao.2.1;have:=aq.1;have:=aq.2.1;have:=aE.1;have:=aE.2.1;have:=aD.1;have:=aD.2.1;have:=av.1;have:=av.2.1;have:=au.1;have:=au.2.1;refine ay GS af ?_;refine cA ?_;open VC bi in exact az
namespace VD
theorem rP(h:p:=by
 first
 |skip
  exact⟨abl,_,_,_,rfl,zV,.T4 _ _ (ae str) _ _ (C7 g1 g2 g3 ao) g3 cP.1 cP.2 (XT (df:=[]) aJ (C6 ao) ht .nil .nil (cP.ty fun _ _ h=>h.ht) (.inl ⟨rfl,.nil⟩) .nil),XL ao.1 aq.1 aE.1 aD.1 au.1 rfl (fun x hx=>ao.2.2 x hx) hl Rh bL (iC av.1 ax) rfl zU⟩;done
 |fail):p:=h
end VD
namespace VE
theorem fu(h:p:=by
 first
 |skip
  refine⟨ajq,?_⟩;open VD Lq Lr in exact iX
  done
 |fail):p:=h
end VE
namespace VF
theorem bj(h:p:=by
 first
 |skip
  refine oz (A:=[8003,8006]) (ys:=[]) (r:=str) (zB) (ao.1.imp id (fun⟨xs,h,_⟩=>⟨xs,h⟩)) ao.2.1 (fun c hc=>FB) zy af Fx (fun v' H' fb bI hf fq hz=>?_);obtain⟨zz,rfl,mR⟩:=hz _ _ rfl;have e1:=hf 1 af
  replace e1:=aaD e1
  have um:=hZ bI;have hE:=fun(n:Nat) (fJ:al) (q1:fJ 8003=H' 8003) (q2:fJ 8006=H' 8006)=>(aX.dF (n:=n) (bI.frame (H':=fJ) pR))
  obtain⟨g1,g2,g3,g4⟩:=bI.gv;rw[List.nil_append]at g1 g2 g3;refine cA ?_;open VE dO Gu in exact bu
  done
 |fail):p:=h
end VF
namespace VG
theorem rP(h:p:=by
 first
 |skip
  exact⟨abl,_,_,_,rfl,zV,.Ua _ _ _ _ (ae str) _ _ cv (C7 g1 g2 g3 ao) g3 cP.1 cP.2 (XT (df:=[]) aJ (C6 ao) ht (.one cv.ht) .nil (cP.ty fun _ _ h=>h.ht) (.inl ⟨rfl,.nil⟩) .nil),XL ao.1 aq.1 aE.1 aD.1 au.1 rfl (fun x hx=>ao.2.2 x hx) hl Rh bL (iC av.1 ax) rfl zU⟩;done
 |fail):p:=h
end VG
namespace VH
theorem fu(h:p:=by
 first
 |skip
  refine⟨ajq,?_⟩;open VG Lq Lr in exact iX
  done
 |fail):p:=h
end VH
namespace VI
theorem bj(h:p:=by
 first
 |skip
  refine oz (A:=[8003,8006]) (ys:=[]) (r:=str) (zB) (ao.1.imp id (fun⟨xs,h,_⟩=>⟨xs,h⟩)) ao.2.1 (fun c hc=>FB) zy af Fx (fun v' H' fb bI hf fq hz=>?_);obtain⟨zz,rfl,mR⟩:=hz _ _ rfl;have e1:=hf 1 af
  replace e1:=aaD e1
  have um:=hZ bI;have hE:=fun(n:Nat) (fJ:al) (q1:fJ 8003=H' 8003) (q2:fJ 8006=H' 8006)=>(aX.dF (n:=n) (bI.frame (H':=fJ) pR))
  obtain⟨g1,g2,g3,g4⟩:=bI.gv;rw[List.nil_append]at g1 g2 g3;refine cA ?_;open VH dO Gu in exact bu
  done
 |fail):p:=h
end VI
theorem as9{m:Nat}{x:List PV}{w:PV}{ds:List (List PV)}(ci:dK X G m)(hx:aR x)(hm:SizeOf.sizeOf x<=m)(ok:cD x)(hk:bl x=20)(hw:br CE w ds)(dB:aK (ae (x.getD 8 .undef)) ds):Pure ai X G 149 [.agg x,w] (NX x):=by
 obtain⟨kind,op,aA,chain,flags,nn,str,text,kids,bf,parts,aC,aG,rfl,hn,ao,ht,aq,aE,aD,av,au⟩:=hx.open (hm);have bX:aR [PV.int .i64 kind,.int .i64 op,.int .i64 aA,.int .i64 chain,.int .i64 flags,.bR .f64 nn,str,.str text,kids,bf,parts,aC,aG]:=hx;simp only[cQ]at hk;subst hk;have hl:aK (ae kids) ds:=dB;clear dB;cases ok with
 |mk _ _ _ _ _ _ _ _ _ _ _ _ _ hf hK eW qa oA eR fB=>
 have mD:(ae kids).length<=1:=by unfold gN at hK;omega
 revert hf;simp[fP,ia];intros;subst_vars;have eB:=hl.1
 (try have lE:=fA (n:=op) ad ad)
 (try have lF:=fA (n:=chain) ad ad)
 have bz:=bz;by_cases h0:(ae kids).length=0
 ·obtain rfl:ds=[]:=List.eq_nil_of_length_eq_zero ad;have lw:=hw.1.1;have jf:=hw.1.2.1;have xY:(ae w).length=0:=hw.1.2.2;have oA:Hid (∀y,y∈ae parts->qV y):=oA;have ci:Hid (dK X G m):=ci;have:=ao.1;have:=ao.2.1;have:=aq.1;have:=aq.2.1;have:=aE.1;have:=aE.2.1;have:=aD.1;have:=aD.2.1;have:=av.1;have:=av.2.1;have:=au.1;have:=au.2.1;refine ay GS af ?_;refine cA ?_;open VF qY Lt in exact az
 ·have gj:(ae kids).length=1:=by omega
  obtain⟨d0,rfl⟩:=ki (l:=ds) ad;obtain⟨u0,y0,rfl,iQ,cv⟩:=hw.one;have lw:aQ (.sl [[.aj u0 y0,ab]]):=hw.1.1;have ln:([[.aj u0 y0,ab]]:List (List PV)).length=1:=rfl;have jf:aw (.sl [[.aj u0 y0,ab]])=true:=hw.1.2.1;have jX:db 2 (.sl [[.aj u0 y0,ab]]) (.int .i64 0)=some (.fp [.aj u0 y0,ab],none):=rfl;have oA:Hid (∀y,y∈ae parts->qV y):=oA;have ci:Hid (dK X G m):=ci;have:=ao.1;have:=ao.2.1;have:=aq.1;have:=aq.2.1;have:=aE.1;have:=aE.2.1;have:=aD.1;have:=aD.2.1;have:=av.1;have:=av.2.1;have:=au.1;have:=au.2.1;refine ay GS af ?_;refine cA ?_;open VI qY Lt in exact az
end
end Go.Pi
end
section
open Go Go.Pi
namespace Go.Pi
variable{p q a:Prop}
theorem cD.Dd{x:List PV}(h:cD x):0<=bl x/\bl x<=32/\bl x≠23/\bl x≠24/\bl x≠27:=by
 cases h with
 |mk _ _ _ _ _ _ _ _ _ _ _ _ _ _ hx=>exact hx.2.2.2.2.2.2.2.2.2.2
section
variable{X:aS}{G:Nat->PV}
theorem ata{m:Nat}{x:List PV}{w:PV}{ds:List (List PV)}(kI:nK X G m)(kJ:nL X G m)(re:vT X G m)(hx:aR x)(hm:SizeOf.sizeOf x<=m)(ok:cD x)(hk:bl x=21\/bl x=22\/28<=bl x/\bl x<=32)(hw:br CE w ds)(hl:aK (ae (x.getD 8 .undef)) ds):Pure ai X G 145 [.agg x,w] (NX x):=by
 rcases(by omega:bl x=21\/bl x=22\/bl x=28\/bl x=29\/bl x=30\/bl x=31\/bl x=32)with h|h|h|h|h|h|h
 ·exact as3 kJ hx hm ok h hw hl
 ·exact as5 re hx hm ok h hw hl
 ·exact asW hx hm ok h hw hl
 ·exact asX hx hm ok h hw hl
 ·exact as1 kI hx hm ok h hw hl
 ·exact asY hx hm ok h hw hl
 ·exact asZ hx hm ok h hw hl
theorem atb{m:Nat}{x:List PV}(hx:aR x)(hm:SizeOf.sizeOf x<=m)(ok:cD x)(hk:0<=bl x/\bl x<=9\/bl x=25\/bl x=26):Pure ai X G 146 [.agg x] (NX x):=by
 rcases(by omega:bl x=0\/bl x=1\/bl x=2\/bl x=3\/bl x=4\/bl x=5\/bl x=6\/bl x=7\/bl x=8\/bl x=9\/bl x=25\/bl x=26)with h|h|h|h|h|h|h|h|h|h|h|h
 ·exact ar6 hx hm ok h
 ·exact ar7 hx hm ok h
 ·exact ash hx hm ok h
 ·exact ar8 hx hm ok h
 ·exact asi hx hm ok h
 ·exact ar9 hx hm ok h
 ·exact asa hx hm ok h
 ·exact asb hx hm ok h
 ·exact asc hx hm ok h
 ·exact asd hx hm ok h
 ·exact ase hx hm ok h
 ·exact asf hx hm ok h
theorem atc{m:Nat}{x:List PV}{w:PV}{ds:List (List PV)}(hx:aR x)(hm:SizeOf.sizeOf x<=m)(ok:cD x)(hk:bl x=10\/13<=bl x/\bl x<=15)(hw:br CE w ds)(hl:aK (ae (x.getD 8 .undef)) ds):Pure ai X G 147 [.agg x,w] (NX x):=by
 rcases(by omega:bl x=10\/bl x=13\/bl x=14\/bl x=15)with h|h|h|h
 ·exact asj hx hm ok h hw hl
 ·exact asn hx hm ok h hw hl
 ·exact asl hx hm ok h hw hl
 ·exact asm hx hm ok h hw hl
theorem atd{m:Nat}{x:List PV}{w:PV}{ds:List (List PV)}(hx:aR x)(hm:SizeOf.sizeOf x<=m)(ok:cD x)(hk:16<=bl x/\bl x<=19)(hw:br CE w ds)(hl:aK (ae (x.getD 8 .undef)) ds):Pure ai X G 148 [.agg x,w] (NX x):=by
 rcases(by omega:bl x=16\/bl x=17\/bl x=18\/bl x=19)with h|h|h|h
 ·exact aso hx hm ok h hw hl
 ·exact asp hx hm ok h hw hl
 ·exact asq hx hm ok h hw hl
 ·exact asr hx hm ok h hw hl
theorem ate{m:Nat}{x:List PV}{w:PV}{ds:List (List PV)}(ci:dK X G m)(hx:aR x)(hm:SizeOf.sizeOf x<=m)(ok:cD x)(hk:bl x=11\/bl x=12\/bl x=20)(hw:br CE w ds)(hl:aK (ae (x.getD 8 .undef)) ds):Pure ai X G 149 [.agg x,w] (NX x):=by
 rcases(by omega:bl x=11\/bl x=12\/bl x=20)with h|h|h
 ·exact as7 hx hm ok h hw hl
 ·exact as8 ci hx hm ok h hw hl
 ·exact as9 ci hx hm ok h hw hl
namespace VJ
theorem cw(h:p:=by
 first
 |(refine aO (ata (show nK X G m from kI) (show nL X G m from kJ) (show vT X G m from re) bX hm ok mN hw hl) bS (cB) ?_;rintro _ ⟨t1,k1,d1,rfl,fw,cy,bL⟩;have dt:=fun(n:Nat) (H:al)=>aH (n:=n) (H:=H) fw;refine cA ?_)<;>exact bu
 |fail):p:=h
end VJ
namespace VK
theorem cw(h:p:=by
 first
 |exact Sj
 |(refine aO (atb bX hm ok mN) bS (cB) ?_;rintro _ ⟨t1,k1,d1,rfl,fw,cy,bL⟩;have dt:=fun(n:Nat) (H:al)=>aH (n:=n) (H:=H) fw;refine cA ?_)<;>exact bu
 |fail):p:=h
end VK
namespace VL
theorem cw(h:p:=by
 first
 |exact Sj
 |exact Sl
 |(refine aO (atc bX hm ok mN hw hl) bS (cB) ?_;rintro _ ⟨t1,k1,d1,rfl,fw,cy,bL⟩;have dt:=fun(n:Nat) (H:al)=>aH (n:=n) (H:=H) fw;refine cA ?_)<;>exact bu
 |fail):p:=h
end VL
namespace VM
theorem cw(h:p:=by
 first
 |exact Sj
 |exact Sl
 |exact aki
 |(refine aO (atd bX hm ok mN hw hl) bS (cB) ?_;rintro _ ⟨t1,k1,d1,rfl,fw,cy,bL⟩;have dt:=fun(n:Nat) (H:al)=>aH (n:=n) (H:=H) fw;refine cA ?_)<;>exact bu
 |fail):p:=h
end VM
namespace VN
theorem cw(h:p:=by
 first
 |exact Sj
 |exact Sl
 |exact aki
 |(refine aO (asu bX (Nat.le_refl _) mN hw) bS (cB) ?_;rintro _ rfl;refine cA ?_)<;>exact bu
 |(refine aO (ate (show dK X G m from ci) bX hm ok mN hw hl) bS (cB) ?_;rintro _ ⟨t1,k1,d1,rfl,fw,cy,bL⟩;have dt:=fun(n:Nat) (H:al)=>aH (n:=n) (H:=H) fw;refine cA ?_)<;>exact bu
 |fail):p:=h
end VN
namespace VO
theorem bw(h:p:=by
 first
 |(refine aO (Am aq (show∀y,y∈ae kids->cD y from eW) (show dK X G m from ci)) jQ (cB) ?_;rintro _ ⟨w,ds,rfl,hw,hl⟩;have Ao:=hw.1.1;have De:=hw.1.2.1;have Dc:=fQ (Ao.imp id fun⟨xs,h,_⟩=>⟨xs,h⟩);have MQ:=fun(n:Nat) (H:al)=>aH (n:=n) (H:=H) De;refine cA ?_)<;>exact az
 |fail):p:=h
theorem bj(h:p:=by
 first
 |skip
  rcases hc with hc|hc|hc|hc|hc<;>(have hc:Hid _:=hc)
  ·skip;open VJ sa in exact bu
  ·skip;open VK sa in exact bu
  ·skip;open VL sa in exact bu
  ·skip;open VM sa in exact bu
  ·skip;open VN sa in exact bu
  done
 |fail):p:=h
end VO
theorem j64{m:Nat}{x:List PV}(ci:dK X G m)(kI:nK X G m)(kJ:nL X G m)(re:vT X G m)(hx:aR x)(hm:SizeOf.sizeOf x<=m)(ok:cD x):Pure ai X G 109 [.agg x] (N1 CE x):=by
 have hr:=ok.Dd;have eW:∀y,y∈ae (x.getD 8 .undef)->cD y:=by cases ok;assumption
 obtain⟨kind,op,aA,chain,flags,nn,str,text,kids,bf,parts,aC,aG,rfl,hn,ao,ht,aq,aE,aD,av,au⟩:=hx.open (hm);have bX:aR [PV.int .i64 kind,.int .i64 op,.int .i64 aA,.int .i64 chain,.int .i64 flags,.bR .f64 nn,str,.str text,kids,bf,parts,aC,aG]:=hx;have eW:Hid (∀y,y∈ae kids->cD y):=eW;have ci:Hid (dK X G m):=ci;have kI:Hid (nK X G m):=kI;have kJ:Hid (nL X G m):=kJ;have re:Hid (vT X G m):=re;have:=ao.1;have:=ao.2.1;have:=aq.1;have:=aq.2.1;have:=aE.1;have:=aE.2.1;have:=aD.1;have:=aD.2.1;have:=av.1;have:=av.2.1;have:=au.1;have:=au.2.1;have uV:Hid (0<=kind/\kind<=32/\kind≠23/\kind≠24/\kind≠27):=hr;have kk:bl [PV.int .i64 kind,.int .i64 op,.int .i64 aA,.int .i64 chain,.int .i64 flags,.bR .f64 nn,str,.str text,kids,bf,parts,aC,aG]=kind:=rfl;rw[kk]at hr;refine ay ao6 af ?_;have hc:(kind=21\/kind=22\/28<=kind/\kind<=32)\/(0<=kind/\kind<=9\/kind=25\/kind=26)\/(kind=10\/13<=kind/\kind<=15)\/(16<=kind/\kind<=19)\/(kind=11\/kind=12\/kind=20):=by omega
 clear hr kk;refine cA ?_;open VO bi in exact az
namespace VP
theorem bj(h:p:=by
 first
 |skip
  refine⟨_,rfl,rfl,rfl,?_⟩;cases hc;exact .none ‹_›;done
 |fail):p:=h
end VP
namespace VQ
theorem bj(h:p:=by
 first
 |skip
  exact⟨_,rfl,rfl,by simp[aw, *],.some _ _ hc⟩;done
 |fail):p:=h
end VQ
theorem Sp{u:Nat}{y:PV}{d:List PV}(hd:aw y=true)(hc:CE [.aj u y,ab] d):Pure ai X G 114 [.agg [.aj u y,ab]] (fun r=>∃k,r= .agg [k,ab]/\cellsOf k=some [k]/\aw k=true/\CG [k,ab] d):=by
 by_cases hu:u=123
 ·subst hu;refine ay TA af ?_;refine nA hd ?_;open VP bi in exact az
 ·refine ay TA af ?_;have G3:decide (u=123)=false:=by simp[hu]
  refine nA (Kj hd (Kj hu G3)) ?_;open VQ bi in exact az
end
end Go.Pi
end
section
open Go Go.Pi
namespace Go.Pi
variable{p q a:Prop}
theorem nI.fs{pk flags:Int}{key dC b0 b1 b2 b3:PV}(h:nI pk [.int .i64 flags,key,dC,b0,b1,b2,b3]):(pk=2/\flags=0/\(ae key).length=0\/pk=3/\flags=2/\(ae key).length=0/\(ae dC).length=0\/pk=3/\(flags=0\/flags=1\/flags=4\/flags=5)/\(ae key).length=1)/\(ae dC).length<=1/\
 (∀y,y∈ae key->cD y)/\(∀y,y∈ae dC->cD y)/\nH [b0,b1,b2,b3]:=by
 cases h;exact⟨ax,ax,ax,ax,ax⟩
theorem itf{f:Int}(h:f=0\/f=1\/f=2\/f=4\/f=5):fg (bt f 1) 1+fg (bt f 2) 2+fg (bt f 4) 4=f:=by
 rcases h with rfl|rfl|rfl|rfl|rfl<;>decide
section
variable{X:aS}{G:Nat->PV}
namespace VR
theorem bj(h:p:=by
 first
 |skip
  exact⟨_,_,_,rfl,rfl,.sq (BT (ds:=[]) .nil),.same rfl (.same rfl (.cons (.e0 dh.1 hn) rfl (.same rfl .nil)))⟩;done
 |fail):p:=h
end VR
theorem ath{m:Nat}{x:List PV}(ci:dK X G m)(cM:fj X G m)(hx:eP x)(hm:SizeOf.sizeOf x<=m)(ok:nH x)(hk:bl x=0):Pure ai X G 20 [.agg x] (N1 CB x):=by
 obtain⟨kind,aA,cj,rest,rfl,dh⟩:=hx.open (hm);simp only[cQ]at hk;subst hk;have:=dh.1;have:=dh.2.1;have ci:Hid (dK X G m):=ci;have cM:Hid (fj X G m):=cM;have q:aA=0/\rest=false/\(ae cj).length=0:=by
  cases ok with
  |mk _ _ _ _ h hi=>refine⟨?_,?_,?_⟩<;>(rcases h with h|h|h|h<;>first|exact h.2.1|exact h.2.2.1|exact h.2.2.2|(exfalso;omega))
 obtain⟨rfl,rfl,hn⟩:=q;refine ay GK af ?_;refine cA ?_;open VR bi in exact az
namespace VS
theorem bj(h:p:=by
 first
 |skip
  have hq:decide (aA≥0)=true:=by simp;omega
  (try rw[hq])
  exact⟨_,_,_,rfl,rfl,.name aA ⟨q1,q2⟩ (BT (ds:=[]) .nil),.same rfl (.same rfl (.cons (.e0 dh.1 hn) rfl (.same rfl .nil)))⟩;done
 |fail):p:=h
end VS
theorem ati{m:Nat}{x:List PV}(ci:dK X G m)(cM:fj X G m)(hx:eP x)(hm:SizeOf.sizeOf x<=m)(ok:nH x)(hk:bl x=1):Pure ai X G 20 [.agg x] (N1 CB x):=by
 obtain⟨kind,aA,cj,rest,rfl,dh⟩:=hx.open (hm);simp only[cQ]at hk;subst hk;have:=dh.1;have:=dh.2.1;have ci:Hid (dK X G m):=ci;have cM:Hid (fj X G m):=cM;have q:(0<=aA/\aA<1000)/\rest=false/\(ae cj).length=0:=by
  cases ok with
  |mk _ _ _ _ h hi=>refine⟨?_,?_,?_⟩<;>(rcases h with h|h|h|h<;>first|exact⟨h.2.1,h.2.2.1⟩|exact h.2.2.2.1|exact h.2.2.2.2|(exfalso;omega))
 obtain⟨⟨q1,q2⟩,rfl,hn⟩:=q;have hwr:=nJ (n:=aA) ad ad;refine ay GK af ?_;refine cA ?_;open VS bi Cm in exact az
namespace VT
theorem cw(h:p:=by
 first
 |(have jK:=(show∀y,y∈ae cj->nI 2 y from ye) _ b6;obtain⟨p1,p2,p3,p4,p5⟩:=nI.fs jK;refine aO ((show fj X G m from cM) ‹BZ _ _› p5) bS (cB) ?_;rintro _ ⟨u1,y1,Cg,rfl,nF,cy,bL⟩;refine cA ?_)<;>exact bu
 |exact FW
 |fail):p:=h
theorem iZ(h:p:=by
 first
 |skip
  obtain⟨d0,d1,d2,d3,rfl⟩:=cy.four;obtain⟨f0,f1⟩:et=0/\(ae ns).length=0:=by omega
  subst f0;refine ik (A:=[15010]) (ys:=ys) (zs:=[[.aj u1 y1,ab,k2,ab,ab]]) (ids:=[15009]) (cB) gy af af iA af fH (fun v' H' z' bI hf=>?_);have f2:=hf 2 af af;have f7:=hf 7004 af af
  (try replace f2:=aaA (Kj e2 e7) f2);(try replace f7:=aaA (Kj e2 e7) f7)
  have jw:=hZ bI;clear hE hf;simp only[push];refine cA ?_;simp only[cG];refine cA ?_;have eO:=hg;simp only[Int.toNat_natCast]at eO;have next:=nx
  unfold Hid at next
  exact next (n - 1) ad _ ⟨i+1,v',_,_,so,ad,cB,cB,cB,cB,gK,cB,cB,bI.frame pU,jR,iP.snoc (.mk _ _ _ _ _ _ _ cy xE (IT ⟨ad,ad⟩ .nil xE.ty cy.ht)),aV.take eO (.same rfl (.cons (.e0 cH.1 f1) rfl (.sl ee.1 fV bL)))⟩
  done
 |fail):p:=h
theorem nD(h:p:=by
 first
 |skip
  refine⟨by simpa using fun h:0∈gi v=>absurd (g4 0 h) af,?_⟩;have hL:=br.of g1 g2 g3 ad iP;exact⟨_,_,_,rfl,zV,.array _ _ _ hL.1 hL.2 (BT (hL.ty fun _ _ h=>h.ht)),.same rfl (.same rfl (.sl dh.1 (aV.whole ad) (.same rfl .nil)))⟩;done
 |fail):p:=h
end VT
namespace VU
theorem bj(h:p:=by
 first
 |skip
  refine b5 (fun n s'=>∃(i:Nat)(v:PV)(ys ds:List (List PV))(so:Nat),i+n=(ae cj).length/\s'.t 2= .ptr 2 2 0/\s'.t 4= .ptr 7004 so 0/\s'.t 47=cj/\s'.t 48= .int .i64 (ae cj).length/\s'.t 49= .int .i64 i/\
   s'.H 2=some ⟨74,2,[.aF,.int .i32 0],0⟩/\s'.H 7004=some ⟨108,so,[v,.int .i32 0,.bool rest,.bool false],0⟩/\aX [15010] s'.H 114 5 v ys/\ys.length=i/\Pr CI ys ds/\aK ((ae cj).take i) ds) ?_ (n:=(ae cj).length)
   ⟨0,_,[],[],_,af,nB,nB,nB,nB,nB,nB,nB,aX.nil,rfl,.nil,kS⟩
  rintro n ⟨t,H,k⟩ ⟨i,v,ys,ds,so,hi,h2,h4,gD,jg,l6,e2,e7,aY,eY,iP,aV⟩ next
  simp only at h2 h4 gD jg l6 e2 e7 aY;have hE:=fun(n:Nat) (H':al) (q1:H' 15010=H 15010)=>(aX.dF (n:=n) (aY.frame (H':=H') iY))
  obtain⟨g1,g2,g3,g4⟩:=aY.gv;refine nA (Kj h2 (Kj h4 (Kj gD (Kj jg (Kj l6 (Kj e2 e7)))))) ?_;have nx:Hid _:=next
  clear next
  open VT dO kU in exact bu
  done
 |fail):p:=h
end VU
theorem atj{m:Nat}{x:List PV}(ci:dK X G m)(cM:fj X G m)(hx:eP x)(hm:SizeOf.sizeOf x<=m)(ok:nH x)(hk:bl x=2):Pure ai X G 20 [.agg x] (N1 CB x):=by
 obtain⟨kind,aA,cj,rest,rfl,dh⟩:=hx.open (hm);simp only[cQ]at hk;subst hk;have:=dh.1;have:=dh.2.1;have ci:Hid (dK X G m):=ci;have cM:Hid (fj X G m):=cM;have q:aA=0/\∀y,y∈ae cj->nI 2 y:=by
  cases ok with
  |mk _ _ _ _ h hi=>exact⟨by rcases h with h|h|h|h<;>first|exact h.2|(exfalso;omega),hi⟩
 obtain⟨rfl,ye⟩:=q;have ye:Hid (∀y,y∈ae cj->nI 2 y):=ye;have hB:=dh.1.len;refine ay GK af ?_;refine cA ?_;open VU bi in exact az
namespace VV
theorem gw(h:p:=by
 first
 |exact Sg
 |((exfalso;rcases p1 with p|p|p<;>first|omega|(have e:=p.2.1;subst e;simp[bz2]at*;done)))<;>exact bu
 |exact kH
 |fail):p:=h
theorem cw(h:p:=by
 first
 |(have jK:=(show∀y,y∈ae cj->nI 3 y from ye) _ b6;obtain⟨p1,p2,p3,p4,p5⟩:=nI.fs jK;refine aO ((show fj X G m from cM) ‹BZ _ _› p5) bS (cB) ?_;rintro _ ⟨u1,y1,Cg,rfl,nF,cy,bL⟩;refine cA ?_)<;>exact bu
 |(refine aO (qH cH ad p3 (show dK X G m from ci)) jQ (cB) ?_;rintro _ ⟨k3,Vi,rfl,hk3,o9,VW,atl⟩;refine cA ?_)<;>exact bu
 |exact FW
 |fail):p:=h
theorem iZ(h:p:=by
 first
 |skip
  refine⟨by simpa using fun h:0∈gi v=>absurd (g4 0 h) af,?_⟩;have hL:=br.of g1 g2 g3 ad iP;exact⟨_,_,_,rfl,zV,.C3 _ _ hL.1 hL.2 (BT (hL.ty fun _ _ h=>h.ht)),.same rfl (.same rfl (.sl dh.1 (aV.whole ad) (.same rfl .nil)))⟩;done
 |fail):p:=h
theorem fu(h:p:=by
 first
 |skip
  all_goals first
   |(obtain⟨d0,d1,d2,d3,rfl⟩:=cy.four
     have hf:fg (bt et 1) 1+fg (bt et 2) 2+fg (bt et 4) 4=et:=itf ad;refine ik (A:=[28023]) (ys:=ys) (zs:=[[k3,ab,.aj u1 y1,ab,k2,ab,ab,ab,.bool (!decide (bits .and .i64 et 1=0)),.bool (!decide (bits .and .i64 et 2=0)),.bool (!decide (bits .and .i64 et 4=0))]]) (ids:=[28022]) (cB) gy af af iA af fH (fun v' H' z' bI hf=>?_);have f2:=hf 2 af af;have f7:=hf 19002 af af
     (try replace f2:=aaA (Kj e2 e7) f2);(try replace f7:=aaA (Kj e2 e7) f7)
     have jw:=hZ bI;clear hE hf;simp only[push];refine cA ?_;simp only[cG];refine cA ?_;have eO:=hg;simp only[Int.toNat_natCast]at eO;have next:=nx
     unfold Hid at next
     exact next (n - 1) ad _ ⟨i+1,v',_,_,so,ad,cB,cB,cB,cB,gK,cB,cB,bI.frame pU,jR,iP.snoc (.mk _ _ _ _ _ _ _ _ _ _ _ _ cy VW xE (IT (by rw[hf];exact fN) VW.ty xE.ty cy.ht)),aV.take eO (.cons (by rw[hf];exact .refl _) rfl (.sl cH.1 atl (.sl ee.1 fV bL)))⟩)
   |skip
  all_goals first
  |exact iZ
  |fail
  done
 |fail):p:=h
end VV
namespace VX
theorem bj(h:p:=by
 first
 |skip
  refine b5 (fun n s'=>∃(i:Nat)(v:PV)(ys ds:List (List PV))(so:Nat),i+n=(ae cj).length/\s'.t 2= .ptr 2 2 0/\s'.t 11= .ptr 19002 so 0/\s'.t 93=cj/\s'.t 94= .int .i64 (ae cj).length/\s'.t 95= .int .i64 i/\
   s'.H 2=some ⟨74,2,[.aF,.int .i32 0],0⟩/\s'.H 19002=some ⟨118,so,[v,.int .i32 0,.bool false],0⟩/\aX [28023] s'.H 120 11 v ys/\ys.length=i/\Pr CJ ys ds/\aK ((ae cj).take i) ds) ?_ (n:=(ae cj).length)
   ⟨0,_,[],[],_,af,nB,nB,nB,nB,nB,nB,nB,aX.nil,rfl,.nil,kS⟩
  rintro n ⟨t,H,k⟩ ⟨i,v,ys,ds,so,hi,h2,h4,gD,jg,l6,e2,e7,aY,eY,iP,aV⟩ next
  simp only at h2 h4 gD jg l6 e2 e7 aY;have hE:=fun(n:Nat) (H':al) (q1:H' 28023=H 28023)=>(aX.dF (n:=n) (aY.frame (H':=H') iY))
  obtain⟨g1,g2,g3,g4⟩:=aY.gv;refine nA (Kj h2 (Kj h4 (Kj gD (Kj jg (Kj l6 (Kj e2 e7)))))) ?_;have nx:Hid _:=next
  clear next
  open VV in exact bu
  done
 |fail):p:=h
end VX
theorem atm{m:Nat}{x:List PV}(ci:dK X G m)(cM:fj X G m)(hx:eP x)(hm:SizeOf.sizeOf x<=m)(ok:nH x)(hk:bl x=3):Pure ai X G 20 [.agg x] (N1 CB x):=by
 obtain⟨kind,aA,cj,rest,rfl,dh⟩:=hx.open (hm);simp only[cQ]at hk;subst hk;have:=dh.1;have:=dh.2.1;have ci:Hid (dK X G m):=ci;have cM:Hid (fj X G m):=cM;have q:aA=0/\rest=false/\∀y,y∈ae cj->nI 3 y:=by
  cases ok with
  |mk _ _ _ _ h hi=>refine⟨?_,?_,hi⟩<;>(rcases h with h|h|h|h<;>first|exact h.2.1|exact h.2.2|(exfalso;omega))
 obtain⟨rfl,rfl,ye⟩:=q;have ye:Hid (∀y,y∈ae cj->nI 3 y):=ye;have hB:=dh.1.len;have bz2:bits .and .i64 2 2=2:=by decide
 refine ay GK af ?_;refine cA ?_;open VX bi in exact az
theorem nH.Dd{x:List PV}(h:nH x):0<=bl x/\bl x<=3:=by
 cases h with
 |mk _ _ _ _ h=>simp only[cQ];omega
theorem Ja{m:Nat}{x:List PV}(ci:dK X G m)(cM:fj X G m)(hx:eP x)(hm:SizeOf.sizeOf x<=m)(ok:nH x):Pure ai X G 20 [.agg x] (N1 CB x):=by
 have hr:=ok.Dd;rcases(by omega:bl x=0\/bl x=1\/bl x=2\/bl x=3)with h|h|h|h
 ·exact ath ci cM hx hm ok h
 ·exact ati ci cM hx hm ok h
 ·exact atj ci cM hx hm ok h
 ·exact atm ci cM hx hm ok h
end
end Go.Pi
end
