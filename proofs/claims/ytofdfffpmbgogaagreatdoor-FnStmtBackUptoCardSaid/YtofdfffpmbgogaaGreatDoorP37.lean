import Derived.Test.YtofdfffpmbgogaaGreatDoorP18
import Derived.Test.YtofdfffpmbgogaaGreatDoorP36
/- Part of the proof. -/
set_option linter.all false
set_option maxHeartbeats 0
set_option maxRecDepth 100000
section
open Go Go.Pi
namespace Go.Pi
variable{p q a:Prop}
theorem CS.qb{u:Nat}{y:PV}{d l:List PV}(h:CS [.aj u y,ab] d)(hl:dE (.int .i64 7::l) d):∃b,u=362/\y= .fp [b,ab]:=by
 cases h<;>first|exact⟨_,rfl,rfl⟩|(exact absurd hl.head aJ)
theorem qc{b:PV}(h:aw (.fp [b,ab])=true):aw b=true:=by simpa[aw,aP]using h
theorem qd{b:PV}{d:List PV}(h:CS [.aj 362 (.fp [b,ab]),ab] d):aQ b:=by
 cases h with
 |block _ _ l=>exact l.1
section
variable{X:aS}{G:Nat->PV}
namespace Wj
theorem fu(h:p:=by
 first
 |skip
  have aW:aK (ae kids) [g0,g1]:=aW;exact⟨_,_,_,rfl,dT,.Ul _ _ _ _ dj dt (ST (es:=[]) (ws:=[]) (fs:=[]) (cs:=[]) (us:=[]) (ds:=[]) (.inr ⟨rfl,aJ⟩) (Rg.n _ aJ aJ) .nil .nil (.two dj.ht dt.ht) .nil .nil .nil .nil),oH rh rfl (iC ao.1 ax) aN.1 hl aq.1 aW aL.1 (aK.zero dS) aM.1 (em ax) av.1 (em ax) au.1 (em ax)⟩;done
 |fail):p:=h
end Wj
namespace Wl
theorem bj(h:p:=by
 first
 |skip
  refine b5 (fun n s'=>s'.t 2= .ptr 1 1 0/\s'.t 14= .sl [[.aj 362 (.fp [b0,ab]),ab],[.aj 362 (.fp [b1,ab]),ab]]/\s'.t 15= .int .i64 2/\s'.H 1=some ⟨55,1,[PV.int .i64 15,.int .i64 0,.int .i64 (-1),.int .i64 4,str,exprs,kids,decls,cases,aC,aG],0⟩/\((n=2/\s'.t 16= .int .i64 0/\aX [8006] s'.H 198 2 (s'.t 6) [])\/(n=1/\s'.t 16= .int .i64 1/\aX [8006] s'.H 198 2 (s'.t 6) [[b0,ab]])\/(n=0/\s'.t 16= .int .i64 2/\aX [8006] s'.H 198 2 (s'.t 6) [[b0,ab],[b1,ab]]))) ?_ (n:=2)
   ⟨nB,nB,nB,nB,.inl ⟨rfl,nB,aiL⟩⟩
  rintro n ⟨t,H,k⟩ ⟨h2,cp,cI,e1,m9⟩ next
  simp only at h2 cp cI e1 m9;rcases m9 with⟨rfl,cS,aY⟩|⟨rfl,cS,aY⟩|⟨rfl,cS,aY⟩
  ·have hE:=fun(n:Nat) (H':al) (q1:H' 8006=H 8006)=>(aX.dF (n:=n) (aY.frame (H':=H') iY))
   obtain⟨g1,g2,g3,g4⟩:=aY.gv;refine nA (Kj h2 (Kj cp (Kj cI (Kj cS e1)))) ?_;have nx:Hid _:=next
   clear next
   open dO Ae Gx in exact bu
  ·have hE:=fun(n:Nat) (H':al) (q1:H' 8006=H 8006)=>(aX.dF (n:=n) (aY.frame (H':=H') iY))
   obtain⟨g1,g2,g3,g4⟩:=aY.gv;refine nA (Kj h2 (Kj cp (Kj cI (Kj cS e1)))) ?_;have nx:Hid _:=next
   clear next
   open dO Af Gy in exact bu
  ·rcases aY.2 with⟨e,_⟩|⟨rid,st,hA,uo,ur⟩
   ·cases e
   simp only[List.mem_singleton]at hA;subst hA;simp only[List.flatten_cons,List.flatten_nil,List.cons_append,List.nil_append,List.length_cons,List.length_nil]at ur uo;clear aY;refine cA ?_;open Wj xM Ag in exact bu
  done
 |fail):p:=h
end Wl
theorem atI{m:Nat}{x:List PV}{v u:PV}{es ks:List (List PV)}(cM:fj X G m)(hx:bH x)(hm:SizeOf.sizeOf x<=m)(ok:dJ x)(hk:bl x=15)(hv:br CE v es)(aV:aK (ae (x.getD 5 .undef)) es)(hu:br CS u ks)(bT:aK (ae (x.getD 6 .undef)) ks)(oI:x.getD 3 .undef= .int .i64 4)(uu:(ae (x.getD 6 .undef)).length=2)(dS:(ae (x.getD 7 .undef)).length=0):Pure ai X G 115 [.agg x,u] (NS x):=by
 obtain⟨kind,op,aA,flags,str,exprs,kids,decls,cases,aC,aG,rfl,hr,ao,aN,aq,aL,aM,av,au⟩:=hx.open (hm);have bX:bH [PV.int .i64 kind,.int .i64 op,.int .i64 aA,.int .i64 flags,str,exprs,kids,decls,cases,aC,aG]:=hx;simp only[cQ]at hk;subst hk;have hl:aK (ae exprs) es:=aV;have aW:aK (ae kids) ks:=bT;clear aV bT;cases ok with
 |mk _ _ _ _ _ _ _ _ _ _ _ hf il eW fI eR iE fB iF iG gg=>
 revert hf;simp[ii];intros;subst_vars;have eB:=hl.1;have fV:=aW.1;have bz:=bz;simp only[List.getD_cons_succ,List.getD_cons_zero]at oI uu dS;obtain rfl:flags=4:=by injection oI
 have kX:∀y,y∈ae kids->∃l:List PV,y= .int .i64 7::l:=(gg rfl).1;have nC:=(gg rfl).2;obtain rfl:es=[]:=aK.z hl iB;obtain⟨g0,g1,rfl⟩:=pg (l:=ks) ad;obtain⟨w0,z0,w1,z1,rfl,jH,kT,dj,dt⟩:=kK.two hu;obtain⟨q0,q1,qN⟩:=pg (l:=ae kids) ad;obtain⟨b0,rfl,rfl⟩:∃b,w0=362/\z0= .fp [b,ab]:=by
  obtain⟨l,e⟩:=kX q0 pW;have h:=aW.2 0 q0 g0 pV rfl;rw[e]at h;exact dj.qb h
 have dX:=qc jH;have cv:=fQ ((qd dj).imp id fun⟨xs,h,_⟩=>⟨xs,h⟩);have G5:=fun(n:Nat) (H:al)=>aH (n:=n) (H:=H) dX
 obtain⟨b1,rfl,rfl⟩:∃b,w1=362/\z1= .fp [b,ab]:=by
  obtain⟨l,e⟩:=kX q1 pW;have h:=aW.2 1 q1 g1 pV rfl;rw[e]at h;exact dt.qb h
 have dG:=qc kT;have cy:=fQ ((qd dt).imp id fun⟨xs,h,_⟩=>⟨xs,h⟩);have Aq:=fun(n:Nat) (H:al)=>aH (n:=n) (H:=H) dG
 have lu:aQ (.sl [[.aj 362 (.fp [b0,ab]),ab],[.aj 362 (.fp [b1,ab]),ab]]):=hu.1.1;have pj:([[.aj 362 (.fp [b0,ab]),ab],[.aj 362 (.fp [b1,ab]),ab]]:List (List PV)).length=2:=rfl;have gR:aw (.sl [[.aj 362 (.fp [b0,ab]),ab],[.aj 362 (.fp [b1,ab]),ab]])=true:=hu.1.2.1;have cM:Hid (fj X G m):=cM;have fI:Hid (∀y,y∈ae decls->mS y):=fI;have nC:Hid (∀y,y∈ae decls->∃b0 b1 b2 b3 v:PV,y=[b0,b1,b2,b3,v]/\(ae v).length=0):=nC;have fV:(ae kids).length=2:=by omega
 have bY:db 2 (.sl [[.aj 362 (.fp [b0,ab]),ab],[.aj 362 (.fp [b1,ab]),ab]]) (.int .i64 0)=some (.fp [.aj 362 (.fp [b0,ab]),ab],none):=rfl;have gG:db 2 (.sl [[.aj 362 (.fp [b0,ab]),ab],[.aj 362 (.fp [b1,ab]),ab]]) (.int .i64 1)=some (.fp [.aj 362 (.fp [b1,ab]),ab],none):=rfl;have G6:IntKind.i64.wrap (Int.tdiv 0 4)=0:=by decide
 have G7:IntKind.i64.wrap (Int.tdiv 4 4)=1:=by decide
 have G8:IntKind.i64.wrap (Int.tdiv 0 8)=0:=by decide
 have G9:IntKind.i64.wrap (Int.tdiv 8 8)=1:=by decide
 have Ha:IntKind.i64.wrap (1+0)=1:=by decide
 have Hb:IntKind.i64.wrap (1+1)=2:=by decide
 have Hc:IntKind.i64.wrap (2+0)=2:=by decide
 have Hd:IntKind.i64.wrap (2+1)=3:=by decide
 have He:IntKind.i64.wrap (2 - 1)=1:=by decide
 have Hf:IntKind.i64.wrap (3 - 1)=2:=by decide
 have Hg:IntKind.i64.wrap (1 - 1)=0:=by decide
 have zd:bits .and .i64 4 4=4:=by decide
 have Hh:bits .and .i64 4 8=0:=by decide
 have aW:Hid (aK (ae kids) [g0,g1]):=aW;clear kX qN;have:=ao.1;have:=ao.2.1;have:=aN.1;have:=aN.2.1;have:=aq.1;have:=aq.2.1;have:=aL.1;have:=aL.2.1;have:=aM.1;have:=aM.2.1;have:=av.1;have:=av.2.1;have:=au.1;have:=au.2.1;refine ay CX af ?_;refine cA ?_;open Wl bi in exact az
namespace Wm
theorem fu(h:p:=by
 first
 |skip
  have aW:aK (ae kids) [g0,g1]:=aW;obtain⟨d0,d1,d2,d3,rfl⟩:=cy.four;exact⟨_,_,_,rfl,dT,.Uk _ _ _ _ _ _ _ _ _ cy dj dt (ST (es:=[]) (ws:=[]) (fs:=[]) (cs:=[]) (us:=[]) (.inr ⟨rfl,aJ⟩) (Rg.n _ aJ aJ) .nil .nil (.two dj.ht dt.ht) (.one (DT .nil cy.ht)) .nil .nil .nil),oH rh rfl (iC ao.1 ax) aN.1 hl aq.1 aW aL.1 (G4 ax hg (dE.append bL (.cons (.e0 bO.1 lr) rfl .nil))) aM.1 (em ax) av.1 (em ax) au.1 (em ax)⟩;done
 |fail):p:=h
end Wm
namespace Wn
theorem bj(h:p:=by
 first
 |skip
  refine b5 (fun n s'=>s'.t 2= .ptr 1 1 0/\s'.t 14= .sl [[.aj 362 (.fp [b0,ab]),ab],[.aj 362 (.fp [b1,ab]),ab]]/\s'.t 15= .int .i64 2/\s'.H 1=some ⟨55,1,[PV.int .i64 15,.int .i64 0,.int .i64 (-1),.int .i64 4,str,exprs,kids,decls,cases,aC,aG],0⟩/\((n=2/\s'.t 16= .int .i64 0/\aX [8006] s'.H 198 2 (s'.t 6) [])\/(n=1/\s'.t 16= .int .i64 1/\aX [8006] s'.H 198 2 (s'.t 6) [[b0,ab]])\/(n=0/\s'.t 16= .int .i64 2/\aX [8006] s'.H 198 2 (s'.t 6) [[b0,ab],[b1,ab]]))) ?_ (n:=2)
   ⟨nB,nB,nB,nB,.inl ⟨rfl,nB,aiL⟩⟩
  rintro n ⟨t,H,k⟩ ⟨h2,cp,cI,e1,m9⟩ next
  simp only at h2 cp cI e1 m9;rcases m9 with⟨rfl,cS,aY⟩|⟨rfl,cS,aY⟩|⟨rfl,cS,aY⟩
  ·have hE:=fun(n:Nat) (H':al) (q1:H' 8006=H 8006)=>(aX.dF (n:=n) (aY.frame (H':=H') iY))
   obtain⟨g1,g2,g3,g4⟩:=aY.gv;refine nA (Kj h2 (Kj cp (Kj cI (Kj cS e1)))) ?_;have nx:Hid _:=next
   clear next
   open dO Ae Gx in exact bu
  ·have hE:=fun(n:Nat) (H':al) (q1:H' 8006=H 8006)=>(aX.dF (n:=n) (aY.frame (H':=H') iY))
   obtain⟨g1,g2,g3,g4⟩:=aY.gv;refine nA (Kj h2 (Kj cp (Kj cI (Kj cS e1)))) ?_;have nx:Hid _:=next
   clear next
   open dO Af Gy in exact bu
  ·rcases aY.2 with⟨e,_⟩|⟨rid,st,hA,uo,ur⟩
   ·cases e
   simp only[List.mem_singleton]at hA;subst hA;simp only[List.flatten_cons,List.flatten_nil,List.cons_append,List.nil_append,List.length_cons,List.length_nil]at ur uo;clear aY;refine cA ?_;open Wm xM Ag in exact bu
  done
 |fail):p:=h
end Wn
theorem atJ{m:Nat}{x:List PV}{v u:PV}{es ks:List (List PV)}(cM:fj X G m)(hx:bH x)(hm:SizeOf.sizeOf x<=m)(ok:dJ x)(hk:bl x=15)(hv:br CE v es)(aV:aK (ae (x.getD 5 .undef)) es)(hu:br CS u ks)(bT:aK (ae (x.getD 6 .undef)) ks)(oI:x.getD 3 .undef= .int .i64 4)(uu:(ae (x.getD 6 .undef)).length=2)(dS:(ae (x.getD 7 .undef)).length=1):Pure ai X G 115 [.agg x,u] (NS x):=by
 obtain⟨kind,op,aA,flags,str,exprs,kids,decls,cases,aC,aG,rfl,hr,ao,aN,aq,aL,aM,av,au⟩:=hx.open (hm);have bX:bH [PV.int .i64 kind,.int .i64 op,.int .i64 aA,.int .i64 flags,str,exprs,kids,decls,cases,aC,aG]:=hx;simp only[cQ]at hk;subst hk;have hl:aK (ae exprs) es:=aV;have aW:aK (ae kids) ks:=bT;clear aV bT;cases ok with
 |mk _ _ _ _ _ _ _ _ _ _ _ hf il eW fI eR iE fB iF iG gg=>
 revert hf;simp[ii];intros;subst_vars;have eB:=hl.1;have fV:=aW.1;have bz:=bz;simp only[List.getD_cons_succ,List.getD_cons_zero]at oI uu dS;obtain rfl:flags=4:=by injection oI
 have kX:∀y,y∈ae kids->∃l:List PV,y= .int .i64 7::l:=(gg rfl).1;have nC:=(gg rfl).2;obtain rfl:es=[]:=aK.z hl iB;obtain⟨g0,g1,rfl⟩:=pg (l:=ks) ad;obtain⟨w0,z0,w1,z1,rfl,jH,kT,dj,dt⟩:=kK.two hu;obtain⟨q0,q1,qN⟩:=pg (l:=ae kids) ad;obtain⟨b0,rfl,rfl⟩:∃b,w0=362/\z0= .fp [b,ab]:=by
  obtain⟨l,e⟩:=kX q0 pW;have h:=aW.2 0 q0 g0 pV rfl;rw[e]at h;exact dj.qb h
 have dX:=qc jH;have cv:=fQ ((qd dj).imp id fun⟨xs,h,_⟩=>⟨xs,h⟩);have G5:=fun(n:Nat) (H:al)=>aH (n:=n) (H:=H) dX
 obtain⟨b1,rfl,rfl⟩:∃b,w1=362/\z1= .fp [b,ab]:=by
  obtain⟨l,e⟩:=kX q1 pW;have h:=aW.2 1 q1 g1 pV rfl;rw[e]at h;exact dt.qb h
 have dG:=qc kT;have cy:=fQ ((qd dt).imp id fun⟨xs,h,_⟩=>⟨xs,h⟩);have Aq:=fun(n:Nat) (H:al)=>aH (n:=n) (H:=H) dG
 have lu:aQ (.sl [[.aj 362 (.fp [b0,ab]),ab],[.aj 362 (.fp [b1,ab]),ab]]):=hu.1.1;have pj:([[.aj 362 (.fp [b0,ab]),ab],[.aj 362 (.fp [b1,ab]),ab]]:List (List PV)).length=2:=rfl;have gR:aw (.sl [[.aj 362 (.fp [b0,ab]),ab],[.aj 362 (.fp [b1,ab]),ab]])=true:=hu.1.2.1;have cM:Hid (fj X G m):=cM;have fI:Hid (∀y,y∈ae decls->mS y):=fI;have nC:Hid (∀y,y∈ae decls->∃b0 b1 b2 b3 v:PV,y=[b0,b1,b2,b3,v]/\(ae v).length=0):=nC;have fV:(ae kids).length=2:=by omega
 have bY:db 2 (.sl [[.aj 362 (.fp [b0,ab]),ab],[.aj 362 (.fp [b1,ab]),ab]]) (.int .i64 0)=some (.fp [.aj 362 (.fp [b0,ab]),ab],none):=rfl;have gG:db 2 (.sl [[.aj 362 (.fp [b0,ab]),ab],[.aj 362 (.fp [b1,ab]),ab]]) (.int .i64 1)=some (.fp [.aj 362 (.fp [b1,ab]),ab],none):=rfl;have G6:IntKind.i64.wrap (Int.tdiv 0 4)=0:=by decide
 have G7:IntKind.i64.wrap (Int.tdiv 4 4)=1:=by decide
 have G8:IntKind.i64.wrap (Int.tdiv 0 8)=0:=by decide
 have G9:IntKind.i64.wrap (Int.tdiv 8 8)=1:=by decide
 have Ha:IntKind.i64.wrap (1+0)=1:=by decide
 have Hb:IntKind.i64.wrap (1+1)=2:=by decide
 have Hc:IntKind.i64.wrap (2+0)=2:=by decide
 have Hd:IntKind.i64.wrap (2+1)=3:=by decide
 have He:IntKind.i64.wrap (2 - 1)=1:=by decide
 have Hf:IntKind.i64.wrap (3 - 1)=2:=by decide
 have Hg:IntKind.i64.wrap (1 - 1)=0:=by decide
 have zd:bits .and .i64 4 4=4:=by decide
 have Hh:bits .and .i64 4 8=0:=by decide
 have aW:Hid (aK (ae kids) [g0,g1]):=aW;clear kX qN;have:=ao.1;have:=ao.2.1;have:=aN.1;have:=aN.2.1;have:=aq.1;have:=aq.2.1;have:=aL.1;have:=aL.2.1;have:=aM.1;have:=aM.2.1;have:=av.1;have:=av.2.1;have:=au.1;have:=au.2.1;refine ay CX af ?_;refine cA ?_;open Wn bi in exact az
namespace Wo
theorem fu(h:p:=by
 first
 |skip
  have aW:aK (ae kids) [g0,g1]:=aW;exact⟨_,_,_,rfl,dT,.Um _ _ _ _ dj dt (ST (es:=[]) (ws:=[]) (fs:=[]) (cs:=[]) (us:=[]) (ds:=[]) (.inr ⟨rfl,aJ⟩) (Rg.n _ aJ aJ) .nil .nil (.two dj.ht dt.ht) .nil .nil .nil .nil),oH rh rfl (iC ao.1 ax) aN.1 hl aq.1 aW aL.1 (aK.zero dS) aM.1 (em ax) av.1 (em ax) au.1 (em ax)⟩;done
 |fail):p:=h
end Wo
namespace Wp
theorem bj(h:p:=by
 first
 |skip
  refine b5 (fun n s'=>s'.t 2= .ptr 1 1 0/\s'.t 14= .sl [[.aj 362 (.fp [b0,ab]),ab],[.aj 362 (.fp [b1,ab]),ab]]/\s'.t 15= .int .i64 2/\s'.H 1=some ⟨55,1,[PV.int .i64 15,.int .i64 0,.int .i64 (-1),.int .i64 8,str,exprs,kids,decls,cases,aC,aG],0⟩/\((n=2/\s'.t 16= .int .i64 0/\aX [8006] s'.H 198 2 (s'.t 6) [])\/(n=1/\s'.t 16= .int .i64 1/\aX [8006] s'.H 198 2 (s'.t 6) [[b0,ab]])\/(n=0/\s'.t 16= .int .i64 2/\aX [8006] s'.H 198 2 (s'.t 6) [[b0,ab],[b1,ab]]))) ?_ (n:=2)
   ⟨nB,nB,nB,nB,.inl ⟨rfl,nB,aiL⟩⟩
  rintro n ⟨t,H,k⟩ ⟨h2,cp,cI,e1,m9⟩ next
  simp only at h2 cp cI e1 m9;rcases m9 with⟨rfl,cS,aY⟩|⟨rfl,cS,aY⟩|⟨rfl,cS,aY⟩
  ·have hE:=fun(n:Nat) (H':al) (q1:H' 8006=H 8006)=>(aX.dF (n:=n) (aY.frame (H':=H') iY))
   obtain⟨g1,g2,g3,g4⟩:=aY.gv;refine nA (Kj h2 (Kj cp (Kj cI (Kj cS e1)))) ?_;have nx:Hid _:=next
   clear next
   open dO Ae Gx in exact bu
  ·have hE:=fun(n:Nat) (H':al) (q1:H' 8006=H 8006)=>(aX.dF (n:=n) (aY.frame (H':=H') iY))
   obtain⟨g1,g2,g3,g4⟩:=aY.gv;refine nA (Kj h2 (Kj cp (Kj cI (Kj cS e1)))) ?_;have nx:Hid _:=next
   clear next
   open dO Af Gy in exact bu
  ·rcases aY.2 with⟨e,_⟩|⟨rid,st,hA,uo,ur⟩
   ·cases e
   simp only[List.mem_singleton]at hA;subst hA;simp only[List.flatten_cons,List.flatten_nil,List.cons_append,List.nil_append,List.length_cons,List.length_nil]at ur uo;clear aY;refine cA ?_;open Wo xM Ag in exact bu
  done
 |fail):p:=h
end Wp
theorem atK{m:Nat}{x:List PV}{v u:PV}{es ks:List (List PV)}(cM:fj X G m)(hx:bH x)(hm:SizeOf.sizeOf x<=m)(ok:dJ x)(hk:bl x=15)(hv:br CE v es)(aV:aK (ae (x.getD 5 .undef)) es)(hu:br CS u ks)(bT:aK (ae (x.getD 6 .undef)) ks)(oI:x.getD 3 .undef= .int .i64 8)(uu:(ae (x.getD 6 .undef)).length=2)(dS:(ae (x.getD 7 .undef)).length=0):Pure ai X G 115 [.agg x,u] (NS x):=by
 obtain⟨kind,op,aA,flags,str,exprs,kids,decls,cases,aC,aG,rfl,hr,ao,aN,aq,aL,aM,av,au⟩:=hx.open (hm);have bX:bH [PV.int .i64 kind,.int .i64 op,.int .i64 aA,.int .i64 flags,str,exprs,kids,decls,cases,aC,aG]:=hx;simp only[cQ]at hk;subst hk;have hl:aK (ae exprs) es:=aV;have aW:aK (ae kids) ks:=bT;clear aV bT;cases ok with
 |mk _ _ _ _ _ _ _ _ _ _ _ hf il eW fI eR iE fB iF iG gg=>
 revert hf;simp[ii];intros;subst_vars;have eB:=hl.1;have fV:=aW.1;have bz:=bz;simp only[List.getD_cons_succ,List.getD_cons_zero]at oI uu dS;obtain rfl:flags=8:=by injection oI
 have kX:∀y,y∈ae kids->∃l:List PV,y= .int .i64 7::l:=(gg rfl).1;have nC:=(gg rfl).2;obtain rfl:es=[]:=aK.z hl iB;obtain⟨g0,g1,rfl⟩:=pg (l:=ks) ad;obtain⟨w0,z0,w1,z1,rfl,jH,kT,dj,dt⟩:=kK.two hu;obtain⟨q0,q1,qN⟩:=pg (l:=ae kids) ad;obtain⟨b0,rfl,rfl⟩:∃b,w0=362/\z0= .fp [b,ab]:=by
  obtain⟨l,e⟩:=kX q0 pW;have h:=aW.2 0 q0 g0 pV rfl;rw[e]at h;exact dj.qb h
 have dX:=qc jH;have cv:=fQ ((qd dj).imp id fun⟨xs,h,_⟩=>⟨xs,h⟩);have G5:=fun(n:Nat) (H:al)=>aH (n:=n) (H:=H) dX
 obtain⟨b1,rfl,rfl⟩:∃b,w1=362/\z1= .fp [b,ab]:=by
  obtain⟨l,e⟩:=kX q1 pW;have h:=aW.2 1 q1 g1 pV rfl;rw[e]at h;exact dt.qb h
 have dG:=qc kT;have cy:=fQ ((qd dt).imp id fun⟨xs,h,_⟩=>⟨xs,h⟩);have Aq:=fun(n:Nat) (H:al)=>aH (n:=n) (H:=H) dG
 have lu:aQ (.sl [[.aj 362 (.fp [b0,ab]),ab],[.aj 362 (.fp [b1,ab]),ab]]):=hu.1.1;have pj:([[.aj 362 (.fp [b0,ab]),ab],[.aj 362 (.fp [b1,ab]),ab]]:List (List PV)).length=2:=rfl;have gR:aw (.sl [[.aj 362 (.fp [b0,ab]),ab],[.aj 362 (.fp [b1,ab]),ab]])=true:=hu.1.2.1;have cM:Hid (fj X G m):=cM;have fI:Hid (∀y,y∈ae decls->mS y):=fI;have nC:Hid (∀y,y∈ae decls->∃b0 b1 b2 b3 v:PV,y=[b0,b1,b2,b3,v]/\(ae v).length=0):=nC;have fV:(ae kids).length=2:=by omega
 have bY:db 2 (.sl [[.aj 362 (.fp [b0,ab]),ab],[.aj 362 (.fp [b1,ab]),ab]]) (.int .i64 0)=some (.fp [.aj 362 (.fp [b0,ab]),ab],none):=rfl;have gG:db 2 (.sl [[.aj 362 (.fp [b0,ab]),ab],[.aj 362 (.fp [b1,ab]),ab]]) (.int .i64 1)=some (.fp [.aj 362 (.fp [b1,ab]),ab],none):=rfl;have G6:IntKind.i64.wrap (Int.tdiv 0 4)=0:=by decide
 have G7:IntKind.i64.wrap (Int.tdiv 4 4)=1:=by decide
 have G8:IntKind.i64.wrap (Int.tdiv 0 8)=0:=by decide
 have G9:IntKind.i64.wrap (Int.tdiv 8 8)=1:=by decide
 have Ha:IntKind.i64.wrap (1+0)=1:=by decide
 have Hb:IntKind.i64.wrap (1+1)=2:=by decide
 have Hc:IntKind.i64.wrap (2+0)=2:=by decide
 have Hd:IntKind.i64.wrap (2+1)=3:=by decide
 have He:IntKind.i64.wrap (2 - 1)=1:=by decide
 have Hf:IntKind.i64.wrap (3 - 1)=2:=by decide
 have Hg:IntKind.i64.wrap (1 - 1)=0:=by decide
 have zd:bits .and .i64 8 4=0:=by decide
 have Hh:bits .and .i64 8 8=8:=by decide
 have aW:Hid (aK (ae kids) [g0,g1]):=aW;clear kX qN;have:=ao.1;have:=ao.2.1;have:=aN.1;have:=aN.2.1;have:=aq.1;have:=aq.2.1;have:=aL.1;have:=aL.2.1;have:=aM.1;have:=aM.2.1;have:=av.1;have:=av.2.1;have:=au.1;have:=au.2.1;refine ay CX af ?_;refine cA ?_;open Wp bi in exact az
namespace Wq
theorem fu(h:p:=by
 first
 |skip
  have aW:aK (ae kids) [g0,g1,g2]:=aW;exact⟨_,_,_,rfl,dT,.Up _ _ _ _ _ _ dj dt fW (ST (es:=[]) (ws:=[]) (fs:=[]) (cs:=[]) (us:=[]) (ds:=[]) (.inr ⟨rfl,aJ⟩) (Rg.n _ aJ aJ) .nil .nil (.three dj.ht dt.ht fW.ht) .nil .nil .nil .nil),oH rh rfl (iC ao.1 ax) aN.1 hl aq.1 aW aL.1 (aK.zero dS) aM.1 (em ax) av.1 (em ax) au.1 (em ax)⟩;done
 |fail):p:=h
end Wq
namespace Wr
theorem bj(h:p:=by
 first
 |skip
  refine b5 (fun n s'=>s'.t 2= .ptr 1 1 0/\s'.t 14= .sl [[.aj 362 (.fp [b0,ab]),ab],[.aj 362 (.fp [b1,ab]),ab],[.aj 362 (.fp [b2,ab]),ab]]/\s'.t 15= .int .i64 3/\s'.H 1=some ⟨55,1,[PV.int .i64 15,.int .i64 0,.int .i64 (-1),.int .i64 12,str,exprs,kids,decls,cases,aC,aG],0⟩/\((n=3/\s'.t 16= .int .i64 0/\aX [8006] s'.H 198 2 (s'.t 6) [])\/(n=2/\s'.t 16= .int .i64 1/\aX [8006] s'.H 198 2 (s'.t 6) [[b0,ab]])\/(n=1/\s'.t 16= .int .i64 2/\aX [8006] s'.H 198 2 (s'.t 6) [[b0,ab],[b1,ab]])\/(n=0/\s'.t 16= .int .i64 3/\aX [8006] s'.H 198 2 (s'.t 6) [[b0,ab],[b1,ab],[b2,ab]]))) ?_ (n:=3)
   ⟨nB,nB,nB,nB,.inl ⟨rfl,nB,aiL⟩⟩
  rintro n ⟨t,H,k⟩ ⟨h2,cp,cI,e1,m9⟩ next
  simp only at h2 cp cI e1 m9;rcases m9 with⟨rfl,cS,aY⟩|⟨rfl,cS,aY⟩|⟨rfl,cS,aY⟩|⟨rfl,cS,aY⟩
  ·have hE:=fun(n:Nat) (H':al) (q1:H' 8006=H 8006)=>(aX.dF (n:=n) (aY.frame (H':=H') iY))
   obtain⟨g1,g2,g3,g4⟩:=aY.gv;refine nA (Kj h2 (Kj cp (Kj cI (Kj cS e1)))) ?_;have nx:Hid _:=next
   clear next
   open dO Ae Lw in exact bu
  ·have hE:=fun(n:Nat) (H':al) (q1:H' 8006=H 8006)=>(aX.dF (n:=n) (aY.frame (H':=H') iY))
   obtain⟨g1,g2,g3,g4⟩:=aY.gv;refine nA (Kj h2 (Kj cp (Kj cI (Kj cS e1)))) ?_;have nx:Hid _:=next
   clear next
   open dO Af Lx in exact bu
  ·have hE:=fun(n:Nat) (H':al) (q1:H' 8006=H 8006)=>(aX.dF (n:=n) (aY.frame (H':=H') iY))
   obtain⟨g1,g2,g3,g4⟩:=aY.gv;refine nA (Kj h2 (Kj cp (Kj cI (Kj cS e1)))) ?_;have nx:Hid _:=next
   clear next
   open dO Ly Lz in exact bu
  ·rcases aY.2 with⟨e,_⟩|⟨rid,st,hA,uo,ur⟩
   ·cases e
   simp only[List.mem_singleton]at hA;subst hA;simp only[List.flatten_cons,List.flatten_nil,List.cons_append,List.nil_append,List.length_cons,List.length_nil]at ur uo;clear aY;refine cA ?_;open Wq xM Ag in exact bu
  done
 |fail):p:=h
end Wr
theorem atL{m:Nat}{x:List PV}{v u:PV}{es ks:List (List PV)}(cM:fj X G m)(hx:bH x)(hm:SizeOf.sizeOf x<=m)(ok:dJ x)(hk:bl x=15)(hv:br CE v es)(aV:aK (ae (x.getD 5 .undef)) es)(hu:br CS u ks)(bT:aK (ae (x.getD 6 .undef)) ks)(oI:x.getD 3 .undef= .int .i64 12)(uu:(ae (x.getD 6 .undef)).length=3)(dS:(ae (x.getD 7 .undef)).length=0):Pure ai X G 115 [.agg x,u] (NS x):=by
 obtain⟨kind,op,aA,flags,str,exprs,kids,decls,cases,aC,aG,rfl,hr,ao,aN,aq,aL,aM,av,au⟩:=hx.open (hm);have bX:bH [PV.int .i64 kind,.int .i64 op,.int .i64 aA,.int .i64 flags,str,exprs,kids,decls,cases,aC,aG]:=hx;simp only[cQ]at hk;subst hk;have hl:aK (ae exprs) es:=aV;have aW:aK (ae kids) ks:=bT;clear aV bT;cases ok with
 |mk _ _ _ _ _ _ _ _ _ _ _ hf il eW fI eR iE fB iF iG gg=>
 revert hf;simp[ii];intros;subst_vars;have eB:=hl.1;have fV:=aW.1;have bz:=bz;simp only[List.getD_cons_succ,List.getD_cons_zero]at oI uu dS;obtain rfl:flags=12:=by injection oI
 have kX:∀y,y∈ae kids->∃l:List PV,y= .int .i64 7::l:=(gg rfl).1;have nC:=(gg rfl).2;obtain rfl:es=[]:=aK.z hl iB;obtain⟨g0,g1,g2,rfl⟩:=C8 (l:=ks) ad;obtain⟨w0,z0,w1,z1,w2,z2,rfl,jH,kT,lD,dj,dt,fW⟩:=kK.three hu;obtain⟨q0,q1,q2,qN⟩:=C8 (l:=ae kids) ad;obtain⟨b0,rfl,rfl⟩:∃b,w0=362/\z0= .fp [b,ab]:=by
  obtain⟨l,e⟩:=kX q0 pW;have h:=aW.2 0 q0 g0 pV rfl;rw[e]at h;exact dj.qb h
 have dX:=qc jH;have cv:=fQ ((qd dj).imp id fun⟨xs,h,_⟩=>⟨xs,h⟩);have G5:=fun(n:Nat) (H:al)=>aH (n:=n) (H:=H) dX
 obtain⟨b1,rfl,rfl⟩:∃b,w1=362/\z1= .fp [b,ab]:=by
  obtain⟨l,e⟩:=kX q1 pW;have h:=aW.2 1 q1 g1 pV rfl;rw[e]at h;exact dt.qb h
 have dG:=qc kT;have cy:=fQ ((qd dt).imp id fun⟨xs,h,_⟩=>⟨xs,h⟩);have Aq:=fun(n:Nat) (H:al)=>aH (n:=n) (H:=H) dG
 obtain⟨b2,rfl,rfl⟩:∃b,w2=362/\z2= .fp [b,ab]:=by
  obtain⟨l,e⟩:=kX q2 pW;have h:=aW.2 2 q2 g2 pV rfl;rw[e]at h;exact fW.qb h
 have fD:=qc lD;have jA:=fQ ((qd fW).imp id fun⟨xs,h,_⟩=>⟨xs,h⟩);have sv:=fun(n:Nat) (H:al)=>aH (n:=n) (H:=H) fD
 have lu:aQ (.sl [[.aj 362 (.fp [b0,ab]),ab],[.aj 362 (.fp [b1,ab]),ab],[.aj 362 (.fp [b2,ab]),ab]]):=hu.1.1;have pj:([[.aj 362 (.fp [b0,ab]),ab],[.aj 362 (.fp [b1,ab]),ab],[.aj 362 (.fp [b2,ab]),ab]]:List (List PV)).length=3:=rfl;have gR:aw (.sl [[.aj 362 (.fp [b0,ab]),ab],[.aj 362 (.fp [b1,ab]),ab],[.aj 362 (.fp [b2,ab]),ab]])=true:=hu.1.2.1;have cM:Hid (fj X G m):=cM;have fI:Hid (∀y,y∈ae decls->mS y):=fI;have nC:Hid (∀y,y∈ae decls->∃b0 b1 b2 b3 v:PV,y=[b0,b1,b2,b3,v]/\(ae v).length=0):=nC;have fV:(ae kids).length=3:=by omega
 have bY:db 2 (.sl [[.aj 362 (.fp [b0,ab]),ab],[.aj 362 (.fp [b1,ab]),ab],[.aj 362 (.fp [b2,ab]),ab]]) (.int .i64 0)=some (.fp [.aj 362 (.fp [b0,ab]),ab],none):=rfl;have gG:db 2 (.sl [[.aj 362 (.fp [b0,ab]),ab],[.aj 362 (.fp [b1,ab]),ab],[.aj 362 (.fp [b2,ab]),ab]]) (.int .i64 1)=some (.fp [.aj 362 (.fp [b1,ab]),ab],none):=rfl;have me:db 2 (.sl [[.aj 362 (.fp [b0,ab]),ab],[.aj 362 (.fp [b1,ab]),ab],[.aj 362 (.fp [b2,ab]),ab]]) (.int .i64 2)=some (.fp [.aj 362 (.fp [b2,ab]),ab],none):=rfl;have G6:IntKind.i64.wrap (Int.tdiv 0 4)=0:=by decide
 have G7:IntKind.i64.wrap (Int.tdiv 4 4)=1:=by decide
 have G8:IntKind.i64.wrap (Int.tdiv 0 8)=0:=by decide
 have G9:IntKind.i64.wrap (Int.tdiv 8 8)=1:=by decide
 have Ha:IntKind.i64.wrap (1+0)=1:=by decide
 have Hb:IntKind.i64.wrap (1+1)=2:=by decide
 have Hc:IntKind.i64.wrap (2+0)=2:=by decide
 have Hd:IntKind.i64.wrap (2+1)=3:=by decide
 have He:IntKind.i64.wrap (2 - 1)=1:=by decide
 have Hf:IntKind.i64.wrap (3 - 1)=2:=by decide
 have Hg:IntKind.i64.wrap (1 - 1)=0:=by decide
 have zd:bits .and .i64 12 4=4:=by decide
 have Hh:bits .and .i64 12 8=8:=by decide
 have aW:Hid (aK (ae kids) [g0,g1,g2]):=aW;clear kX qN;have:=ao.1;have:=ao.2.1;have:=aN.1;have:=aN.2.1;have:=aq.1;have:=aq.2.1;have:=aL.1;have:=aL.2.1;have:=aM.1;have:=aM.2.1;have:=av.1;have:=av.2.1;have:=au.1;have:=au.2.1;refine ay CX af ?_;refine cA ?_;open Wr bi in exact az
namespace Ws
theorem fu(h:p:=by
 first
 |skip
  have aW:aK (ae kids) [g0,g1,g2]:=aW;obtain⟨d0,d1,d2,d3,rfl⟩:=cy.four;exact⟨_,_,_,rfl,dT,.Uo _ _ _ _ _ _ _ _ _ _ _ cy dj dt fW (ST (es:=[]) (ws:=[]) (fs:=[]) (cs:=[]) (us:=[]) (.inr ⟨rfl,aJ⟩) (Rg.n _ aJ aJ) .nil .nil (.three dj.ht dt.ht fW.ht) (.one (DT .nil cy.ht)) .nil .nil .nil),oH rh rfl (iC ao.1 ax) aN.1 hl aq.1 aW aL.1 (G4 ax hg (dE.append bL (.cons (.e0 bO.1 lr) rfl .nil))) aM.1 (em ax) av.1 (em ax) au.1 (em ax)⟩;done
 |fail):p:=h
end Ws
namespace Wt
theorem bj(h:p:=by
 first
 |skip
  refine b5 (fun n s'=>s'.t 2= .ptr 1 1 0/\s'.t 14= .sl [[.aj 362 (.fp [b0,ab]),ab],[.aj 362 (.fp [b1,ab]),ab],[.aj 362 (.fp [b2,ab]),ab]]/\s'.t 15= .int .i64 3/\s'.H 1=some ⟨55,1,[PV.int .i64 15,.int .i64 0,.int .i64 (-1),.int .i64 12,str,exprs,kids,decls,cases,aC,aG],0⟩/\((n=3/\s'.t 16= .int .i64 0/\aX [8006] s'.H 198 2 (s'.t 6) [])\/(n=2/\s'.t 16= .int .i64 1/\aX [8006] s'.H 198 2 (s'.t 6) [[b0,ab]])\/(n=1/\s'.t 16= .int .i64 2/\aX [8006] s'.H 198 2 (s'.t 6) [[b0,ab],[b1,ab]])\/(n=0/\s'.t 16= .int .i64 3/\aX [8006] s'.H 198 2 (s'.t 6) [[b0,ab],[b1,ab],[b2,ab]]))) ?_ (n:=3)
   ⟨nB,nB,nB,nB,.inl ⟨rfl,nB,aiL⟩⟩
  rintro n ⟨t,H,k⟩ ⟨h2,cp,cI,e1,m9⟩ next
  simp only at h2 cp cI e1 m9;rcases m9 with⟨rfl,cS,aY⟩|⟨rfl,cS,aY⟩|⟨rfl,cS,aY⟩|⟨rfl,cS,aY⟩
  ·have hE:=fun(n:Nat) (H':al) (q1:H' 8006=H 8006)=>(aX.dF (n:=n) (aY.frame (H':=H') iY))
   obtain⟨g1,g2,g3,g4⟩:=aY.gv;refine nA (Kj h2 (Kj cp (Kj cI (Kj cS e1)))) ?_;have nx:Hid _:=next
   clear next
   open dO Ae Lw in exact bu
  ·have hE:=fun(n:Nat) (H':al) (q1:H' 8006=H 8006)=>(aX.dF (n:=n) (aY.frame (H':=H') iY))
   obtain⟨g1,g2,g3,g4⟩:=aY.gv;refine nA (Kj h2 (Kj cp (Kj cI (Kj cS e1)))) ?_;have nx:Hid _:=next
   clear next
   open dO Af Lx in exact bu
  ·have hE:=fun(n:Nat) (H':al) (q1:H' 8006=H 8006)=>(aX.dF (n:=n) (aY.frame (H':=H') iY))
   obtain⟨g1,g2,g3,g4⟩:=aY.gv;refine nA (Kj h2 (Kj cp (Kj cI (Kj cS e1)))) ?_;have nx:Hid _:=next
   clear next
   open dO Ly Lz in exact bu
  ·rcases aY.2 with⟨e,_⟩|⟨rid,st,hA,uo,ur⟩
   ·cases e
   simp only[List.mem_singleton]at hA;subst hA;simp only[List.flatten_cons,List.flatten_nil,List.cons_append,List.nil_append,List.length_cons,List.length_nil]at ur uo;clear aY;refine cA ?_;open Ws xM Ag in exact bu
  done
 |fail):p:=h
end Wt
theorem atM{m:Nat}{x:List PV}{v u:PV}{es ks:List (List PV)}(cM:fj X G m)(hx:bH x)(hm:SizeOf.sizeOf x<=m)(ok:dJ x)(hk:bl x=15)(hv:br CE v es)(aV:aK (ae (x.getD 5 .undef)) es)(hu:br CS u ks)(bT:aK (ae (x.getD 6 .undef)) ks)(oI:x.getD 3 .undef= .int .i64 12)(uu:(ae (x.getD 6 .undef)).length=3)(dS:(ae (x.getD 7 .undef)).length=1):Pure ai X G 115 [.agg x,u] (NS x):=by
 obtain⟨kind,op,aA,flags,str,exprs,kids,decls,cases,aC,aG,rfl,hr,ao,aN,aq,aL,aM,av,au⟩:=hx.open (hm);have bX:bH [PV.int .i64 kind,.int .i64 op,.int .i64 aA,.int .i64 flags,str,exprs,kids,decls,cases,aC,aG]:=hx;simp only[cQ]at hk;subst hk;have hl:aK (ae exprs) es:=aV;have aW:aK (ae kids) ks:=bT;clear aV bT;cases ok with
 |mk _ _ _ _ _ _ _ _ _ _ _ hf il eW fI eR iE fB iF iG gg=>
 revert hf;simp[ii];intros;subst_vars;have eB:=hl.1;have fV:=aW.1;have bz:=bz;simp only[List.getD_cons_succ,List.getD_cons_zero]at oI uu dS;obtain rfl:flags=12:=by injection oI
 have kX:∀y,y∈ae kids->∃l:List PV,y= .int .i64 7::l:=(gg rfl).1;have nC:=(gg rfl).2;obtain rfl:es=[]:=aK.z hl iB;obtain⟨g0,g1,g2,rfl⟩:=C8 (l:=ks) ad;obtain⟨w0,z0,w1,z1,w2,z2,rfl,jH,kT,lD,dj,dt,fW⟩:=kK.three hu;obtain⟨q0,q1,q2,qN⟩:=C8 (l:=ae kids) ad;obtain⟨b0,rfl,rfl⟩:∃b,w0=362/\z0= .fp [b,ab]:=by
  obtain⟨l,e⟩:=kX q0 pW;have h:=aW.2 0 q0 g0 pV rfl;rw[e]at h;exact dj.qb h
 have dX:=qc jH;have cv:=fQ ((qd dj).imp id fun⟨xs,h,_⟩=>⟨xs,h⟩);have G5:=fun(n:Nat) (H:al)=>aH (n:=n) (H:=H) dX
 obtain⟨b1,rfl,rfl⟩:∃b,w1=362/\z1= .fp [b,ab]:=by
  obtain⟨l,e⟩:=kX q1 pW;have h:=aW.2 1 q1 g1 pV rfl;rw[e]at h;exact dt.qb h
 have dG:=qc kT;have cy:=fQ ((qd dt).imp id fun⟨xs,h,_⟩=>⟨xs,h⟩);have Aq:=fun(n:Nat) (H:al)=>aH (n:=n) (H:=H) dG
 obtain⟨b2,rfl,rfl⟩:∃b,w2=362/\z2= .fp [b,ab]:=by
  obtain⟨l,e⟩:=kX q2 pW;have h:=aW.2 2 q2 g2 pV rfl;rw[e]at h;exact fW.qb h
 have fD:=qc lD;have jA:=fQ ((qd fW).imp id fun⟨xs,h,_⟩=>⟨xs,h⟩);have sv:=fun(n:Nat) (H:al)=>aH (n:=n) (H:=H) fD
 have lu:aQ (.sl [[.aj 362 (.fp [b0,ab]),ab],[.aj 362 (.fp [b1,ab]),ab],[.aj 362 (.fp [b2,ab]),ab]]):=hu.1.1;have pj:([[.aj 362 (.fp [b0,ab]),ab],[.aj 362 (.fp [b1,ab]),ab],[.aj 362 (.fp [b2,ab]),ab]]:List (List PV)).length=3:=rfl;have gR:aw (.sl [[.aj 362 (.fp [b0,ab]),ab],[.aj 362 (.fp [b1,ab]),ab],[.aj 362 (.fp [b2,ab]),ab]])=true:=hu.1.2.1;have cM:Hid (fj X G m):=cM;have fI:Hid (∀y,y∈ae decls->mS y):=fI;have nC:Hid (∀y,y∈ae decls->∃b0 b1 b2 b3 v:PV,y=[b0,b1,b2,b3,v]/\(ae v).length=0):=nC;have fV:(ae kids).length=3:=by omega
 have bY:db 2 (.sl [[.aj 362 (.fp [b0,ab]),ab],[.aj 362 (.fp [b1,ab]),ab],[.aj 362 (.fp [b2,ab]),ab]]) (.int .i64 0)=some (.fp [.aj 362 (.fp [b0,ab]),ab],none):=rfl;have gG:db 2 (.sl [[.aj 362 (.fp [b0,ab]),ab],[.aj 362 (.fp [b1,ab]),ab],[.aj 362 (.fp [b2,ab]),ab]]) (.int .i64 1)=some (.fp [.aj 362 (.fp [b1,ab]),ab],none):=rfl;have me:db 2 (.sl [[.aj 362 (.fp [b0,ab]),ab],[.aj 362 (.fp [b1,ab]),ab],[.aj 362 (.fp [b2,ab]),ab]]) (.int .i64 2)=some (.fp [.aj 362 (.fp [b2,ab]),ab],none):=rfl;have G6:IntKind.i64.wrap (Int.tdiv 0 4)=0:=by decide
 have G7:IntKind.i64.wrap (Int.tdiv 4 4)=1:=by decide
 have G8:IntKind.i64.wrap (Int.tdiv 0 8)=0:=by decide
 have G9:IntKind.i64.wrap (Int.tdiv 8 8)=1:=by decide
 have Ha:IntKind.i64.wrap (1+0)=1:=by decide
 have Hb:IntKind.i64.wrap (1+1)=2:=by decide
 have Hc:IntKind.i64.wrap (2+0)=2:=by decide
 have Hd:IntKind.i64.wrap (2+1)=3:=by decide
 have He:IntKind.i64.wrap (2 - 1)=1:=by decide
 have Hf:IntKind.i64.wrap (3 - 1)=2:=by decide
 have Hg:IntKind.i64.wrap (1 - 1)=0:=by decide
 have zd:bits .and .i64 12 4=4:=by decide
 have Hh:bits .and .i64 12 8=8:=by decide
 have aW:Hid (aK (ae kids) [g0,g1,g2]):=aW;clear kX qN;have:=ao.1;have:=ao.2.1;have:=aN.1;have:=aN.2.1;have:=aq.1;have:=aq.2.1;have:=aL.1;have:=aL.2.1;have:=aM.1;have:=aM.2.1;have:=av.1;have:=av.2.1;have:=au.1;have:=au.2.1;refine ay CX af ?_;refine cA ?_;open Wt bi in exact az
theorem atN{m:Nat}{x:List PV}{v u:PV}{es ks:List (List PV)}(cM:fj X G m)(hx:bH x)(hm:SizeOf.sizeOf x<=m)(ok:dJ x)(hk:bl x=15)(hv:br CE v es)(aV:aK (ae (x.getD 5 .undef)) es)(hu:br CS u ks)(bT:aK (ae (x.getD 6 .undef)) ks):Pure ai X G 115 [.agg x,u] (NS x):=by
 obtain⟨kind,op,aA,flags,str,exprs,kids,decls,cases,aC,aG,rfl,hf⟩:∃(kind op aA flags:Int)(str exprs kids decls cases aC aG:PV),x=[.int .i64 kind,.int .i64 op,.int .i64 aA,.int .i64 flags,str,exprs,kids,decls,cases,aC,aG]/\ii kind op aA flags (ae str).length (ae exprs).length (ae kids).length (ae decls).length (ae cases).length (ae aC).length (ae aG).length:=by
  cases ok with
  |mk _ _ _ _ _ _ _ _ _ _ _ hf=>exact⟨_,_,_,_,_,_,_,_,_,_,_,rfl,hf⟩
 simp only[cQ]at hk;subst hk;have h:=hf.2.2.2.2.2.2.2.2.2.2.2.2.2.2.2.2.2.2.2.2.2.2.2.2.2.2 rfl;rcases h with⟨rfl,h2,h3⟩|⟨rfl,h2,h3⟩|⟨rfl,h2,h3⟩
 ·rcases(by omega:(ae decls).length=0\/(ae decls).length=1)with h|h
  ·exact atI cM hx hm ok rfl hv aV hu bT rfl h2 h
  ·exact atJ cM hx hm ok rfl hv aV hu bT rfl h2 h
 ·exact atK cM hx hm ok rfl hv aV hu bT rfl h2 h3
 ·rcases(by omega:(ae decls).length=0\/(ae decls).length=1)with h|h
  ·exact atL cM hx hm ok rfl hv aV hu bT rfl h2 h
  ·exact atM cM hx hm ok rfl hv aV hu bT rfl h2 h
end
end Go.Pi
end
section
open Go Go.Pi
namespace Go.Pi
variable{p q a:Prop}
section
variable{X:aS}{G:Nat->PV}
namespace Wu
theorem bj(h:p:=by
 first
 |skip
  exact⟨_,_,_,rfl,dT,.block _ _ hu.1 hu.2 (SK aJ .nil (hu.ty fun _ _ h=>h.ht)),mE ao.1 aN.1 aq.1 aL.1 aM.1 av.1 au.1 hl aW ax ax ax ax ax⟩;done
 |fail):p:=h
end Wu
theorem atO{m:Nat}{x:List PV}{v u:PV}{es ks:List (List PV)}(hx:bH x)(hm:SizeOf.sizeOf x<=m)(ok:dJ x)(hk:bl x=7)(hv:br CE v es)(aV:aK (ae (x.getD 5 .undef)) es)(hu:br CS u ks)(bT:aK (ae (x.getD 6 .undef)) ks):Pure ai X G 69 [.agg x,v,u] (NS x):=by
 obtain⟨kind,op,aA,flags,str,exprs,kids,decls,cases,aC,aG,rfl,hr,ao,aN,aq,aL,aM,av,au⟩:=hx.open (hm);have bX:bH [PV.int .i64 kind,.int .i64 op,.int .i64 aA,.int .i64 flags,str,exprs,kids,decls,cases,aC,aG]:=hx;simp only[cQ]at hk;subst hk;have hl:aK (ae exprs) es:=aV;have aW:aK (ae kids) ks:=bT;clear aV bT;cases ok with
 |mk _ _ _ _ _ _ _ _ _ _ _ hf il eW fI eR iE fB iF iG gg=>
 revert hf;simp[ii];intros;subst_vars;have eB:=hl.1;have fV:=aW.1;have bz:=bz;obtain rfl:es=[]:=aK.z hl iB;have lu:=hu.1.1;have gR:=hu.1.2.1;have Df:=fun(n:Nat) (H:al)=>aH (n:=n) (H:=H) gR
 have Wv:=fQ (lu.imp id fun⟨xs,h,_⟩=>⟨xs,h⟩);have lv:=hv.1.1;have eo:=hv.1.2.1;have:=ao.1;have:=ao.2.1;have:=aN.1;have:=aN.2.1;have:=aq.1;have:=aq.2.1;have:=aL.1;have:=aL.2.1;have:=aM.1;have:=aM.2.1;have:=av.1;have:=av.2.1;have:=au.1;have:=au.2.1;refine ay xP af ?_;refine cA ?_;open Wu bi in exact az
namespace Ww
theorem bj(h:p:=by
 first
 |skip
  exact⟨_,_,_,rfl,dT,.Uf _ _ _ _ cv dj (SK aJ (.one cv.ht) (.one dj.ht)),mE ao.1 aN.1 aq.1 aL.1 aM.1 av.1 au.1 hl aW ax ax ax ax ax⟩;done
 |fail):p:=h
end Ww
namespace Wx
theorem bj(h:p:=by
 first
 |skip
  exact⟨_,_,_,rfl,dT,.Ug _ _ _ _ _ _ cv dj dt (SK aJ (.one cv.ht) (.two dj.ht dt.ht)),mE ao.1 aN.1 aq.1 aL.1 aM.1 av.1 au.1 hl aW ax ax ax ax ax⟩;done
 |fail):p:=h
end Wx
theorem atP{m:Nat}{x:List PV}{v u:PV}{es ks:List (List PV)}(hx:bH x)(hm:SizeOf.sizeOf x<=m)(ok:dJ x)(hk:bl x=8)(hv:br CE v es)(aV:aK (ae (x.getD 5 .undef)) es)(hu:br CS u ks)(bT:aK (ae (x.getD 6 .undef)) ks):Pure ai X G 69 [.agg x,v,u] (NS x):=by
 obtain⟨kind,op,aA,flags,str,exprs,kids,decls,cases,aC,aG,rfl,hr,ao,aN,aq,aL,aM,av,au⟩:=hx.open (hm);have bX:bH [PV.int .i64 kind,.int .i64 op,.int .i64 aA,.int .i64 flags,str,exprs,kids,decls,cases,aC,aG]:=hx;simp only[cQ]at hk;subst hk;have hl:aK (ae exprs) es:=aV;have aW:aK (ae kids) ks:=bT;clear aV bT;cases ok with
 |mk _ _ _ _ _ _ _ _ _ _ _ hf il eW fI eR iE fB iF iG gg=>
 revert hf;simp[ii];intros;subst_vars;have eB:=hl.1;have fV:=aW.1;have bz:=bz;rcases(by omega:(ae kids).length=1\/(ae kids).length=2)with uV|uV
 ·obtain⟨d0,rfl⟩:=ki (l:=es) ad;obtain⟨u0,y0,rfl,iQ,cv⟩:=hv.one;have lv:aQ (.sl [[.aj u0 y0,ab]]):=hv.1.1;have ri:([[.aj u0 y0,ab]]:List (List PV)).length=1:=rfl;have eo:aw (.sl [[.aj u0 y0,ab]])=true:=hv.1.2.1;have jX:db 2 (.sl [[.aj u0 y0,ab]]) (.int .i64 0)=some (.fp [.aj u0 y0,ab],none):=rfl;obtain⟨g0,rfl⟩:=ki (l:=ks) ad;obtain⟨w0,z0,rfl,jH,dj⟩:=kK.one hu;have lu:aQ (.sl [[.aj w0 z0,ab]]):=hu.1.1;have pj:([[.aj w0 z0,ab]]:List (List PV)).length=1:=rfl;have gR:aw (.sl [[.aj w0 z0,ab]])=true:=hu.1.2.1;have qW:db 2 (.sl [[.aj w0 z0,ab]]) (.int .i64 0)=some (.fp [.aj w0 z0,ab],none):=rfl;have:=ao.1;have:=ao.2.1;have:=aN.1;have:=aN.2.1;have:=aq.1;have:=aq.2.1;have:=aL.1;have:=aL.2.1;have:=aM.1;have:=aM.2.1;have:=av.1;have:=av.2.1;have:=au.1;have:=au.2.1;refine ay xP af ?_;refine cA ?_;open Ww bi Cp in exact az
 ·obtain⟨d0,rfl⟩:=ki (l:=es) ad;obtain⟨u0,y0,rfl,iQ,cv⟩:=hv.one;have lv:aQ (.sl [[.aj u0 y0,ab]]):=hv.1.1;have ri:([[.aj u0 y0,ab]]:List (List PV)).length=1:=rfl;have eo:aw (.sl [[.aj u0 y0,ab]])=true:=hv.1.2.1;have jX:db 2 (.sl [[.aj u0 y0,ab]]) (.int .i64 0)=some (.fp [.aj u0 y0,ab],none):=rfl;obtain⟨g0,g1,rfl⟩:=pg (l:=ks) ad;obtain⟨w0,z0,w1,z1,rfl,jH,kT,dj,dt⟩:=kK.two hu;have lu:aQ (.sl [[.aj w0 z0,ab],[.aj w1 z1,ab]]):=hu.1.1;have pj:([[.aj w0 z0,ab],[.aj w1 z1,ab]]:List (List PV)).length=2:=rfl;have gR:aw (.sl [[.aj w0 z0,ab],[.aj w1 z1,ab]])=true:=hu.1.2.1;have qW:db 2 (.sl [[.aj w0 z0,ab],[.aj w1 z1,ab]]) (.int .i64 0)=some (.fp [.aj w0 z0,ab],none):=rfl;have fw:db 2 (.sl [[.aj w0 z0,ab],[.aj w1 z1,ab]]) (.int .i64 1)=some (.fp [.aj w1 z1,ab],none):=rfl;have:=ao.1;have:=ao.2.1;have:=aN.1;have:=aN.2.1;have:=aq.1;have:=aq.2.1;have:=aL.1;have:=aL.2.1;have:=aM.1;have:=aM.2.1;have:=av.1;have:=av.2.1;have:=au.1;have:=au.2.1;refine ay xP af ?_;refine cA ?_;open Wx bi Co in exact az
namespace Wy
theorem bj(h:p:=by
 first
 |skip
  exact⟨_,_,_,rfl,dT,.Uj _ _ _ _ dj cv (SK aJ (.one cv.ht) (.one dj.ht)),mE ao.1 aN.1 aq.1 aL.1 aM.1 av.1 au.1 hl aW ax ax ax ax ax⟩;done
 |fail):p:=h
end Wy
theorem atQ{m:Nat}{x:List PV}{v u:PV}{es ks:List (List PV)}(hx:bH x)(hm:SizeOf.sizeOf x<=m)(ok:dJ x)(hk:bl x=14)(hv:br CE v es)(aV:aK (ae (x.getD 5 .undef)) es)(hu:br CS u ks)(bT:aK (ae (x.getD 6 .undef)) ks):Pure ai X G 69 [.agg x,v,u] (NS x):=by
 obtain⟨kind,op,aA,flags,str,exprs,kids,decls,cases,aC,aG,rfl,hr,ao,aN,aq,aL,aM,av,au⟩:=hx.open (hm);have bX:bH [PV.int .i64 kind,.int .i64 op,.int .i64 aA,.int .i64 flags,str,exprs,kids,decls,cases,aC,aG]:=hx;simp only[cQ]at hk;subst hk;have hl:aK (ae exprs) es:=aV;have aW:aK (ae kids) ks:=bT;clear aV bT;cases ok with
 |mk _ _ _ _ _ _ _ _ _ _ _ hf il eW fI eR iE fB iF iG gg=>
 revert hf;simp[ii];intros;subst_vars;have eB:=hl.1;have fV:=aW.1;have bz:=bz;obtain⟨d0,rfl⟩:=ki (l:=es) ad;obtain⟨u0,y0,rfl,iQ,cv⟩:=hv.one;have lv:aQ (.sl [[.aj u0 y0,ab]]):=hv.1.1;have ri:([[.aj u0 y0,ab]]:List (List PV)).length=1:=rfl;have eo:aw (.sl [[.aj u0 y0,ab]])=true:=hv.1.2.1;have jX:db 2 (.sl [[.aj u0 y0,ab]]) (.int .i64 0)=some (.fp [.aj u0 y0,ab],none):=rfl;obtain⟨g0,rfl⟩:=ki (l:=ks) ad;obtain⟨w0,z0,rfl,jH,dj⟩:=kK.one hu;have lu:aQ (.sl [[.aj w0 z0,ab]]):=hu.1.1;have pj:([[.aj w0 z0,ab]]:List (List PV)).length=1:=rfl;have gR:aw (.sl [[.aj w0 z0,ab]])=true:=hu.1.2.1;have qW:db 2 (.sl [[.aj w0 z0,ab]]) (.int .i64 0)=some (.fp [.aj w0 z0,ab],none):=rfl;have:=ao.1;have:=ao.2.1;have:=aN.1;have:=aN.2.1;have:=aq.1;have:=aq.2.1;have:=aL.1;have:=aL.2.1;have:=aM.1;have:=aM.2.1;have:=av.1;have:=av.2.1;have:=au.1;have:=au.2.1;refine ay xP af ?_;refine cA ?_;open Wy bi Cp in exact az
namespace Wz
theorem bw(h:p:=by
 first
 |exact akj
 |(refine aO (FV _ (.inr ⟨ad,ad⟩)) bS (cB) ?_;rintro nm dU;obtain⟨rfl,hn9⟩:nm= .fp [ab,.int .u32 0,.int .u32 aA]/\0<=aA:=(by cases dU;exact absurd ‹0<=(-1:Int)› aJ;exact⟨rfl,ad⟩);refine cA ?_)<;>exact az
 |fail):p:=h
theorem bj(h:p:=by
 first
 |skip
  exact⟨_,_,_,rfl,dT,.label _ _ _ ⟨ad,ad⟩ dj (ST (es:=[]) (ds:=[]) (ws:=[]) (fs:=[]) (cs:=[]) (us:=[]) (.inl ⟨_,rfl⟩) (Rg.n _ aJ aJ) .nil .nil (.one dj.ht) .nil .nil .nil .nil),oH (.refl _) rfl (iC ao.1 ax) aN.1 hl aq.1 aW aL.1 (em ax) aM.1 (em ax) av.1 (em ax) au.1 (em ax)⟩;done
 |fail):p:=h
end Wz
theorem atS{m:Nat}{x:List PV}{v u:PV}{es ks:List (List PV)}(hx:bH x)(hm:SizeOf.sizeOf x<=m)(ok:dJ x)(hk:bl x=17)(hv:br CE v es)(aV:aK (ae (x.getD 5 .undef)) es)(hu:br CS u ks)(bT:aK (ae (x.getD 6 .undef)) ks):Pure ai X G 69 [.agg x,v,u] (NS x):=by
 obtain⟨kind,op,aA,flags,str,exprs,kids,decls,cases,aC,aG,rfl,hr,ao,aN,aq,aL,aM,av,au⟩:=hx.open (hm);have bX:bH [PV.int .i64 kind,.int .i64 op,.int .i64 aA,.int .i64 flags,str,exprs,kids,decls,cases,aC,aG]:=hx;simp only[cQ]at hk;subst hk;have hl:aK (ae exprs) es:=aV;have aW:aK (ae kids) ks:=bT;clear aV bT;cases ok with
 |mk _ _ _ _ _ _ _ _ _ _ _ hf il eW fI eR iE fB iF iG gg=>
 revert hf;simp[ii];intros;subst_vars;have eB:=hl.1;have fV:=aW.1;have bz:=bz;obtain rfl:es=[]:=aK.z hl iB;obtain⟨g0,rfl⟩:=ki (l:=ks) ad;obtain⟨w0,z0,rfl,jH,dj⟩:=kK.one hu;have lu:aQ (.sl [[.aj w0 z0,ab]]):=hu.1.1;have pj:([[.aj w0 z0,ab]]:List (List PV)).length=1:=rfl;have gR:aw (.sl [[.aj w0 z0,ab]])=true:=hu.1.2.1;have qW:db 2 (.sl [[.aj w0 z0,ab]]) (.int .i64 0)=some (.fp [.aj w0 z0,ab],none):=rfl;have lv:=hv.1.1;have eo:=hv.1.2.1;have Ap:(ae v).length=0:=hv.1.2.2;have:=ao.1;have:=ao.2.1;have:=aN.1;have:=aN.2.1;have:=aq.1;have:=aq.2.1;have:=aL.1;have:=aL.2.1;have:=aM.1;have:=aM.2.1;have:=av.1;have:=av.2.1;have:=au.1;have:=au.2.1;refine ay xP af ?_;refine cA ?_;open Wz qY in exact az
namespace WA
theorem cw(h:p:=by
 first
 |(have jK:=(show∀y,y∈ae cases->Al y from iG) _ b6;obtain⟨_,_,q1,q2,q3⟩:=jK;refine aO (qH bO q1 q2 (show dK X G m from ci)) jQ (cB) ?_;rintro _ ⟨k2,tL,rfl,jL,en,xE,fV⟩;refine cA ?_)<;>exact bu
 |(refine aO ((show oG X G m from kE) ‹aB (SZ _) _› q3) jQ (cB) ?_;rintro _ ⟨w4,ds4,rfl,p9,rb⟩;have MJ:=p9.1.1;have MK:=p9.1.2.1;have asE:=fQ (MJ.imp id fun⟨xs,h,_⟩=>⟨xs,h⟩);have asF:=fun(n:Nat) (H:al)=>aH (n:=n) (H:=H) MK;refine cA ?_)<;>exact bu
 |fail):p:=h
theorem iZ(h:p:=by
 first
 |skip
  refine ik (A:=[22010]) (ys:=ys) (zs:=[[k2,ab,w4,ab]]) (ids:=[22009]) (cB) gy af af iA af fH (fun v2 H' z' bI hf=>?_);have Ci:=hf 14005 af af
  replace Ci:=aaA MS Ci
  have mc:=hZ bI;clear hE hf;simp only[push];refine cA ?_;simp only[cG];refine cA ?_;have eO:=hg;simp only[Int.toNat_natCast]at eO;have next:=nx
  unfold Hid at next
  exact next (n - 1) ad _ ⟨i+1,v2,_,_,so,ad,cB,cB,cB,gK,cB,bI.frame pU,jR,iP.snoc (.mk _ _ _ _ xE p9.1 p9.2 (KT xE.ty (p9.ty fun _ _ h=>h.ht))),aV.take eO (.sl bO.1 fV (.sl ‹aB (SZ _) _›.1 rb .nil))⟩
  done
 |fail):p:=h
theorem nD(h:p:=by
 first
 |skip
  refine⟨by simpa using fun h:0∈gi v'=>absurd (g4 0 h) af,?_⟩;have hL:=br.of g1 g2 g3 ad iP;exact⟨_,_,_,rfl,zV,.switch _ _ _ _ cv hL.1 hL.2 (ST (ks:=[]) (ds:=[]) (fs:=[]) (cs:=[]) (us:=[]) (.inr ⟨rfl,aJ⟩) (Rg.n _ aJ aJ) .nil (.one cv.ht) .nil .nil (hL.ty fun _ _ h=>h.ht) .nil .nil),oH rh rfl (iC ao.1 ax) aN.1 hl aq.1 aW aL.1 (em ax) aM.1 (aV.whole ad) av.1 (em ax) au.1 (em ax)⟩;done
 |fail):p:=h
end WA
namespace WB
theorem bj(h:p:=by
 first
 |skip
  refine b5 (fun n s'=>∃(i:Nat)(v':PV)(ys ds:List (List PV))(so:Nat),i+n=(ae cases).length/\s'.t 8= .ptr 14005 so 0/\s'.t 144=cases/\s'.t 145= .int .i64 (ae cases).length/\s'.t 146= .int .i64 i/\
   s'.H 14005=some ⟨378,so,[.aj u0 y0,ab,v',ab,ab],0⟩/\aX [22010] s'.H 380 4 v' ys/\ys.length=i/\Pr CK ys ds/\aK ((ae cases).take i) ds) ?_ (n:=(ae cases).length)
   ⟨0,_,[],[],_,af,nB,nB,nB,nB,nB,aX.nil,rfl,.nil,kS⟩
  rintro n ⟨t,H,k⟩ ⟨i,v',ys,ds,so,hi,h8,cp,cI,cS,MS,aY,eY,iP,aV⟩ next
  simp only at h8 cp cI cS MS aY;have hE:=fun(n:Nat) (H':al) (q1:H' 22010=H 22010)=>(aX.dF (n:=n) (aY.frame (H':=H') iY))
  have um:=hZ aY;obtain⟨g1,g2,g3,g4⟩:=aY.gv;refine nA (Kj h8 (Kj cp (Kj cI (Kj cS MS)))) ?_;have nx:Hid _:=next
  clear next
  open WA dO kU in exact bu
  done
 |fail):p:=h
end WB
theorem atT{m:Nat}{x:List PV}{v u:PV}{es ks:List (List PV)}(ci:dK X G m)(kE:oG X G m)(hx:bH x)(hm:SizeOf.sizeOf x<=m)(ok:dJ x)(hk:bl x=16)(hv:br CE v es)(aV:aK (ae (x.getD 5 .undef)) es)(hu:br CS u ks)(bT:aK (ae (x.getD 6 .undef)) ks):Pure ai X G 69 [.agg x,v,u] (NS x):=by
 obtain⟨kind,op,aA,flags,str,exprs,kids,decls,cases,aC,aG,rfl,hr,ao,aN,aq,aL,aM,av,au⟩:=hx.open (hm);have bX:bH [PV.int .i64 kind,.int .i64 op,.int .i64 aA,.int .i64 flags,str,exprs,kids,decls,cases,aC,aG]:=hx;simp only[cQ]at hk;subst hk;have hl:aK (ae exprs) es:=aV;have aW:aK (ae kids) ks:=bT;clear aV bT;cases ok with
 |mk _ _ _ _ _ _ _ _ _ _ _ hf il eW fI eR iE fB iF iG gg=>
 revert hf;simp[ii];intros;subst_vars;have eB:=hl.1;have fV:=aW.1;have bz:=bz;obtain rfl:ks=[]:=aK.z aW iB;obtain⟨d0,rfl⟩:=ki (l:=es) ad;obtain⟨u0,y0,rfl,iQ,cv⟩:=hv.one;have lv:aQ (.sl [[.aj u0 y0,ab]]):=hv.1.1;have ri:([[.aj u0 y0,ab]]:List (List PV)).length=1:=rfl;have eo:aw (.sl [[.aj u0 y0,ab]])=true:=hv.1.2.1;have jX:db 2 (.sl [[.aj u0 y0,ab]]) (.int .i64 0)=some (.fp [.aj u0 y0,ab],none):=rfl;have lu:=hu.1.1;have gR:=hu.1.2.1;have hnu:(ae u).length=0:=hu.1.2.2;have ci:Hid (dK X G m):=ci;have kE:Hid (oG X G m):=kE;have iG:Hid (∀y,y∈ae cases->Al y):=iG;have hBc:=aM.1.len;clear fV;have:=ao.1;have:=ao.2.1;have:=aN.1;have:=aN.2.1;have:=aq.1;have:=aq.2.1;have:=aL.1;have:=aL.2.1;have:=aM.1;have:=aM.2.1;have:=av.1;have:=av.2.1;have:=au.1;have:=au.2.1;refine ay xP af ?_;refine cA ?_;open WB bi Cn in exact az
namespace WC
theorem bw(h:p:=by
 first
 |(refine aO (atN (show fj X G m from cM) bX hm ok' rfl hv hl hu aW) bS (cB) ?_;rintro _ ⟨t1,k1,d1,rfl,fw,cy,bL⟩;have dt:=fun(n:Nat) (H:al)=>aH (n:=n) (H:=H) fw;refine cA ?_)<;>exact az
 |fail):p:=h
theorem bj(h:p:=by
 first
 |skip
  exact⟨_,_,_,rfl,fw,cy,bL⟩;done
 |fail):p:=h
end WC
theorem atV{m:Nat}{x:List PV}{v u:PV}{es ks:List (List PV)}(cM:fj X G m)(hx:bH x)(hm:SizeOf.sizeOf x<=m)(ok:dJ x)(hk:bl x=15)(hv:br CE v es)(aV:aK (ae (x.getD 5 .undef)) es)(hu:br CS u ks)(bT:aK (ae (x.getD 6 .undef)) ks):Pure ai X G 69 [.agg x,v,u] (NS x):=by
 obtain⟨kind,op,aA,flags,str,exprs,kids,decls,cases,aC,aG,rfl,hr,ao,aN,aq,aL,aM,av,au⟩:=hx.open (hm);have bX:bH [PV.int .i64 kind,.int .i64 op,.int .i64 aA,.int .i64 flags,str,exprs,kids,decls,cases,aC,aG]:=hx;simp only[cQ]at hk;subst hk;have hl:aK (ae exprs) es:=aV;have aW:aK (ae kids) ks:=bT;clear aV bT;have ok':=ok;clear ok;have eB:=hl.1;have fV:=aW.1;have lv:=hv.1.1;have eo:=hv.1.2.1;have lu:=hu.1.1;have gR:=hu.1.2.1;have Df:=fun(n:Nat) (H:al)=>aH (n:=n) (H:=H) gR
 have Wv:=fQ (lu.imp id fun⟨xs,h,_⟩=>⟨xs,h⟩);have cM:Hid (fj X G m):=cM;have:=ao.1;have:=ao.2.1;have:=aN.1;have:=aN.2.1;have:=aq.1;have:=aq.2.1;have:=aL.1;have:=aL.2.1;have:=aM.1;have:=aM.2.1;have:=av.1;have:=av.2.1;have:=au.1;have:=au.2.1;refine ay xP af ?_;refine cA ?_;open WC bi in exact az
end
end Go.Pi
end
section
open Go Go.Pi
namespace Go.Pi
variable{p q a:Prop}
theorem dJ.Dd{x:List PV}(h:dJ x):0<=bl x/\bl x<=21:=by
 cases h with
 |mk _ _ _ _ _ _ _ _ _ _ _ hf=>exact⟨hf.1,hf.2.1⟩
section
variable{X:aS}{G:Nat->PV}
theorem atW{m:Nat}{x:List PV}{v u:PV}{es ks:List (List PV)}(hx:bH x)(hm:SizeOf.sizeOf x<=m)(ok:dJ x)(hk:0<=bl x/\bl x<=3\/18<=bl x/\bl x<=21)(hv:br CE v es)(aV:aK (ae (x.getD 5 .undef)) es)(hu:br CS u ks)(bT:aK (ae (x.getD 6 .undef)) ks):Pure ai X G 66 [.agg x,v] (NS x):=by
 rcases(by omega:bl x=0\/bl x=1\/bl x=2\/bl x=3\/bl x=18\/bl x=19\/bl x=20\/bl x=21)with h|h|h|h|h|h|h|h
 ·exact atp hx hm ok h hv aV hu bT
 ·exact atq hx hm ok h hv aV hu bT
 ·exact atw hx hm ok h hv aV hu bT
 ·exact atr hx hm ok h hv aV hu bT
 ·exact ats hx hm ok h hv aV hu bT
 ·exact att hx hm ok h hv aV hu bT
 ·exact atu hx hm ok h hv aV hu bT
 ·exact atv hx hm ok h hv aV hu bT
theorem atX{m:Nat}{x:List PV}{v u:PV}{es ks:List (List PV)}(ci:dK X G m)(cM:fj X G m)(kI:nK X G m)(kJ:nL X G m)(hx:bH x)(hm:SizeOf.sizeOf x<=m)(ok:dJ x)(hk:4<=bl x/\bl x<=6)(hv:br CE v es)(aV:aK (ae (x.getD 5 .undef)) es)(hu:br CS u ks)(bT:aK (ae (x.getD 6 .undef)) ks):Pure ai X G 67 [.agg x] (NS x):=by
 rcases(by omega:bl x=4\/bl x=5\/bl x=6)with h|h|h
 ·exact atA ci cM hx hm ok h hv aV hu bT
 ·exact atB kJ hx hm ok h hv aV hu bT
 ·exact atC kI hx hm ok h hv aV hu bT
theorem atY{m:Nat}{x:List PV}{v u:PV}{es ks:List (List PV)}(hx:bH x)(hm:SizeOf.sizeOf x<=m)(ok:dJ x)(hk:9<=bl x/\bl x<=13)(hv:br CE v es)(aV:aK (ae (x.getD 5 .undef)) es)(hu:br CS u ks)(bT:aK (ae (x.getD 6 .undef)) ks):Pure ai X G 68 [.agg x,v,u] (NS x):=by
 rcases(by omega:bl x=9\/bl x=10\/bl x=11\/bl x=12\/bl x=13)with h|h|h|h|h
 ·exact atD hx hm ok h hv aV hu bT
 ·exact atE hx hm ok h hv aV hu bT
 ·exact atF hx hm ok h hv aV hu bT
 ·exact atG hx hm ok h hv aV hu bT
 ·exact atH hx hm ok h hv aV hu bT
theorem atZ{m:Nat}{x:List PV}{v u:PV}{es ks:List (List PV)}(ci:dK X G m)(cM:fj X G m)(kE:oG X G m)(hx:bH x)(hm:SizeOf.sizeOf x<=m)(ok:dJ x)(hk:bl x=7\/bl x=8\/14<=bl x/\bl x<=17)(hv:br CE v es)(aV:aK (ae (x.getD 5 .undef)) es)(hu:br CS u ks)(bT:aK (ae (x.getD 6 .undef)) ks):Pure ai X G 69 [.agg x,v,u] (NS x):=by
 rcases(by omega:bl x=7\/bl x=8\/bl x=14\/bl x=15\/bl x=16\/bl x=17)with h|h|h|h|h|h
 ·exact atO hx hm ok h hv aV hu bT
 ·exact atP hx hm ok h hv aV hu bT
 ·exact atQ hx hm ok h hv aV hu bT
 ·exact atV cM hx hm ok h hv aV hu bT
 ·exact atT ci kE hx hm ok h hv aV hu bT
 ·exact atS hx hm ok h hv aV hu bT
namespace WD
theorem cw(h:p:=by
 first
 |(refine aO (atW bX hm ok mN hw aV hu bT) bS (cB) ?_;rintro _ ⟨t1,k1,d1,rfl,fw,cy,bL⟩;have dt:=fun(n:Nat) (H:al)=>aH (n:=n) (H:=H) fw;refine cA ?_)<;>exact bu
 |fail):p:=h
end WD
namespace WE
theorem cw(h:p:=by
 first
 |exact aky
 |(refine aO (atX (show dK X G m from ci) (show fj X G m from cM) (show nK X G m from kI) (show nL X G m from kJ) bX hm ok mN hw aV hu bT) bS (cB) ?_;rintro _ ⟨t1,k1,d1,rfl,fw,cy,bL⟩;have dt:=fun(n:Nat) (H:al)=>aH (n:=n) (H:=H) fw;refine cA ?_)<;>exact bu
 |fail):p:=h
end WE
namespace WG
theorem cw(h:p:=by
 first
 |exact aky
 |exact akA
 |(refine aO (atY bX hm ok mN hw aV hu bT) bS (cB) ?_;rintro _ ⟨t1,k1,d1,rfl,fw,cy,bL⟩;have dt:=fun(n:Nat) (H:al)=>aH (n:=n) (H:=H) fw;refine cA ?_)<;>exact bu
 |fail):p:=h
end WG
namespace WH
theorem cw(h:p:=by
 first
 |exact aky
 |exact akA
 |(refine aO (atx bX (Nat.le_refl _) mN hw hu) bS (cB) ?_;rintro _ rfl;refine cA ?_)<;>exact bu
 |(refine aO (atZ (show dK X G m from ci) (show fj X G m from cM) (show oG X G m from kE) bX hm ok mN hw aV hu bT) bS (cB) ?_;rintro _ ⟨t1,k1,d1,rfl,fw,cy,bL⟩;have dt:=fun(n:Nat) (H:al)=>aH (n:=n) (H:=H) fw;refine cA ?_)<;>exact bu
 |fail):p:=h
end WH
namespace WI
theorem bw(h:p:=by
 first
 |(refine aO (Am aN (show∀y,y∈ae exprs->cD y from il) (show dK X G m from ci)) jQ (cB) ?_;rintro _ ⟨w,es,rfl,hw,aV⟩;have Ao:=hw.1.1;have De:=hw.1.2.1;have Dc:=fQ (Ao.imp id fun⟨xs,h,_⟩=>⟨xs,h⟩);have MQ:=fun(n:Nat) (H:al)=>aH (n:=n) (H:=H) De;refine cA ?_)<;>exact az
 |(refine aO ((show oG X G m from kE) aq (show∀y,y∈ae kids->dJ y from eW)) jQ (cB) ?_;rintro _ ⟨u,ks,rfl,hu,bT⟩;have huS:=hu.1.1;have huD:=hu.1.2.1;have Wv:=fQ (huS.imp id fun⟨xs,h,_⟩=>⟨xs,h⟩);have Df:=fun(n:Nat) (H:al)=>aH (n:=n) (H:=H) huD;refine cA ?_)<;>exact az
 |fail):p:=h
theorem bj(h:p:=by
 first
 |skip
  rcases hc with hc|hc|hc|hc<;>(have hc:Hid _:=hc)
  ·skip;open WD sa in exact bu
  ·skip;open WE sa in exact bu
  ·skip;open WG sa in exact bu
  ·skip;open WH sa in exact bu
  done
 |fail):p:=h
end WI
theorem at4{m:Nat}{x:List PV}(ci:dK X G m)(cM:fj X G m)(kI:nK X G m)(kJ:nL X G m)(kE:oG X G m)(hx:bH x)(hm:SizeOf.sizeOf x<=m)(ok:dJ x):Pure ai X G 27 [.agg x] (NS x):=by
 have WJ:=ok.Dd;have il:∀y,y∈ae (x.getD 5 .undef)->cD y:=by cases ok;assumption
 have eW:∀y,y∈ae (x.getD 6 .undef)->dJ y:=by cases ok;assumption
 obtain⟨kind,op,aA,flags,str,exprs,kids,decls,cases,aC,aG,rfl,hr,ao,aN,aq,aL,aM,av,au⟩:=hx.open (hm);have bX:bH [PV.int .i64 kind,.int .i64 op,.int .i64 aA,.int .i64 flags,str,exprs,kids,decls,cases,aC,aG]:=hx;have il:Hid (∀y,y∈ae exprs->cD y):=il;have eW:Hid (∀y,y∈ae kids->dJ y):=eW;have ci:Hid (dK X G m):=ci;have cM:Hid (fj X G m):=cM;have kI:Hid (nK X G m):=kI;have kJ:Hid (nL X G m):=kJ;have kE:Hid (oG X G m):=kE;have:=ao.1;have:=ao.2.1;have:=aN.1;have:=aN.2.1;have:=aq.1;have:=aq.2.1;have:=aL.1;have:=aL.2.1;have:=aM.1;have:=aM.2.1;have:=av.1;have:=av.2.1;have:=au.1;have:=au.2.1;simp only[cQ]at WJ;refine ay T27 af ?_;have hc:(0<=kind/\kind<=3\/18<=kind/\kind<=21)\/(4<=kind/\kind<=6)\/(9<=kind/\kind<=13)\/(kind=7\/kind=8\/14<=kind/\kind<=17):=by omega
 clear WJ;refine cA ?_;open WI bi in exact az
theorem at5{ga gb:Int}(hG:G 0= .fp [.int .u32 ga,.int .u32 gb]):∀m:Nat,dK X G m/\fj X G m/\G0 X G m:=by
 intro m
 induction m with
 |zero=>exact⟨fun h _=>absurd h.2 (Nat.not_lt_zero _),fun h _=>absurd h.2 (Nat.not_lt_zero _),fun h _=>absurd h.2 (Nat.not_lt_zero _)⟩
 |succ m ih=>
  obtain⟨ci,cM,Da⟩:=ih;have kE:oG X G m:=fun lv ok=>Vg lv ok Da
  have Ce:MO X G m:=fun lv ok=>asB lv ok ci cM
  have kI:nK X G m:=fun h ok=>asR ci (fun lv ok=>asG lv ok ci kE) h.1 h.le ok
  have kJ:nL X G m:=fun h ok=>asS hG kE Ce h.1 h.le ok
  have re:vT X G m:=fun h ok=>asV kE Ce h.1 h.le ok
  exact⟨fun h ok=>j64 ci kI kJ re h.1 (Nat.le_of_lt_succ h.2) ok,fun h ok=>Ja ci cM h.1 (Nat.le_of_lt_succ h.2) ok,fun h ok=>at4 ci cM kI kJ kE h.1 (Nat.le_of_lt_succ h.2) ok⟩
theorem at6{ga gb:Int}(hG:G 0= .fp [.int .u32 ga,.int .u32 gb]){m:Nat}{v0:PV}(lv:aB (SZ m) v0)(ok:∀y,y∈ae v0->dJ y):Pure ai X G 18 [v0] (ra CS (ae v0)):=Vg lv ok (at5 hG m).2.2
end
end Go.Pi
end
