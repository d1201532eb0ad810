import Derived.Test.YtofdfffpmbgogaaGreatDoorP18
import Derived.Test.YtofdfffpmbgogaaGreatDoorP35
/- Part of the proof. -/
set_option linter.all false
set_option maxHeartbeats 0
set_option maxRecDepth 100000
section
open Go Go.Pi
namespace Go.Pi
variable{p q a:Prop}
theorem cd.int_inj{k:IntKind}{a b:Int}(h:cd (.int k a) (.int k b)):a=b:=by
 have:=h ⟨fun _ _=>True,fun _=>none,fun _=>0,fun _=>0,fun _=>none⟩ (.int k a) (.int k a);cases this;rfl
theorem dE.head{k:IntKind}{a b:Int}{x d:List PV}(h:dE (.int k a::x) (.int k b::d)):a=b:=cd.int_inj (h.2.2 0 _ _ rfl rfl)
theorem CS.shape{c d:List PV}(h:CS c d):∃u x,c=[.aj u x,ab]:=by cases h<;>exact⟨_,_,rfl⟩
theorem kK.cons{w:PV}{d:List PV}{ds:List (List PV)}(h:br CS w (d::ds)):∃u x cs,w= .sl ([.aj u x,ab]::cs)/\aw x=true/\CS [.aj u x,ab] d/\br CS (.sl cs) ds:=by
 obtain⟨⟨hs,hd,hn⟩,h⟩:=h;rcases hs with rfl|⟨xs,rfl,hl⟩
 ·simp[ae]at hn
 cases xs with
 |nil=>simp[ae]at hn
 |cons c cs=>
  have hP:=h 0 c d o0 af;obtain⟨u,x,rfl⟩:=hP.shape;simp only[aw,jx,aP,Bool.and_eq_true,Bool.and_true]at hd;simp only[ae,List.length_cons]at hn hl;exact⟨u,x,cs,rfl,hd.1,hP,⟨.sl ad,by simp only[aw];exact hd.2,by simp only[ae];omega⟩,fun i c d hc hd=>h (i+1) c d (by simpa[ae]using hc) (by simpa using hd)⟩
theorem kK.one{w:PV}{d:List PV}(h:br CS w [d]):∃u x,w= .sl [[.aj u x,ab]]/\aw x=true/\CS [.aj u x,ab] d:=by
 obtain⟨u,x,cs,rfl,h1,h2,h3⟩:=kK.cons h;have:=h3.UP;subst this;exact⟨u,x,rfl,h1,h2⟩
theorem kK.two{w:PV}{d d1:List PV}(h:br CS w [d,d1]):∃u x u1 x1,w= .sl [[.aj u x,ab],[.aj u1 x1,ab]]/\aw x=true/\aw x1=true/\CS [.aj u x,ab] d/\CS [.aj u1 x1,ab] d1:=by
 obtain⟨u,x,cs,rfl,h1,h2,h3⟩:=kK.cons h;obtain⟨u1,x1,e,h4,h5⟩:=kK.one h3;cases e;exact⟨u,x,u1,x1,rfl,h1,h4,h2,h5⟩
theorem kK.three{w:PV}{d d1 d2:List PV}(h:br CS w [d,d1,d2]):∃u x u1 x1 u2 x2,w= .sl [[.aj u x,ab],[.aj u1 x1,ab],[.aj u2 x2,ab]]/\aw x=true/\aw x1=true/\aw x2=true/\CS [.aj u x,ab] d/\CS [.aj u1 x1,ab] d1/\CS [.aj u2 x2,ab] d2:=by
 obtain⟨u,x,cs,rfl,h1,h2,h3⟩:=kK.cons h;obtain⟨u1,x1,u2,x2,e,h4,h5,h6,h7⟩:=kK.two h3;cases e;exact⟨u,x,u1,x1,u2,x2,rfl,h1,h4,h5,h2,h6,h7⟩
theorem aK.z{v:PV}{ds:List (List PV)}(h:aK (ae v) ds)(k:ae v=[]):ds=[]:=by
 have:=h.1;rw[k]at this;exact List.eq_nil_of_length_eq_zero this.symm
theorem em{v:PV}(h:ae v=[]):aK (ae v) []:=by rw[h];exact .nil
section
variable{K op fl rf:Int}{aA str exprs kids decls cases aC aG:PV}{us es ks ds ws fs cs:List (List PV)}
theorem oH(hr:cd (.int .i64 rf) aA)(fr:aA.flat=true)(hs:cd str (.sl us))(le:aQ exprs)(he:aK (ae exprs) es)(lk:aQ kids)(hk:aK (ae kids) ks)(ld:aQ decls)(hd:aK (ae decls) ds)(lw:aQ cases)(hw:aK (ae cases) ws)(lf:aQ aC)(hf:aK (ae aC) fs)(lc:aQ aG)(hc:aK (ae aG) cs):
 dE [.int .i64 K,.int .i64 op,.int .i64 rf,.int .i64 fl,str,exprs,kids,decls,cases,aC,aG] (Sd K op aA fl (.sl us) (.sl es) (.sl ks) (.sl ds) (.sl ws) (.sl fs) (.sl cs)):=
 .same rfl (.same rfl (.cons hr fr (.same rfl (.cons hs rfl (.sl le he (.sl lk hk (.sl ld hd (.sl lw hw (.sl lf hf (.sl lc hc .nil))))))))))
theorem rh:cd (.int .i64 (-1)) dV:=cd.qh rfl
theorem mE(ls:aQ str)(le:aQ exprs)(lk:aQ kids)(ld:aQ decls)(lw:aQ cases)(lf:aQ aC)(lc:aQ aG)(he:aK (ae exprs) es)(hk:aK (ae kids) ks)(hs:ae str=[])(hd:ae decls=[])(hw:ae cases=[])(hf:ae aC=[])(hc:ae aG=[]):
 dE [.int .i64 K,.int .i64 op,.int .i64 (-1),.int .i64 fl,str,exprs,kids,decls,cases,aC,aG] (Sd K op dV fl e0 (.sl es) (.sl ks) e0 e0 e0 e0):=
 oH rh rfl (iC ls hs) le he lk hk ld (em hd) lw (em hw) lf (em hf) lc (em hc)
end
theorem atn{nm ar bd:PV}{r1 r2:Int}{b1 b2 b3:Bool}{d y:List PV}{n0:Int}(h:CF [nm,ar,bd,ab,ab,.int .u32 r1,.int .u32 r2,ab,.bool b1,.bool b2,.bool b3,b0,b0,b0] d)(hl:dE (.int .i64 n0::y) d)(h0:0<=n0):∃n,nm= .fp [ab,.int .u32 0,.int .u32 n]/\0<=n:=by
 cases h with
 |mk _ _ _ _ _ _ _ _ n _ _ hn=>
  have e:=hl.head;cases hn with
  |none=>omega
  |some n h=>exact⟨n,rfl,h.1⟩
theorem ato{nm k v:PV}{d y:List PV}{n0:Int}(h:CC [.ah,nm,k,ab,v,ab,ab,ab,ab,b0,.bool true] d)(hl:dE (.int .i64 n0::y) d)(h0:0<=n0):∃n,nm= .fp [ab,.int .u32 0,.int .u32 n]/\0<=n:=by
 cases h with
 |mk _ _ _ n _ _ hn=>
  have e:=hl.head;cases hn with
  |none=>omega
  |some n h=>exact⟨n,rfl,h.1⟩
theorem G4{v:PV}{y:List PV}(h:(ae v).length=1)(hy:(ae v)[(0:Int).toNat]?=some y){d:List PV}(hl:dE y d):aK (ae v) [d]:=by rw[G2 h hy];exact .one hl
theorem Rg.n(n:Int)(h:0<=n)(k:n<=1000):Rg n:=⟨ad,ad⟩
section
variable{X:aS}{G:Nat->PV}
namespace VY
theorem bj(h:p:=by
 first
 |skip
  exact⟨_,_,_,rfl,dT,.empty (SK aJ .nil .nil),mE ao.1 aN.1 aq.1 aL.1 aM.1 av.1 au.1 hl aW ax ax ax ax ax⟩;done
 |fail):p:=h
end VY
theorem atp{m:Nat}{x:List PV}{v u:PV}{es ks:List (List PV)}(hx:bH x)(hm:SizeOf.sizeOf x<=m)(ok:dJ x)(hk:bl x=0)(hv:br CE v es)(aV:aK (ae (x.getD 5 .undef)) es)(hu:br CS u ks)(bT:aK (ae (x.getD 6 .undef)) ks):Pure ai X G 66 [.agg x,v] (NS x):=by
 obtain⟨kind,op,aA,flags,str,exprs,kids,decls,cases,aC,aG,rfl,hr,ao,aN,aq,aL,aM,av,au⟩:=hx.open (hm);have bX:bH [PV.int .i64 kind,.int .i64 op,.int .i64 aA,.int .i64 flags,str,exprs,kids,decls,cases,aC,aG]:=hx;simp only[cQ]at hk;subst hk;have hl:aK (ae exprs) es:=aV;have aW:aK (ae kids) ks:=bT;clear aV bT;cases ok with
 |mk _ _ _ _ _ _ _ _ _ _ _ hf il eW fI eR iE fB iF iG gg=>
 revert hf;simp[ii];intros;subst_vars;have eB:=hl.1;have fV:=aW.1;have bz:=bz;obtain rfl:ks=[]:=aK.z aW iB;obtain rfl:es=[]:=aK.z hl iB;have lv:=hv.1.1;have eo:=hv.1.2.1;have Ap:(ae v).length=0:=hv.1.2.2;have:=ao.1;have:=ao.2.1;have:=aN.1;have:=aN.2.1;have:=aq.1;have:=aq.2.1;have:=aL.1;have:=aL.2.1;have:=aM.1;have:=aM.2.1;have:=av.1;have:=av.2.1;have:=au.1;have:=au.2.1;refine ay se af ?_;refine cA ?_;open VY bi in exact az
namespace VZ
theorem bj(h:p:=by
 first
 |skip
  exact⟨_,_,_,rfl,dT,.Ud (SK aJ .nil .nil),mE ao.1 aN.1 aq.1 aL.1 aM.1 av.1 au.1 hl aW ax ax ax ax ax⟩;done
 |fail):p:=h
end VZ
theorem atq{m:Nat}{x:List PV}{v u:PV}{es ks:List (List PV)}(hx:bH x)(hm:SizeOf.sizeOf x<=m)(ok:dJ x)(hk:bl x=1)(hv:br CE v es)(aV:aK (ae (x.getD 5 .undef)) es)(hu:br CS u ks)(bT:aK (ae (x.getD 6 .undef)) ks):Pure ai X G 66 [.agg x,v] (NS x):=by
 obtain⟨kind,op,aA,flags,str,exprs,kids,decls,cases,aC,aG,rfl,hr,ao,aN,aq,aL,aM,av,au⟩:=hx.open (hm);have bX:bH [PV.int .i64 kind,.int .i64 op,.int .i64 aA,.int .i64 flags,str,exprs,kids,decls,cases,aC,aG]:=hx;simp only[cQ]at hk;subst hk;have hl:aK (ae exprs) es:=aV;have aW:aK (ae kids) ks:=bT;clear aV bT;cases ok with
 |mk _ _ _ _ _ _ _ _ _ _ _ hf il eW fI eR iE fB iF iG gg=>
 revert hf;simp[ii];intros;subst_vars;have eB:=hl.1;have fV:=aW.1;have bz:=bz;obtain rfl:ks=[]:=aK.z aW iB;obtain rfl:es=[]:=aK.z hl iB;have lv:=hv.1.1;have eo:=hv.1.2.1;have Ap:(ae v).length=0:=hv.1.2.2;have:=ao.1;have:=ao.2.1;have:=aN.1;have:=aN.2.1;have:=aq.1;have:=aq.2.1;have:=aL.1;have:=aL.2.1;have:=aM.1;have:=aM.2.1;have:=av.1;have:=av.2.1;have:=au.1;have:=au.2.1;refine ay se af ?_;refine cA ?_;open VZ bi in exact az
namespace V0
theorem bj(h:p:=by
 first
 |skip
  exact⟨_,_,_,rfl,dT,.expr _ _ cv (SK aJ (.one cv.ht) .nil),mE ao.1 aN.1 aq.1 aL.1 aM.1 av.1 au.1 hl aW ax ax ax ax ax⟩;done
 |fail):p:=h
end V0
theorem atr{m:Nat}{x:List PV}{v u:PV}{es ks:List (List PV)}(hx:bH x)(hm:SizeOf.sizeOf x<=m)(ok:dJ x)(hk:bl x=3)(hv:br CE v es)(aV:aK (ae (x.getD 5 .undef)) es)(hu:br CS u ks)(bT:aK (ae (x.getD 6 .undef)) ks):Pure ai X G 66 [.agg x,v] (NS x):=by
 obtain⟨kind,op,aA,flags,str,exprs,kids,decls,cases,aC,aG,rfl,hr,ao,aN,aq,aL,aM,av,au⟩:=hx.open (hm);have bX:bH [PV.int .i64 kind,.int .i64 op,.int .i64 aA,.int .i64 flags,str,exprs,kids,decls,cases,aC,aG]:=hx;simp only[cQ]at hk;subst hk;have hl:aK (ae exprs) es:=aV;have aW:aK (ae kids) ks:=bT;clear aV bT;cases ok with
 |mk _ _ _ _ _ _ _ _ _ _ _ hf il eW fI eR iE fB iF iG gg=>
 revert hf;simp[ii];intros;subst_vars;have eB:=hl.1;have fV:=aW.1;have bz:=bz;obtain rfl:ks=[]:=aK.z aW iB;obtain⟨d0,rfl⟩:=ki (l:=es) ad;obtain⟨u0,y0,rfl,iQ,cv⟩:=hv.one;have lv:aQ (.sl [[.aj u0 y0,ab]]):=hv.1.1;have ri:([[.aj u0 y0,ab]]:List (List PV)).length=1:=rfl;have eo:aw (.sl [[.aj u0 y0,ab]])=true:=hv.1.2.1;have jX:db 2 (.sl [[.aj u0 y0,ab]]) (.int .i64 0)=some (.fp [.aj u0 y0,ab],none):=rfl;have:=ao.1;have:=ao.2.1;have:=aN.1;have:=aN.2.1;have:=aq.1;have:=aq.2.1;have:=aL.1;have:=aL.2.1;have:=aM.1;have:=aM.2.1;have:=av.1;have:=av.2.1;have:=au.1;have:=au.2.1;refine ay se af ?_;refine cA ?_;open V0 bi Cn in exact az
namespace V1
theorem bj(h:p:=by
 first
 |skip
  exact⟨_,_,_,rfl,dT,.Uq (SK aJ .nil .nil),mE ao.1 aN.1 aq.1 aL.1 aM.1 av.1 au.1 hl aW ax ax ax ax ax⟩;done
 |fail):p:=h
end V1
namespace V2
theorem bj(h:p:=by
 first
 |skip
  exact⟨_,_,_,rfl,dT,.Ur _ _ cv (SK aJ (.one cv.ht) .nil),mE ao.1 aN.1 aq.1 aL.1 aM.1 av.1 au.1 hl aW ax ax ax ax ax⟩;done
 |fail):p:=h
end V2
theorem ats{m:Nat}{x:List PV}{v u:PV}{es ks:List (List PV)}(hx:bH x)(hm:SizeOf.sizeOf x<=m)(ok:dJ x)(hk:bl x=18)(hv:br CE v es)(aV:aK (ae (x.getD 5 .undef)) es)(hu:br CS u ks)(bT:aK (ae (x.getD 6 .undef)) ks):Pure ai X G 66 [.agg x,v] (NS x):=by
 obtain⟨kind,op,aA,flags,str,exprs,kids,decls,cases,aC,aG,rfl,hr,ao,aN,aq,aL,aM,av,au⟩:=hx.open (hm);have bX:bH [PV.int .i64 kind,.int .i64 op,.int .i64 aA,.int .i64 flags,str,exprs,kids,decls,cases,aC,aG]:=hx;simp only[cQ]at hk;subst hk;have hl:aK (ae exprs) es:=aV;have aW:aK (ae kids) ks:=bT;clear aV bT;cases ok with
 |mk _ _ _ _ _ _ _ _ _ _ _ hf il eW fI eR iE fB iF iG gg=>
 revert hf;simp[ii];intros;subst_vars;have eB:=hl.1;have fV:=aW.1;have bz:=bz;obtain rfl:ks=[]:=aK.z aW iB;by_cases h0:(ae exprs).length=0
 ·obtain rfl:es=[]:=aK.z hl iB;have lv:=hv.1.1;have eo:=hv.1.2.1;have Ap:(ae v).length=0:=hv.1.2.2;have:=ao.1;have:=ao.2.1;have:=aN.1;have:=aN.2.1;have:=aq.1;have:=aq.2.1;have:=aL.1;have:=aL.2.1;have:=aM.1;have:=aM.2.1;have:=av.1;have:=av.2.1;have:=au.1;have:=au.2.1;refine ay se af ?_;refine cA ?_;open V1 bi in exact az
 ·have gj:(ae exprs).length=1:=by omega
  obtain⟨d0,rfl⟩:=ki (l:=es) ad;obtain⟨u0,y0,rfl,iQ,cv⟩:=hv.one;have lv:aQ (.sl [[.aj u0 y0,ab]]):=hv.1.1;have ri:([[.aj u0 y0,ab]]:List (List PV)).length=1:=rfl;have eo:aw (.sl [[.aj u0 y0,ab]])=true:=hv.1.2.1;have jX:db 2 (.sl [[.aj u0 y0,ab]]) (.int .i64 0)=some (.fp [.aj u0 y0,ab],none):=rfl;have:=ao.1;have:=ao.2.1;have:=aN.1;have:=aN.2.1;have:=aq.1;have:=aq.2.1;have:=aL.1;have:=aL.2.1;have:=aM.1;have:=aM.2.1;have:=av.1;have:=av.2.1;have:=au.1;have:=au.2.1;refine ay se af ?_;refine cA ?_;open V2 bi Cn in exact az
namespace V3
theorem bj(h:p:=by
 first
 |skip
  exact⟨_,_,_,rfl,dT,.throw _ _ cv (SK aJ (.one cv.ht) .nil),mE ao.1 aN.1 aq.1 aL.1 aM.1 av.1 au.1 hl aW ax ax ax ax ax⟩;done
 |fail):p:=h
end V3
theorem att{m:Nat}{x:List PV}{v u:PV}{es ks:List (List PV)}(hx:bH x)(hm:SizeOf.sizeOf x<=m)(ok:dJ x)(hk:bl x=19)(hv:br CE v es)(aV:aK (ae (x.getD 5 .undef)) es)(hu:br CS u ks)(bT:aK (ae (x.getD 6 .undef)) ks):Pure ai X G 66 [.agg x,v] (NS x):=by
 obtain⟨kind,op,aA,flags,str,exprs,kids,decls,cases,aC,aG,rfl,hr,ao,aN,aq,aL,aM,av,au⟩:=hx.open (hm);have bX:bH [PV.int .i64 kind,.int .i64 op,.int .i64 aA,.int .i64 flags,str,exprs,kids,decls,cases,aC,aG]:=hx;simp only[cQ]at hk;subst hk;have hl:aK (ae exprs) es:=aV;have aW:aK (ae kids) ks:=bT;clear aV bT;cases ok with
 |mk _ _ _ _ _ _ _ _ _ _ _ hf il eW fI eR iE fB iF iG gg=>
 revert hf;simp[ii];intros;subst_vars;have eB:=hl.1;have fV:=aW.1;have bz:=bz;obtain rfl:ks=[]:=aK.z aW iB;obtain⟨d0,rfl⟩:=ki (l:=es) ad;obtain⟨u0,y0,rfl,iQ,cv⟩:=hv.one;have lv:aQ (.sl [[.aj u0 y0,ab]]):=hv.1.1;have ri:([[.aj u0 y0,ab]]:List (List PV)).length=1:=rfl;have eo:aw (.sl [[.aj u0 y0,ab]])=true:=hv.1.2.1;have jX:db 2 (.sl [[.aj u0 y0,ab]]) (.int .i64 0)=some (.fp [.aj u0 y0,ab],none):=rfl;have:=ao.1;have:=ao.2.1;have:=aN.1;have:=aN.2.1;have:=aq.1;have:=aq.2.1;have:=aL.1;have:=aL.2.1;have:=aM.1;have:=aM.2.1;have:=av.1;have:=av.2.1;have:=au.1;have:=au.2.1;refine ay se af ?_;refine cA ?_;open V3 bi Cn in exact az
namespace V4
theorem bj(h:p:=by
 first
 |skip
  exact⟨_,_,_,rfl,dT,.Us _ _ dU (ST (es:=[]) (ks:=[]) (ds:=[]) (ws:=[]) (fs:=[]) (cs:=[]) (us:=[]) (.inl ⟨_,rfl⟩) (Rg.n _ ad ad) .nil .nil .nil .nil .nil .nil .nil),oH (.refl _) rfl (iC ao.1 ax) aN.1 hl aq.1 aW aL.1 (em ax) aM.1 (em ax) av.1 (em ax) au.1 (em ax)⟩;done
 |fail):p:=h
end V4
theorem atu{m:Nat}{x:List PV}{v u:PV}{es ks:List (List PV)}(hx:bH x)(hm:SizeOf.sizeOf x<=m)(ok:dJ x)(hk:bl x=20)(hv:br CE v es)(aV:aK (ae (x.getD 5 .undef)) es)(hu:br CS u ks)(bT:aK (ae (x.getD 6 .undef)) ks):Pure ai X G 66 [.agg x,v] (NS x):=by
 obtain⟨kind,op,aA,flags,str,exprs,kids,decls,cases,aC,aG,rfl,hr,ao,aN,aq,aL,aM,av,au⟩:=hx.open (hm);have bX:bH [PV.int .i64 kind,.int .i64 op,.int .i64 aA,.int .i64 flags,str,exprs,kids,decls,cases,aC,aG]:=hx;simp only[cQ]at hk;subst hk;have hl:aK (ae exprs) es:=aV;have aW:aK (ae kids) ks:=bT;clear aV bT;cases ok with
 |mk _ _ _ _ _ _ _ _ _ _ _ hf il eW fI eR iE fB iF iG gg=>
 revert hf;simp[ii];intros;subst_vars;have eB:=hl.1;have fV:=aW.1;have bz:=bz;obtain rfl:ks=[]:=aK.z aW iB;obtain rfl:es=[]:=aK.z hl iB;have lv:=hv.1.1;have eo:=hv.1.2.1;have Ap:(ae v).length=0:=hv.1.2.2;have Sm:Sy aA:=by assumption
 have:=ao.1;have:=ao.2.1;have:=aN.1;have:=aN.2.1;have:=aq.1;have:=aq.2.1;have:=aL.1;have:=aL.2.1;have:=aM.1;have:=aM.2.1;have:=av.1;have:=av.2.1;have:=au.1;have:=au.2.1;refine ay se af ?_;refine cA ?_;open V4 bi Lu in exact az
namespace V5
theorem bj(h:p:=by
 first
 |skip
  exact⟨_,_,_,rfl,dT,.Ut _ _ dU (ST (es:=[]) (ks:=[]) (ds:=[]) (ws:=[]) (fs:=[]) (cs:=[]) (us:=[]) (.inl ⟨_,rfl⟩) (Rg.n _ ad ad) .nil .nil .nil .nil .nil .nil .nil),oH (.refl _) rfl (iC ao.1 ax) aN.1 hl aq.1 aW aL.1 (em ax) aM.1 (em ax) av.1 (em ax) au.1 (em ax)⟩;done
 |fail):p:=h
end V5
theorem atv{m:Nat}{x:List PV}{v u:PV}{es ks:List (List PV)}(hx:bH x)(hm:SizeOf.sizeOf x<=m)(ok:dJ x)(hk:bl x=21)(hv:br CE v es)(aV:aK (ae (x.getD 5 .undef)) es)(hu:br CS u ks)(bT:aK (ae (x.getD 6 .undef)) ks):Pure ai X G 66 [.agg x,v] (NS x):=by
 obtain⟨kind,op,aA,flags,str,exprs,kids,decls,cases,aC,aG,rfl,hr,ao,aN,aq,aL,aM,av,au⟩:=hx.open (hm);have bX:bH [PV.int .i64 kind,.int .i64 op,.int .i64 aA,.int .i64 flags,str,exprs,kids,decls,cases,aC,aG]:=hx;simp only[cQ]at hk;subst hk;have hl:aK (ae exprs) es:=aV;have aW:aK (ae kids) ks:=bT;clear aV bT;cases ok with
 |mk _ _ _ _ _ _ _ _ _ _ _ hf il eW fI eR iE fB iF iG gg=>
 revert hf;simp[ii];intros;subst_vars;have eB:=hl.1;have fV:=aW.1;have bz:=bz;obtain rfl:ks=[]:=aK.z aW iB;obtain rfl:es=[]:=aK.z hl iB;have lv:=hv.1.1;have eo:=hv.1.2.1;have Ap:(ae v).length=0:=hv.1.2.2;have Sm:Sy aA:=by assumption
 have:=ao.1;have:=ao.2.1;have:=aN.1;have:=aN.2.1;have:=aq.1;have:=aq.2.1;have:=aL.1;have:=aL.2.1;have:=aM.1;have:=aM.2.1;have:=av.1;have:=av.2.1;have:=au.1;have:=au.2.1;refine ay se af ?_;refine cA ?_;open V5 bi Lu in exact az
namespace V6
theorem fu(h:p:=by
 first
 |skip
  exact⟨by simpa using fun h:0∈gi v'=>absurd (g4 0 h) af,_,_,_,rfl,zV,.directive _ _ (C7 g1 g2 g3 ao) g3 (ST (es:=[]) (ks:=[]) (ds:=[]) (ws:=[]) (fs:=[]) (cs:=[]) (.inr ⟨rfl,aJ⟩) (Rg.n _ ad ad) (C6 ao) .nil .nil .nil .nil .nil .nil),oH rh rfl (.ae ao.1 fun x hx=>(show Un x from ao.2.2 x hx).flat) aN.1 hl aq.1 aW aL.1 (em ax) aM.1 (em ax) av.1 (em ax) au.1 (em ax)⟩;done
 |fail):p:=h
end V6
namespace V7
theorem bj(h:p:=by
 first
 |skip
  refine oz (A:=[6001,6004]) (ys:=[]) (r:=str) (zB) (ao.1.imp id (fun⟨xs,h,_⟩=>⟨xs,h⟩)) ao.2.1 (fun c hc=>FB) zy af Fx (fun v' H' fb bI hf fq hz=>?_);have:=fq rfl;subst this;have um:=hZ bI;have hE:=fun(n:Nat) (fJ:al) (q1:fJ 6001=H' 6001) (q2:fJ 6004=H' 6004)=>(aX.dF (n:=n) (bI.frame (H':=fJ) pR))
  obtain⟨g1,g2,g3,g4⟩:=bI.gv;rw[List.nil_append]at g1 g2 g3;clear hz;refine cA ?_;open V6 dO in exact bu
  done
 |fail):p:=h
end V7
theorem atw{m:Nat}{x:List PV}{v u:PV}{es ks:List (List PV)}(hx:bH x)(hm:SizeOf.sizeOf x<=m)(ok:dJ x)(hk:bl x=2)(hv:br CE v es)(aV:aK (ae (x.getD 5 .undef)) es)(hu:br CS u ks)(bT:aK (ae (x.getD 6 .undef)) ks):Pure ai X G 66 [.agg x,v] (NS x):=by
 obtain⟨kind,op,aA,flags,str,exprs,kids,decls,cases,aC,aG,rfl,hr,ao,aN,aq,aL,aM,av,au⟩:=hx.open (hm);have bX:bH [PV.int .i64 kind,.int .i64 op,.int .i64 aA,.int .i64 flags,str,exprs,kids,decls,cases,aC,aG]:=hx;simp only[cQ]at hk;subst hk;have hl:aK (ae exprs) es:=aV;have aW:aK (ae kids) ks:=bT;clear aV bT;cases ok with
 |mk _ _ _ _ _ _ _ _ _ _ _ hf il eW fI eR iE fB iF iG gg=>
 revert hf;simp[ii];intros;subst_vars;have eB:=hl.1;have fV:=aW.1;have bz:=bz;obtain rfl:ks=[]:=aK.z aW iB;obtain rfl:es=[]:=aK.z hl iB;have lv:=hv.1.1;have eo:=hv.1.2.1;have Ap:(ae v).length=0:=hv.1.2.2;have:=ao.1;have:=ao.2.1;have:=aN.1;have:=aN.2.1;have:=aq.1;have:=aq.2.1;have:=aL.1;have:=aL.2.1;have:=aM.1;have:=aM.2.1;have:=av.1;have:=av.2.1;have:=au.1;have:=au.2.1;refine ay se af ?_;refine cA ?_;open V7 bi in exact az
theorem akw{m:Nat}{x:List PV}{v u:PV}{es ks:List (List PV)}(hx:bH x)(hm:SizeOf.sizeOf x<=m)(hk:4<=bl x/\bl x<=17)(hv:br CE v es)(hu:br CS u ks):Pure ai X G 66 [.agg x,v] xX:=by
 obtain⟨kind,op,aA,flags,str,exprs,kids,decls,cases,aC,aG,rfl,hr,ao,aN,aq,aL,aM,av,au⟩:=hx.open (hm);simp only[cQ]at hk;obtain⟨g0,g1,g2,g3,g18,g19,g20,g21⟩:decide (kind=0)=false/\decide (kind=1)=false/\decide (kind=2)=false/\decide (kind=3)=false/\decide (kind=18)=false/\decide (kind=19)=false/\decide (kind=20)=false/\decide (kind=21)=false:=by simp only[decide_eq_false_iff_not];omega
 have lw:=hv.1.1;have jf:=hv.1.2.1;have lu:=hu.1.1;have gR:=hu.1.2.1;have:=ao.1;have:=ao.2.1;have:=aN.1;have:=aN.2.1;have:=aq.1;have:=aq.2.1;have:=aL.1;have:=aL.2.1;have:=aM.1;have:=aM.2.1;have:=av.1;have:=av.2.1;have:=au.1;have:=au.2.1;refine ay se af ?_;refine cA ?_;open vO in exact az
theorem akx{m:Nat}{x:List PV}{v u:PV}{es ks:List (List PV)}(hx:bH x)(hm:SizeOf.sizeOf x<=m)(hk:7<=bl x/\bl x<=17)(hv:br CE v es)(hu:br CS u ks):Pure ai X G 67 [.agg x] xX:=by
 obtain⟨kind,op,aA,flags,str,exprs,kids,decls,cases,aC,aG,rfl,hr,ao,aN,aq,aL,aM,av,au⟩:=hx.open (hm);simp only[cQ]at hk;obtain⟨g4,g5,g6⟩:decide (kind=4)=false/\decide (kind=5)=false/\decide (kind=6)=false:=by simp only[decide_eq_false_iff_not];omega
 have lw:=hv.1.1;have jf:=hv.1.2.1;have lu:=hu.1.1;have gR:=hu.1.2.1;have:=ao.1;have:=ao.2.1;have:=aN.1;have:=aN.2.1;have:=aq.1;have:=aq.2.1;have:=aL.1;have:=aL.2.1;have:=aM.1;have:=aM.2.1;have:=av.1;have:=av.2.1;have:=au.1;have:=au.2.1;refine ay GN af ?_;refine cA ?_;open vO in exact az
theorem atx{m:Nat}{x:List PV}{v u:PV}{es ks:List (List PV)}(hx:bH x)(hm:SizeOf.sizeOf x<=m)(hk:bl x=7\/bl x=8\/14<=bl x/\bl x<=17)(hv:br CE v es)(hu:br CS u ks):Pure ai X G 68 [.agg x,v,u] xX:=by
 obtain⟨kind,op,aA,flags,str,exprs,kids,decls,cases,aC,aG,rfl,hr,ao,aN,aq,aL,aM,av,au⟩:=hx.open (hm);simp only[cQ]at hk;obtain⟨g9,U3,g11,g12,g13⟩:decide (kind=9)=false/\decide (kind=10)=false/\decide (kind=11)=false/\decide (kind=12)=false/\decide (kind=13)=false:=by simp only[decide_eq_false_iff_not];omega
 have lw:=hv.1.1;have jf:=hv.1.2.1;have lu:=hu.1.1;have gR:=hu.1.2.1;have:=ao.1;have:=ao.2.1;have:=aN.1;have:=aN.2.1;have:=aq.1;have:=aq.2.1;have:=aL.1;have:=aL.2.1;have:=aM.1;have:=aM.2.1;have:=av.1;have:=av.2.1;have:=au.1;have:=au.2.1;refine ay vR af ?_;refine cA ?_;open vO in exact az
namespace V8
theorem bw(h:p:=by
 first
 |(refine aO (I9 aL (show∀y,y∈ae decls->mS y from fI) (show dK X G m from ci) (show fj X G m from cM)) jQ (cB) ?_;rintro _ ⟨w1,tK,rfl,cP,bL⟩;have qT:=cP.1.1;have qU:=cP.1.2.1;have J1:=fQ (qT.imp id fun⟨xs,h,_⟩=>⟨xs,h⟩);have J2:=fun(n:Nat) (H:al)=>aH (n:=n) (H:=H) qU;refine cA ?_)<;>exact az
 |fail):p:=h
theorem bj(h:p:=by
 first
 |skip
  exact⟨_,_,_,rfl,dT,.Ue _ _ _ ⟨ad,ad⟩ cP.1 cP.2 (ST (es:=[]) (ks:=[]) (ws:=[]) (fs:=[]) (cs:=[]) (us:=[]) (.inr ⟨rfl,aJ⟩) (Rg.n _ ad ad) .nil .nil .nil (cP.ty fun _ _ h=>h.ht) .nil .nil .nil),oH rh rfl (iC ao.1 ax) aN.1 hl aq.1 aW aL.1 bL aM.1 (em ax) av.1 (em ax) au.1 (em ax)⟩;done
 |fail):p:=h
end V8
theorem atA{m:Nat}{x:List PV}{v u:PV}{es ks:List (List PV)}(ci:dK X G m)(cM:fj X G m)(hx:bH x)(hm:SizeOf.sizeOf x<=m)(ok:dJ x)(hk:bl x=4)(hv:br CE v es)(aV:aK (ae (x.getD 5 .undef)) es)(hu:br CS u ks)(bT:aK (ae (x.getD 6 .undef)) ks):Pure ai X G 67 [.agg x] (NS x):=by
 obtain⟨kind,op,aA,flags,str,exprs,kids,decls,cases,aC,aG,rfl,hr,ao,aN,aq,aL,aM,av,au⟩:=hx.open (hm);have bX:bH [PV.int .i64 kind,.int .i64 op,.int .i64 aA,.int .i64 flags,str,exprs,kids,decls,cases,aC,aG]:=hx;simp only[cQ]at hk;subst hk;have hl:aK (ae exprs) es:=aV;have aW:aK (ae kids) ks:=bT;clear aV bT;cases ok with
 |mk _ _ _ _ _ _ _ _ _ _ _ hf il eW fI eR iE fB iF iG gg=>
 revert hf;simp[ii];intros;subst_vars;have eB:=hl.1;have fV:=aW.1;have bz:=bz;obtain rfl:ks=[]:=aK.z aW iB;obtain rfl:es=[]:=aK.z hl iB;have fI:Hid (∀y,y∈ae decls->mS y):=fI;have ci:Hid (dK X G m):=ci;have cM:Hid (fj X G m):=cM;have lE:=fA (n:=op) ad ad;have:=ao.1;have:=ao.2.1;have:=aN.1;have:=aN.2.1;have:=aq.1;have:=aq.2.1;have:=aL.1;have:=aL.2.1;have:=aM.1;have:=aM.2.1;have:=av.1;have:=av.2.1;have:=au.1;have:=au.2.1;refine ay GN af ?_;refine cA ?_;open V8 qY in exact az
namespace V9
theorem bw(h:p:=by
 first
 |(refine aO ((show nL X G m from kJ) ‹FZ _ _› ((show∀y,y∈ae aC->oB false y from eR) _ b6)) bS (cB) ?_;rintro _ ⟨nm,ar,bd,r1,r2,b1,b2,b3,df,rfl,⟨gj,lI⟩,rc,pF,cc,cC,rH,zo,A4⟩;obtain⟨nn,rfl,mD⟩:∃n,nm= .fp [ab,.int .u32 0,.int .u32 n]/\0<=n:=atn rH zo (by have h:=(show∀y,y∈ae aC->∃(n:Int)(l:List PV),y= .int .i64 n::l/\0<=n from iE) _ b6;obtain⟨n,l,e,h⟩:=h;cases e;exact h);have zm:=fun(n:Nat) (H:al)=>aH (n:=n) (H:=H) lI;have hsa:=fun(n:Nat) (H:al)=>aH (n:=n) (H:=H) pF;have MP:=fQ (rc.imp id fun⟨xs,h,_⟩=>⟨xs,h⟩);have AW:=fun(n:Nat) (H:al)=>aH (n:=n) (H:=H) cC;have jw:=fQ (cc.imp id fun⟨xs,h,_⟩=>⟨xs,h⟩);clear A4;refine cA ?_)<;>exact az
 |fail):p:=h
theorem bj(h:p:=by
 first
 |skip
  exact⟨_,_,_,rfl,dT,.fn _ _ _ _ _ _ _ _ _ rH (ST (es:=[]) (ks:=[]) (ds:=[]) (ws:=[]) (cs:=[]) (us:=[]) (.inr ⟨rfl,aJ⟩) (Rg.n _ ad ad) .nil .nil .nil .nil .nil (.one rH.ht) .nil),oH rh rfl (iC ao.1 ax) aN.1 hl aq.1 aW aL.1 (em ax) aM.1 (em ax) av.1 (G4 ax hg zo) au.1 (em ax)⟩;done
 |fail):p:=h
end V9
theorem atB{m:Nat}{x:List PV}{v u:PV}{es ks:List (List PV)}(kJ:nL X G m)(hx:bH x)(hm:SizeOf.sizeOf x<=m)(ok:dJ x)(hk:bl x=5)(hv:br CE v es)(aV:aK (ae (x.getD 5 .undef)) es)(hu:br CS u ks)(bT:aK (ae (x.getD 6 .undef)) ks):Pure ai X G 67 [.agg x] (NS x):=by
 obtain⟨kind,op,aA,flags,str,exprs,kids,decls,cases,aC,aG,rfl,hr,ao,aN,aq,aL,aM,av,au⟩:=hx.open (hm);have bX:bH [PV.int .i64 kind,.int .i64 op,.int .i64 aA,.int .i64 flags,str,exprs,kids,decls,cases,aC,aG]:=hx;simp only[cQ]at hk;subst hk;have hl:aK (ae exprs) es:=aV;have aW:aK (ae kids) ks:=bT;clear aV bT;cases ok with
 |mk _ _ _ _ _ _ _ _ _ _ _ hf il eW fI eR iE fB iF iG gg=>
 revert hf;simp[ii];intros;subst_vars;have eB:=hl.1;have fV:=aW.1;have bz:=bz;obtain rfl:ks=[]:=aK.z aW iB;obtain rfl:es=[]:=aK.z hl iB;have lI:(ae aC).length=1:=by omega
 have eR:Hid (∀y,y∈ae aC->oB false y):=eR;have iE:Hid (∀y,y∈ae aC->∃(n:Int)(l:List PV),y= .int .i64 n::l/\0<=n):=iE;have kJ:Hid (nL X G m):=kJ;have:=ao.1;have:=ao.2.1;have:=aN.1;have:=aN.2.1;have:=aq.1;have:=aq.2.1;have:=aL.1;have:=aL.2.1;have:=aM.1;have:=aM.2.1;have:=av.1;have:=av.2.1;have:=au.1;have:=au.2.1;refine ay GN af ?_;refine cA ?_;open V9 qY in exact az
namespace Wa
theorem bw(h:p:=by
 first
 |(refine aO ((show nK X G m from kI) ‹CZ _ _› ((show∀y,y∈ae aG->sj y from fB) _ b6)) bS (cB) ?_;rintro _ ⟨nm,k1,v1,dc,rfl,⟨gj,lI⟩,⟨fw,jL⟩,cc,cC,l8,nU⟩;obtain⟨nn,rfl,mD⟩:∃n,nm= .fp [ab,.int .u32 0,.int .u32 n]/\0<=n:=ato l8 nU (by have h:=(show∀y,y∈ae aG->∃(n:Int)(l:List PV),y= .int .i64 n::l/\0<=n from iF) _ b6;obtain⟨n,l,e,h⟩:=h;cases e;exact h);have zm:=fun(n:Nat) (H:al)=>aH (n:=n) (H:=H) lI;have xZ:=fun(n:Nat) (H:al)=>aH (n:=n) (H:=H) jL;have AW:=fun(n:Nat) (H:al)=>aH (n:=n) (H:=H) cC;have jw:=fQ (cc.imp id fun⟨xs,h,_⟩=>⟨xs,h⟩);refine cA ?_)<;>exact az
 |fail):p:=h
theorem bj(h:p:=by
 first
 |skip
  exact⟨_,_,_,rfl,dT,.je _ _ _ _ l8 (ST (es:=[]) (ks:=[]) (ds:=[]) (ws:=[]) (fs:=[]) (us:=[]) (.inr ⟨rfl,aJ⟩) (Rg.n _ ad ad) .nil .nil .nil .nil .nil .nil (.one l8.ht)),oH rh rfl (iC ao.1 ax) aN.1 hl aq.1 aW aL.1 (em ax) aM.1 (em ax) av.1 (em ax) au.1 (G4 ax hg nU)⟩;done
 |fail):p:=h
end Wa
theorem atC{m:Nat}{x:List PV}{v u:PV}{es ks:List (List PV)}(kI:nK X G m)(hx:bH x)(hm:SizeOf.sizeOf x<=m)(ok:dJ x)(hk:bl x=6)(hv:br CE v es)(aV:aK (ae (x.getD 5 .undef)) es)(hu:br CS u ks)(bT:aK (ae (x.getD 6 .undef)) ks):Pure ai X G 67 [.agg x] (NS x):=by
 obtain⟨kind,op,aA,flags,str,exprs,kids,decls,cases,aC,aG,rfl,hr,ao,aN,aq,aL,aM,av,au⟩:=hx.open (hm);have bX:bH [PV.int .i64 kind,.int .i64 op,.int .i64 aA,.int .i64 flags,str,exprs,kids,decls,cases,aC,aG]:=hx;simp only[cQ]at hk;subst hk;have hl:aK (ae exprs) es:=aV;have aW:aK (ae kids) ks:=bT;clear aV bT;cases ok with
 |mk _ _ _ _ _ _ _ _ _ _ _ hf il eW fI eR iE fB iF iG gg=>
 revert hf;simp[ii];intros;subst_vars;have eB:=hl.1;have fV:=aW.1;have bz:=bz;obtain rfl:ks=[]:=aK.z aW iB;obtain rfl:es=[]:=aK.z hl iB;have lI:(ae aG).length=1:=by omega
 have fB:Hid (∀y,y∈ae aG->sj y):=fB;have iF:Hid (∀y,y∈ae aG->∃(n:Int)(l:List PV),y= .int .i64 n::l/\0<=n):=iF;have kI:Hid (nK X G m):=kI;have:=ao.1;have:=ao.2.1;have:=aN.1;have:=aN.2.1;have:=aq.1;have:=aq.2.1;have:=aL.1;have:=aL.2.1;have:=aM.1;have:=aM.2.1;have:=av.1;have:=av.2.1;have:=au.1;have:=au.2.1;refine ay GN af ?_;refine cA ?_;open Wa qY in exact az
end
end Go.Pi
end
section
open Go Go.Pi
namespace Go.Pi
variable{p q a:Prop}
theorem CG.ht{c d:List PV}(h:CG c d):R.aR d:=by
 cases h with
 |none h=>exact h
 |some _ _ h=>exact h.ht
theorem CH.ht{c d:List PV}(h:CH c d):R.bH d:=by
 cases h with
 |none h=>exact h
 |some _ _ h=>exact h.ht
section
variable{X:aS}{G:Nat->PV}
namespace Wb
theorem bj(h:p:=by
 first
 |skip
  cases dj with
  |empty Wc=>
  exact⟨_,_,_,rfl,dT,.for_ _ _ _ _ _ _ _ _ (.none Wc) F0 F1 dt (SK aJ (.two F0.ht F1.ht) (.two Wc dt.ht)),mE ao.1 aN.1 aq.1 aL.1 aM.1 av.1 au.1 hl aW ax ax ax ax ax⟩;done
 |fail):p:=h
end Wb
namespace Wd
theorem bj(h:p:=by
 first
 |skip
  exact⟨_,_,_,rfl,dT,.for_ _ _ _ _ _ _ _ _ (.some _ _ dj) F0 F1 dt (SK aJ (.two F0.ht F1.ht) (.two dj.ht dt.ht)),mE ao.1 aN.1 aq.1 aL.1 aM.1 av.1 au.1 hl aW ax ax ax ax ax⟩;done
 |fail):p:=h
end Wd
theorem atD{m:Nat}{x:List PV}{v u:PV}{es ks:List (List PV)}(hx:bH x)(hm:SizeOf.sizeOf x<=m)(ok:dJ x)(hk:bl x=9)(hv:br CE v es)(aV:aK (ae (x.getD 5 .undef)) es)(hu:br CS u ks)(bT:aK (ae (x.getD 6 .undef)) ks):Pure ai X G 68 [.agg x,v,u] (NS x):=by
 obtain⟨kind,op,aA,flags,str,exprs,kids,decls,cases,aC,aG,rfl,hr,ao,aN,aq,aL,aM,av,au⟩:=hx.open (hm);have bX:bH [PV.int .i64 kind,.int .i64 op,.int .i64 aA,.int .i64 flags,str,exprs,kids,decls,cases,aC,aG]:=hx;simp only[cQ]at hk;subst hk;have hl:aK (ae exprs) es:=aV;have aW:aK (ae kids) ks:=bT;clear aV bT;cases ok with
 |mk _ _ _ _ _ _ _ _ _ _ _ hf il eW fI eR iE fB iF iG gg=>
 revert hf;simp[ii];intros;subst_vars;have eB:=hl.1;have fV:=aW.1;have bz:=bz;obtain⟨d0,d1,rfl⟩:=pg (l:=es) ad;obtain⟨u0,y0,u1,y1,rfl,iQ,nF,cv,cy⟩:=hv.two;have lv:aQ (.sl [[.aj u0 y0,ab],[.aj u1 y1,ab]]):=hv.1.1;have ri:([[.aj u0 y0,ab],[.aj u1 y1,ab]]:List (List PV)).length=2:=rfl;have eo:aw (.sl [[.aj u0 y0,ab],[.aj u1 y1,ab]])=true:=hv.1.2.1;have jX:db 2 (.sl [[.aj u0 y0,ab],[.aj u1 y1,ab]]) (.int .i64 0)=some (.fp [.aj u0 y0,ab],none):=rfl;have Cd:db 2 (.sl [[.aj u0 y0,ab],[.aj u1 y1,ab]]) (.int .i64 1)=some (.fp [.aj u1 y1,ab],none):=rfl;obtain⟨g0,g1,rfl⟩:=pg (l:=ks) ad;obtain⟨w0,z0,w1,z1,rfl,jH,kT,dj,dt⟩:=kK.two hu;have lu:aQ (.sl [[.aj w0 z0,ab],[.aj w1 z1,ab]]):=hu.1.1;have pj:([[.aj w0 z0,ab],[.aj w1 z1,ab]]:List (List PV)).length=2:=rfl;have gR:aw (.sl [[.aj w0 z0,ab],[.aj w1 z1,ab]])=true:=hu.1.2.1;have qW:db 2 (.sl [[.aj w0 z0,ab],[.aj w1 z1,ab]]) (.int .i64 0)=some (.fp [.aj w0 z0,ab],none):=rfl;have fw:db 2 (.sl [[.aj w0 z0,ab],[.aj w1 z1,ab]]) (.int .i64 1)=some (.fp [.aj w1 z1,ab],none):=rfl;by_cases Df:w0=307
 ·subst Df;have:=ao.1;have:=ao.2.1;have:=aN.1;have:=aN.2.1;have:=aq.1;have:=aq.2.1;have:=aL.1;have:=aL.2.1;have:=aM.1;have:=aM.2.1;have:=av.1;have:=av.2.1;have:=au.1;have:=au.2.1;refine ay vR af ?_;refine cA ?_;open Wb bi Lv in exact az
 ·have aBU:decide (w0=307)=false:=by simp[Df]
  have:=ao.1;have:=ao.2.1;have:=aN.1;have:=aN.2.1;have:=aq.1;have:=aq.2.1;have:=aL.1;have:=aL.2.1;have:=aM.1;have:=aM.2.1;have:=av.1;have:=av.2.1;have:=au.1;have:=au.2.1;refine ay vR af ?_;refine cA ?_;open Wd bi Lv in exact az
namespace We
theorem bj(h:p:=by
 first
 |skip
  exact⟨_,_,_,rfl,dT,.forIn _ _ _ _ _ _ dj cv dt (SK aJ (.one cv.ht) (.two dj.ht dt.ht)),mE ao.1 aN.1 aq.1 aL.1 aM.1 av.1 au.1 hl aW ax ax ax ax ax⟩;done
 |fail):p:=h
end We
theorem atE{m:Nat}{x:List PV}{v u:PV}{es ks:List (List PV)}(hx:bH x)(hm:SizeOf.sizeOf x<=m)(ok:dJ x)(hk:bl x=10)(hv:br CE v es)(aV:aK (ae (x.getD 5 .undef)) es)(hu:br CS u ks)(bT:aK (ae (x.getD 6 .undef)) ks):Pure ai X G 68 [.agg x,v,u] (NS x):=by
 obtain⟨kind,op,aA,flags,str,exprs,kids,decls,cases,aC,aG,rfl,hr,ao,aN,aq,aL,aM,av,au⟩:=hx.open (hm);have bX:bH [PV.int .i64 kind,.int .i64 op,.int .i64 aA,.int .i64 flags,str,exprs,kids,decls,cases,aC,aG]:=hx;simp only[cQ]at hk;subst hk;have hl:aK (ae exprs) es:=aV;have aW:aK (ae kids) ks:=bT;clear aV bT;cases ok with
 |mk _ _ _ _ _ _ _ _ _ _ _ hf il eW fI eR iE fB iF iG gg=>
 revert hf;simp[ii];intros;subst_vars;have eB:=hl.1;have fV:=aW.1;have bz:=bz;obtain⟨d0,rfl⟩:=ki (l:=es) ad;obtain⟨u0,y0,rfl,iQ,cv⟩:=hv.one;have lv:aQ (.sl [[.aj u0 y0,ab]]):=hv.1.1;have ri:([[.aj u0 y0,ab]]:List (List PV)).length=1:=rfl;have eo:aw (.sl [[.aj u0 y0,ab]])=true:=hv.1.2.1;have jX:db 2 (.sl [[.aj u0 y0,ab]]) (.int .i64 0)=some (.fp [.aj u0 y0,ab],none):=rfl;obtain⟨g0,g1,rfl⟩:=pg (l:=ks) ad;obtain⟨w0,z0,w1,z1,rfl,jH,kT,dj,dt⟩:=kK.two hu;have lu:aQ (.sl [[.aj w0 z0,ab],[.aj w1 z1,ab]]):=hu.1.1;have pj:([[.aj w0 z0,ab],[.aj w1 z1,ab]]:List (List PV)).length=2:=rfl;have gR:aw (.sl [[.aj w0 z0,ab],[.aj w1 z1,ab]])=true:=hu.1.2.1;have qW:db 2 (.sl [[.aj w0 z0,ab],[.aj w1 z1,ab]]) (.int .i64 0)=some (.fp [.aj w0 z0,ab],none):=rfl;have fw:db 2 (.sl [[.aj w0 z0,ab],[.aj w1 z1,ab]]) (.int .i64 1)=some (.fp [.aj w1 z1,ab],none):=rfl;have:=ao.1;have:=ao.2.1;have:=aN.1;have:=aN.2.1;have:=aq.1;have:=aq.2.1;have:=aL.1;have:=aL.2.1;have:=aM.1;have:=aM.2.1;have:=av.1;have:=av.2.1;have:=au.1;have:=au.2.1;refine ay vR af ?_;refine cA ?_;open We bi Co in exact az
namespace Wf
theorem bj(h:p:=by
 first
 |skip
  exact⟨_,_,_,rfl,dT,.Mw _ _ _ _ _ _ false dj cv dt (ST (us:=[]) (ds:=[]) (ws:=[]) (fs:=[]) (cs:=[]) (.inr ⟨rfl,aJ⟩) (Rg.n _ aJ aJ) .nil (.one cv.ht) (.two dj.ht dt.ht) .nil .nil .nil .nil),mE ao.1 aN.1 aq.1 aL.1 aM.1 av.1 au.1 hl aW ax ax ax ax ax⟩;done
 |fail):p:=h
end Wf
namespace Wg
theorem bj(h:p:=by
 first
 |skip
  exact⟨_,_,_,rfl,dT,.Mw _ _ _ _ _ _ true dj cv dt (ST (us:=[]) (ds:=[]) (ws:=[]) (fs:=[]) (cs:=[]) (.inr ⟨rfl,aJ⟩) (Rg.n _ aJ aJ) .nil (.one cv.ht) (.two dj.ht dt.ht) .nil .nil .nil .nil),mE ao.1 aN.1 aq.1 aL.1 aM.1 av.1 au.1 hl aW ax ax ax ax ax⟩;done
 |fail):p:=h
end Wg
theorem atF{m:Nat}{x:List PV}{v u:PV}{es ks:List (List PV)}(hx:bH x)(hm:SizeOf.sizeOf x<=m)(ok:dJ x)(hk:bl x=11)(hv:br CE v es)(aV:aK (ae (x.getD 5 .undef)) es)(hu:br CS u ks)(bT:aK (ae (x.getD 6 .undef)) ks):Pure ai X G 68 [.agg x,v,u] (NS x):=by
 obtain⟨kind,op,aA,flags,str,exprs,kids,decls,cases,aC,aG,rfl,hr,ao,aN,aq,aL,aM,av,au⟩:=hx.open (hm);have bX:bH [PV.int .i64 kind,.int .i64 op,.int .i64 aA,.int .i64 flags,str,exprs,kids,decls,cases,aC,aG]:=hx;simp only[cQ]at hk;subst hk;have hl:aK (ae exprs) es:=aV;have aW:aK (ae kids) ks:=bT;clear aV bT;cases ok with
 |mk _ _ _ _ _ _ _ _ _ _ _ hf il eW fI eR iE fB iF iG gg=>
 revert hf;simp[ii];intros;subst_vars;have eB:=hl.1;have fV:=aW.1;have bz:=bz;obtain⟨d0,rfl⟩:=ki (l:=es) ad;obtain⟨u0,y0,rfl,iQ,cv⟩:=hv.one;have lv:aQ (.sl [[.aj u0 y0,ab]]):=hv.1.1;have ri:([[.aj u0 y0,ab]]:List (List PV)).length=1:=rfl;have eo:aw (.sl [[.aj u0 y0,ab]])=true:=hv.1.2.1;have jX:db 2 (.sl [[.aj u0 y0,ab]]) (.int .i64 0)=some (.fp [.aj u0 y0,ab],none):=rfl;obtain⟨g0,g1,rfl⟩:=pg (l:=ks) ad;obtain⟨w0,z0,w1,z1,rfl,jH,kT,dj,dt⟩:=kK.two hu;have lu:aQ (.sl [[.aj w0 z0,ab],[.aj w1 z1,ab]]):=hu.1.1;have pj:([[.aj w0 z0,ab],[.aj w1 z1,ab]]:List (List PV)).length=2:=rfl;have gR:aw (.sl [[.aj w0 z0,ab],[.aj w1 z1,ab]])=true:=hu.1.2.1;have qW:db 2 (.sl [[.aj w0 z0,ab],[.aj w1 z1,ab]]) (.int .i64 0)=some (.fp [.aj w0 z0,ab],none):=rfl;have fw:db 2 (.sl [[.aj w0 z0,ab],[.aj w1 z1,ab]]) (.int .i64 1)=some (.fp [.aj w1 z1,ab],none):=rfl;have z1:bits .and .i64 2 2=2:=by decide
 rcases‹flags=0\/flags=2›with rfl|rfl
 ·have:=ao.1;have:=ao.2.1;have:=aN.1;have:=aN.2.1;have:=aq.1;have:=aq.2.1;have:=aL.1;have:=aL.2.1;have:=aM.1;have:=aM.2.1;have:=av.1;have:=av.2.1;have:=au.1;have:=au.2.1;refine ay vR af ?_;refine cA ?_;open Wf bi Co in exact az
 ·have:=ao.1;have:=ao.2.1;have:=aN.1;have:=aN.2.1;have:=aq.1;have:=aq.2.1;have:=aL.1;have:=aL.2.1;have:=aM.1;have:=aM.2.1;have:=av.1;have:=av.2.1;have:=au.1;have:=au.2.1;refine ay vR af ?_;refine cA ?_;open Wg bi Co in exact az
namespace Wh
theorem bj(h:p:=by
 first
 |skip
  exact⟨_,_,_,rfl,dT,.Uh _ _ _ _ dj cv (SK aJ (.one cv.ht) (.one dj.ht)),mE ao.1 aN.1 aq.1 aL.1 aM.1 av.1 au.1 hl aW ax ax ax ax ax⟩;done
 |fail):p:=h
end Wh
theorem atG{m:Nat}{x:List PV}{v u:PV}{es ks:List (List PV)}(hx:bH x)(hm:SizeOf.sizeOf x<=m)(ok:dJ x)(hk:bl x=12)(hv:br CE v es)(aV:aK (ae (x.getD 5 .undef)) es)(hu:br CS u ks)(bT:aK (ae (x.getD 6 .undef)) ks):Pure ai X G 68 [.agg x,v,u] (NS x):=by
 obtain⟨kind,op,aA,flags,str,exprs,kids,decls,cases,aC,aG,rfl,hr,ao,aN,aq,aL,aM,av,au⟩:=hx.open (hm);have bX:bH [PV.int .i64 kind,.int .i64 op,.int .i64 aA,.int .i64 flags,str,exprs,kids,decls,cases,aC,aG]:=hx;simp only[cQ]at hk;subst hk;have hl:aK (ae exprs) es:=aV;have aW:aK (ae kids) ks:=bT;clear aV bT;cases ok with
 |mk _ _ _ _ _ _ _ _ _ _ _ hf il eW fI eR iE fB iF iG gg=>
 revert hf;simp[ii];intros;subst_vars;have eB:=hl.1;have fV:=aW.1;have bz:=bz;obtain⟨d0,rfl⟩:=ki (l:=es) ad;obtain⟨u0,y0,rfl,iQ,cv⟩:=hv.one;have lv:aQ (.sl [[.aj u0 y0,ab]]):=hv.1.1;have ri:([[.aj u0 y0,ab]]:List (List PV)).length=1:=rfl;have eo:aw (.sl [[.aj u0 y0,ab]])=true:=hv.1.2.1;have jX:db 2 (.sl [[.aj u0 y0,ab]]) (.int .i64 0)=some (.fp [.aj u0 y0,ab],none):=rfl;obtain⟨g0,rfl⟩:=ki (l:=ks) ad;obtain⟨w0,z0,rfl,jH,dj⟩:=kK.one hu;have lu:aQ (.sl [[.aj w0 z0,ab]]):=hu.1.1;have pj:([[.aj w0 z0,ab]]:List (List PV)).length=1:=rfl;have gR:aw (.sl [[.aj w0 z0,ab]])=true:=hu.1.2.1;have qW:db 2 (.sl [[.aj w0 z0,ab]]) (.int .i64 0)=some (.fp [.aj w0 z0,ab],none):=rfl;have:=ao.1;have:=ao.2.1;have:=aN.1;have:=aN.2.1;have:=aq.1;have:=aq.2.1;have:=aL.1;have:=aL.2.1;have:=aM.1;have:=aM.2.1;have:=av.1;have:=av.2.1;have:=au.1;have:=au.2.1;refine ay vR af ?_;refine cA ?_;open Wh bi Cp in exact az
namespace Wi
theorem bj(h:p:=by
 first
 |skip
  exact⟨_,_,_,rfl,dT,.Ui _ _ _ _ dj cv (SK aJ (.one cv.ht) (.one dj.ht)),mE ao.1 aN.1 aq.1 aL.1 aM.1 av.1 au.1 hl aW ax ax ax ax ax⟩;done
 |fail):p:=h
end Wi
theorem atH{m:Nat}{x:List PV}{v u:PV}{es ks:List (List PV)}(hx:bH x)(hm:SizeOf.sizeOf x<=m)(ok:dJ x)(hk:bl x=13)(hv:br CE v es)(aV:aK (ae (x.getD 5 .undef)) es)(hu:br CS u ks)(bT:aK (ae (x.getD 6 .undef)) ks):Pure ai X G 68 [.agg x,v,u] (NS x):=by
 obtain⟨kind,op,aA,flags,str,exprs,kids,decls,cases,aC,aG,rfl,hr,ao,aN,aq,aL,aM,av,au⟩:=hx.open (hm);have bX:bH [PV.int .i64 kind,.int .i64 op,.int .i64 aA,.int .i64 flags,str,exprs,kids,decls,cases,aC,aG]:=hx;simp only[cQ]at hk;subst hk;have hl:aK (ae exprs) es:=aV;have aW:aK (ae kids) ks:=bT;clear aV bT;cases ok with
 |mk _ _ _ _ _ _ _ _ _ _ _ hf il eW fI eR iE fB iF iG gg=>
 revert hf;simp[ii];intros;subst_vars;have eB:=hl.1;have fV:=aW.1;have bz:=bz;obtain⟨d0,rfl⟩:=ki (l:=es) ad;obtain⟨u0,y0,rfl,iQ,cv⟩:=hv.one;have lv:aQ (.sl [[.aj u0 y0,ab]]):=hv.1.1;have ri:([[.aj u0 y0,ab]]:List (List PV)).length=1:=rfl;have eo:aw (.sl [[.aj u0 y0,ab]])=true:=hv.1.2.1;have jX:db 2 (.sl [[.aj u0 y0,ab]]) (.int .i64 0)=some (.fp [.aj u0 y0,ab],none):=rfl;obtain⟨g0,rfl⟩:=ki (l:=ks) ad;obtain⟨w0,z0,rfl,jH,dj⟩:=kK.one hu;have lu:aQ (.sl [[.aj w0 z0,ab]]):=hu.1.1;have pj:([[.aj w0 z0,ab]]:List (List PV)).length=1:=rfl;have gR:aw (.sl [[.aj w0 z0,ab]])=true:=hu.1.2.1;have qW:db 2 (.sl [[.aj w0 z0,ab]]) (.int .i64 0)=some (.fp [.aj w0 z0,ab],none):=rfl;have:=ao.1;have:=ao.2.1;have:=aN.1;have:=aN.2.1;have:=aq.1;have:=aq.2.1;have:=aL.1;have:=aL.2.1;have:=aM.1;have:=aM.2.1;have:=av.1;have:=av.2.1;have:=au.1;have:=au.2.1;refine ay vR af ?_;refine cA ?_;open Wi bi Cp in exact az
end
end Go.Pi
end
