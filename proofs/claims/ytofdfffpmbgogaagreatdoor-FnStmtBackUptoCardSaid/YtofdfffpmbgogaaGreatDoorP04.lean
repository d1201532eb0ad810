import Derived.Orders
import Derived.Tactics
import Derived.Test.YtofdfffpmbgogaaGreatDoorP03
/- Part of the proof. -/
set_option linter.all false
section
namespace Go.Pi
open Go.RowKit
def wF:K->Bool
 | .app _ _ _ _ _| .call _ _| .m7 _ _=>true
 |_=>false
theorem ae7{P:Program}{o:Oper}{k:K}(h:eE P o=some k)(hk:wF k=true):∃c,o.op= .call c/\rB P c=some k:=by
 obtain⟨dst,op,ty,pos,dQ,gd⟩:=o;cases op with
 |call c=>exact⟨c,rfl,by simpa only[eE]using h⟩
 |slice t x lo hi mx=>
  exfalso;cases mx with
  |some m=>simp[eE]at h
  |none=>
   simp only[eE,bind,Option.bind_eq_some_iff]at h;obtain⟨_,_,_,_,_,_,h⟩:=h;split at h<;>first
    |(simp only[Option.bind_eq_some_iff,Option.some.injEq]at h;obtain⟨_,_,rfl⟩:=h;cases hk;done)
    |(simp only[Option.bind_eq_some_iff,Option.some.injEq]at h;obtain⟨_,_,_,_,rfl⟩:=h;cases hk;done)
    |(cases h;done)
 |typeAssert x xt t ok=>
  exfalso;cases ok with
  |false=>simp[eE]at h
  |true=>
   simp only[eE,bind,Option.bind_eq_some_iff]at h;obtain⟨_,_,_,_,h⟩:=h;split at h
   ·cases h
   ·cases h
   ·split at h
    ·simp only[Option.bind_eq_some_iff,Option.some.injEq]at h;obtain⟨_,_,_,_,rfl⟩:=h;cases hk
    ·cases h
 |binOp op t x y yt=>
  exfalso;simp only[eE,bind,Option.bind_eq_some_iff]at h;obtain⟨_,_,h⟩:=h;split at h<;>first
   |(simp only[Option.bind_eq_some_iff,Option.some.injEq]at h;obtain⟨_,_,_,_,rfl⟩:=h;cases hk;done)
   |(split at h
     ·simp only[Option.bind_eq_some_iff,Option.some.injEq]at h;obtain⟨_,_,rfl⟩:=h;cases hk
     ·cases h)
   |(cases h;done)
 |convert DW dst x=>
  exfalso;simp only[eE,bind,Option.bind_eq_some_iff]at h;obtain⟨_,_,_,_,h⟩:=h;split at h
  ·simp only[Option.bind_eq_some_iff,Option.some.injEq]at h;obtain⟨_,_,rfl⟩:=h;cases hk
  ·simp only[Option.bind_eq_some_iff,Option.some.injEq]at h;obtain⟨_,_,rfl⟩:=h;cases hk
  ·split at h
   ·simp only[Option.map_eq_some_iff]at h;obtain⟨_,_,rfl⟩:=h;cases hk
   ·cases h
  ·simp only[Option.bind_eq_some_iff,Option.some.injEq]at h;obtain⟨_,_,rfl⟩:=h;cases hk
  ·cases h
 |makeInterface t x=>
  exfalso;simp only[eE,bind,Option.bind_eq_some_iff]at h;obtain⟨_,_,h⟩:=h;split at h
  ·cases h
  ·simp only[Option.bind_eq_some_iff,Option.some.injEq]at h;obtain⟨_,_,rfl⟩:=h;cases hk
 |buildSlice t len ps=>
  exfalso;simp only[eE,bind,Option.bind_eq_some_iff]at h;obtain⟨_,_,_,_,h⟩:=h;split at h
  ·simp at h
  ·simp only[Option.bind_eq_some_iff]at h;obtain⟨_,_,h⟩:=h;split at h
   ·cases h
   ·simp only[Option.bind_eq_some_iff,Option.some.injEq]at h;obtain⟨_,_,rfl⟩:=h;cases hk
 |makeSlice t l c=>
  exfalso;simp only[eE,bind,Option.bind_eq_some_iff]at h;obtain⟨_,_,_,_,_,_,_,_,h⟩:=h;split at h
  ·simp at h
  ·simp only[Option.bind_eq_some_iff,Option.some.injEq]at h;obtain⟨_,_,_,_,rfl⟩:=h;cases hk
 |fieldAddr t x f=>
  exfalso;simp only[eE]at h;split at h
  ·simp only[bind,Option.bind_eq_some_iff]at h;obtain⟨_,_,_,_,h⟩:=h;split at h
   ·simp at h
   ·simp only[Option.bind_eq_some_iff,Option.some.injEq]at h;obtain⟨_,_,rfl⟩:=h;cases hk
  ·cases h
 |index t x i=>
  exfalso;simp only[eE,bind,Option.bind_eq_some_iff]at h;obtain⟨_,_,h⟩:=h;split at h
  ·simp only[Option.bind_eq_some_iff,Option.some.injEq]at h;obtain⟨_,_,_,_,rfl⟩:=h;cases hk
  ·cases h
 |_=>
  exfalso;first
   |(simp[eE]at h;done)
   |(simp only[eE,bind,Option.bind_eq_some_iff,Option.some.injEq]at h
     first
      |(obtain⟨_,_,rfl⟩:=h;cases hk;done)
      |(obtain⟨_,_,_,_,rfl⟩:=h;cases hk;done)
      |(obtain⟨_,_,_,_,_,_,rfl⟩:=h;cases hk;done)
      |(obtain⟨_,_,_,_,_,_,_,_,rfl⟩:=h;cases hk;done))
theorem ae8{P:Program}{c:Call}{e s b:Nat}{yd yx:bK}(h:rB P c=some (.app e s b yd yx)):
 ∃d x t u z,c=⟨.builtin .append,#[d,x],#[t,u]⟩/\di d=some yd/\di x=some yx/\P.underlying t=some (.slice e)/\((∃e',P.underlying u=some (.slice e'))\/P.underlying u=some .string)/\im P e=some s/\s≠0/\rA P e=some b/\b≠0/\oP P e=some z/\z.length=s:=by
 obtain⟨cl,as,ts⟩:=c;unfold rB at h;simp only at h;split at h
 ·simp only[bind,Option.bind_eq_some_iff]at h;obtain⟨_,_,h⟩:=h;split at h<;>first
   |(simp only[Option.bind_eq_some_iff,Option.some.injEq]at h;obtain⟨_,_,h⟩:=h;cases h;done)
   |(cases h;done)
 ·rename_i d x t u has rF;simp only[bind,Option.bind_eq_some_iff]at h;obtain⟨e',he,s',hs,b',hb,z,hz,h⟩:=h;have iT:P.underlying t=some (.slice e'):=by
   unfold sK at he;split at he
   ·rename_i hu;injection he with he;rw[<-he];exact hu
   ·cases he
  split at h
  ·simp at h
  ·rename_i sP;simp only[Option.bind_eq_some_iff]at h;obtain⟨du,gR,h⟩:=h;split at h
   ·simp only[Option.bind_eq_some_iff,Option.some.injEq]at h;obtain⟨pd,Iy,px,Iz,h⟩:=h;injection h with h1 h2 h3 h4 h5;subst h1;subst h2;subst h3;subst h4;subst h5;exact⟨d,x,t,u,z,by rw[uN has,uN rF],Iy,Iz,iT,.inl ⟨_,gR⟩,hs,by omega,hb,by omega,hz,by omega⟩
   ·simp only[Option.bind_eq_some_iff,Option.some.injEq]at h;obtain⟨pd,Iy,px,Iz,h⟩:=h;injection h with h1 h2 h3 h4 h5;subst h1;subst h2;subst h3;subst h4;subst h5;exact⟨d,x,t,u,z,by rw[uN has,uN rF],Iy,Iz,iT,.inr gR,hs,by omega,hb,by omega,hz,by omega⟩
   ·cases h
 ·simp only[bind,Option.bind_eq_some_iff,Option.some.injEq]at h;obtain⟨_,_,_,_,h⟩:=h;cases h
 ·simp only[bind,Option.bind_eq_some_iff,Option.some.injEq]at h;obtain⟨_,_,_,_,h⟩:=h;cases h
 ·simp only[bind,Option.bind_eq_some_iff]at h;obtain⟨_,_,h⟩:=h;split at h
  ·split at h
   ·cases h
   ·simp only[Option.bind_eq_some_iff,Option.some.injEq]at h;obtain⟨_,_,h⟩:=h;cases h
  ·split at h
   ·split at h
    ·cases h
    ·split at h
     ·simp only[Option.bind_eq_some_iff,Option.some.injEq]at h;obtain⟨_,_,h⟩:=h;cases h
     ·split at h
      ·simp only[Option.bind_eq_some_iff,Option.some.injEq]at h;obtain⟨_,_,h⟩:=h;cases h
      ·cases h
   ·cases h
 ·simp only[bind,Option.bind_eq_some_iff,Option.some.injEq]at h;obtain⟨_,_,h⟩:=h;cases h
 ·cases h
theorem ae9{P:Program}{c:Call}{f:Nat}{l:List bK}(h:rB P c=some (.call f l)):
 ∃as ts fn,c=⟨.value (.func f),as,ts⟩/\ry as.toList=some l/\P.funcs[f]?=some fn/\fn.body.isNone=false/\(fn.name== "runtime.NumGoroutine")=false:=by
 obtain⟨cl,as,ts⟩:=c;unfold rB at h;simp only at h;split at h
 ·simp only[bind,Option.bind_eq_some_iff]at h;obtain⟨_,_,h⟩:=h;split at h<;>first
   |(simp only[Option.bind_eq_some_iff,Option.some.injEq]at h;obtain⟨_,_,h⟩:=h;cases h;done)
   |(cases h;done)
 ·simp only[bind,Option.bind_eq_some_iff]at h;obtain⟨e',he,s',hs,b',hb,z,hz,h⟩:=h;split at h
  ·simp at h
  ·simp only[Option.bind_eq_some_iff]at h;obtain⟨du,gR,h⟩:=h;split at h<;>first
    |(simp only[Option.bind_eq_some_iff,Option.some.injEq]at h;obtain⟨_,_,_,_,h⟩:=h;cases h;done)
    |(cases h;done)
 ·simp only[bind,Option.bind_eq_some_iff,Option.some.injEq]at h;obtain⟨_,_,_,_,h⟩:=h;cases h
 ·simp only[bind,Option.bind_eq_some_iff,Option.some.injEq]at h;obtain⟨_,_,_,_,h⟩:=h;cases h
 ·simp only[bind,Option.bind_eq_some_iff]at h;obtain⟨fn,km,h⟩:=h;split at h
  ·rename_i hb;split at h
   ·cases h
   ·rename_i hn;simp only[Option.bind_eq_some_iff,Option.some.injEq]at h;obtain⟨l',hl,h⟩:=h;injection h with h1 h2;subst h1;subst h2;exact⟨as,ts,fn,rfl,hl,km,by rw[hb];rfl,by simpa using hn⟩
  ·split at h
   ·split at h
    ·cases h
    ·split at h
     ·simp only[Option.bind_eq_some_iff,Option.some.injEq]at h;obtain⟨_,_,h⟩:=h;cases h
     ·split at h
      ·simp only[Option.bind_eq_some_iff,Option.some.injEq]at h;obtain⟨_,_,h⟩:=h;cases h
      ·cases h
   ·cases h
 ·simp only[bind,Option.bind_eq_some_iff,Option.some.injEq]at h;obtain⟨_,_,h⟩:=h;cases h
 ·cases h
theorem afa{P:Program}{c:Call}{fo:bK}{l:List bK}(h:rB P c=some (.m7 fo l)):
 ∃n as ts,c=⟨.value (.tmp n),as,ts⟩/\fo= .t n/\ry as.toList=some l:=by
 obtain⟨cl,as,ts⟩:=c;unfold rB at h;simp only at h;split at h
 ·simp only[bind,Option.bind_eq_some_iff]at h;obtain⟨_,_,h⟩:=h;split at h<;>first
   |(simp only[Option.bind_eq_some_iff,Option.some.injEq]at h;obtain⟨_,_,h⟩:=h;cases h;done)
   |(cases h;done)
 ·simp only[bind,Option.bind_eq_some_iff]at h;obtain⟨e',he,s',hs,b',hb,z,hz,h⟩:=h;split at h
  ·simp at h
  ·simp only[Option.bind_eq_some_iff]at h;obtain⟨du,gR,h⟩:=h;split at h<;>first
    |(simp only[Option.bind_eq_some_iff,Option.some.injEq]at h;obtain⟨_,_,_,_,h⟩:=h;cases h;done)
    |(cases h;done)
 ·simp only[bind,Option.bind_eq_some_iff,Option.some.injEq]at h;obtain⟨_,_,_,_,h⟩:=h;cases h
 ·simp only[bind,Option.bind_eq_some_iff,Option.some.injEq]at h;obtain⟨_,_,_,_,h⟩:=h;cases h
 ·simp only[bind,Option.bind_eq_some_iff]at h;obtain⟨fn,km,h⟩:=h;split at h
  ·split at h
   ·cases h
   ·simp only[Option.bind_eq_some_iff,Option.some.injEq]at h;obtain⟨_,_,h⟩:=h;cases h
  ·split at h
   ·split at h
    ·cases h
    ·split at h
     ·simp only[Option.bind_eq_some_iff,Option.some.injEq]at h;obtain⟨_,_,h⟩:=h;cases h
     ·split at h
      ·simp only[Option.bind_eq_some_iff,Option.some.injEq]at h;obtain⟨_,_,h⟩:=h;cases h
      ·cases h
   ·cases h
 ·simp only[bind,Option.bind_eq_some_iff,Option.some.injEq]at h;obtain⟨l',hl,h⟩:=h;injection h with h1 h2;subst h1;subst h2;exact⟨_,as,ts,rfl,rfl,hl⟩
 ·cases h
end Go.Pi
end
section
namespace Go.Pi
open Go.RowKit
theorem OI{H:al}{id st e s b:Nat}{d x v:PV}{b':Nat}{c:Chunk}(h:iU H id st e s b d x=some (v,some (b',c))):c.gen=st/\b'∈(match d with| .row b _ _=>[b]|_=>[id]):=by
 unfold iU at h;split at h
 ·split at h
  ·split at h
   ·cases h
   ·split at h
    ·split at h<;>cases h
    ·cases h
   ·cases h
  ·split at h
   ·split at h
    ·cases h;exact⟨rfl,by simp⟩
    ·cases h
   ·split at h
    ·split at h
     ·cases h;exact⟨rfl,by simp⟩
     ·cases h
    ·cases h
   ·cases h
 ·cases h
theorem OJ{ev:bK->PV}{H:al}{id st:Nat}{k:K}{v:PV}{b:Nat}{c:Chunk}(hk:wF k=false)(h:cx ev H id st k=some (v,some (b,c))):
 b∈(bU ev H id k).2/\(c.gen=st\/∃c0,H b=some c0/\c0.gen=c.gen):=by
 cases k with
 |app=>cases hk
 |call=>cases hk
 |m7=>cases hk
 |new e z=>simp only[cx,Option.some.injEq,Prod.mk.injEq]at h;obtain⟨_,rfl,rfl⟩:=h;exact⟨by simp[bU],.inl rfl⟩
 |box e n x=>
  simp only[cx]at h;split at h
  ·split at h
   ·simp only[Option.some.injEq,Prod.mk.injEq]at h;obtain⟨_,rfl,rfl⟩:=h;exact⟨by simp[bU],.inl rfl⟩
   ·cases h
  ·cases h
 |bh e s len z ps=>
  simp only[cx,Option.map_eq_some_iff,Prod.mk.injEq,Option.some.injEq]at h;obtain⟨_,_,_,rfl,rfl⟩:=h;exact⟨by simp[bU],.inl rfl⟩
 |m5 e s b' z l c'=>
  simp only[cx]at h;split at h
  ·split at h
   ·simp only[Option.some.injEq,Prod.mk.injEq]at h;obtain⟨_,rfl,rfl⟩:=h;exact⟨by simp[bU],.inl rfl⟩
   ·cases h
  ·cases h
 |st n x y=>
  simp only[cx,wg]at h;split at h
  ·rename_i b' g off vs hx hv;split at h
   ·rename_i c0 cv;split at h
    ·simp only[Option.some.injEq,Prod.mk.injEq]at h;obtain⟨_,rfl,rfl⟩:=h;exact⟨by simp[bU,hx],.inr ⟨c0,cv,rfl⟩⟩
    ·cases h
   ·cases h
  ·cases h
 |build z ps=>simp only[cx,Option.map_eq_some_iff,Prod.mk.injEq]at h;obtain⟨_,_,_,h⟩:=h;cases h
 |bin op x y=>simp only[cx,Option.map_eq_some_iff,Prod.mk.injEq]at h;obtain⟨_,_,_,h⟩:=h;cases h
 |mZ op x y=>simp only[cx,Option.map_eq_some_iff,Prod.mk.injEq]at h;obtain⟨_,_,_,h⟩:=h;cases h
 |v9 op x y=>simp only[cx,Option.map_eq_some_iff,Prod.mk.injEq]at h;obtain⟨_,_,_,h⟩:=h;cases h
 |mI op x y=>simp only[cx,Option.map_eq_some_iff,Prod.mk.injEq]at h;obtain⟨_,_,_,h⟩:=h;cases h
 |un op x=>simp only[cx,Option.map_eq_some_iff,Prod.mk.injEq]at h;obtain⟨_,_,_,h⟩:=h;cases h
 |ix s x i=>simp only[cx,db]at h;(repeat' split at h)<;>cases h
 |py x=>
  simp only[cx]at h;split at h
  ·cases h
  ·split at h
   ·simp only[Option.map_eq_some_iff,Prod.mk.injEq]at h;obtain⟨_,_,_,h⟩:=h;cases h
   ·cases h
 |ext x i=>
  simp only[cx]at h;split at h
  ·simp only[Option.map_eq_some_iff,Prod.mk.injEq]at h;obtain⟨_,_,_,h⟩:=h;cases h
  ·cases h
 |_=>simp only[cx]at h;(repeat' split at h)<;>cases h
section
variable{P:Program}{aT:World}{E:Env}{w:World}
def pD(aT:World)(G:Nat->PV):Prop:=∀n(E:Env),(∀a u,aT.cell? a=some u->E.F a=some u)->bD E (G n) (.pointer (some ⟨n,0,none⟩))
theorem OK{G:Nat->PV}(hG:pD aT G)(hI:Inv P aT E w){t:Nat->PV}{a:Act}(hs:∀x,bD E (t x) (a.tmps.getD x undef)):∀x y,di x=some y->bD E (ev G t y) (a.eval x):=by
 intro x y h;cases x with
 |tmp n=>simp only[di,Option.some.injEq]at h;subst h;exact hs n
 |const v=>
  simp only[di,Option.map_eq_some_iff]at h;obtain⟨x,hx,rfl⟩:=h;exact(HR hx E).1
 |global n=>simp only[di,Option.some.injEq]at h;subst h;exact hG n E hI.old
 |func f=>
  simp only[di,Option.some.injEq]at h;subst h;exact .kM _ [] [] [] [] rfl (fun i hi=>absurd hi (by simp)) rfl (fun i hi=>absurd hi (by simp))
structure IA(P:Program)(aT:World)(E:Env)(w:World)(W:List Nat)(st:Nat)(r:PV)(H':al)(z:Value)(E':Env)(w':World):Prop where
 pC:bD E' r z
 inv:Inv P aT E' w'
 ext:Ext E w E' w'
 heap:E'.H=H'
 used:∀b g,E'.K b g->E.K b g\/(g=st/\b∈W)
theorem afb{bJ:aS}(hS:ic P aT bJ){G:Nat->PV}(hG:pD aT G){o:Oper}{k:K}{a:Act}{t:Nat->PV}(hc:eE P o=some k)(hI:Inv P aT E w)(hs:∀x,bD E (t x) (a.tmps.getD x undef))
 {id st:Nat}{r:PV}{H':al}(eF:∀b,b∈(bU (ev G t) E.H id k).2->∀g,st<=g->¬E.K b g)(kn:zi k=true->∀g,st<=g->¬E.K id g)(bC:gW bJ (ev G t) E.H id st k=some (r,H')){next:Act->World->Prop}{Q:Exit->Act->World->Prop}
 (hK:∀z E' w',IA P aT E w (bU (ev G t) E.H id k).2 st r H' z E' w'->next (a.put o.dst z) w'):o.wp P a w next Q:=by
 have cF:=OK hG hI hs;by_cases hk:wF k=true
 ·obtain⟨c,nV,l8⟩:=ae7 hc hk;obtain⟨dst,op,ty,pos,dQ,gd⟩:=o;simp only at nV;subst nV;cases k with
  |app e s b yd yx=>
   obtain⟨d,x,tt,u,z,rfl,ib,wz,ht,hu,fL,dj,hb,dX,hz,k7⟩:=ae8 l8;simp only[gW,runK]at bC;cases eC:settle depth E.H (ev G t yx)with
   |none=>simp[eC]at bC
   |some yi=>
    obtain⟨y,ids⟩:=yi;simp only[eC,Option.map_eq_some_iff,Prod.mk.injEq]at bC;obtain⟨⟨v,up⟩,wG,rfl,rfl⟩:=bC;have iH:=A9 hI ids;have nX:=Ext.freeze hI ids;obtain⟨OL,_,_⟩:=Ox hI depth _ y _ ids eC (fun _ h=>h) (cF x yx wz);have IB:(bU (ev G t) E.H id (.app e s b yd yx)).2=(match ev G t yd with| .row b _ _=>[b]|_=>[id])++ids:=by cases hh:ev G t yd<;>simp[bU,eC,hh]
    have cN:iu P aT (E.freeze w ids) w ((do pure (Next.value (<-Builtin.append_ #[tt,u] ty #[a.eval d,a.eval x])):Sem Next).run P w) v up:=by
     by_cases lL:∃c g l,ev G t yd= .row c g l
     ·obtain⟨c,g,l,lL⟩:=lL;have rH:c∈(bU (ev G t) E.H id (.app e s b yd yx)).2:=by rw[IB,lL];simp
      have uU:=(cF d yd ib).mono nX.le;rw[lL]at uU wG;exact H9 (fresh:=c) iH (eF c rH) (ty:=ty) ht hu fL dj hb dX hz k7 (fun c' g' l' h=>by cases h;exact eF c rH) uU OL wG
     ·have afc:id∈(bU (ev G t) E.H id (.app e s b yd yx)).2:=by
       rw[IB];cases hv:ev G t yd with
       |row c g l=>exact absurd ⟨c,g,l,hv⟩ lL
       |_=>simp
      exact H9 iH (eF id afc) (ty:=ty) ht hu fL dj hb dX hz k7 (fun c' g' l' h=>absurd ⟨c',g',l',h⟩ lL) ((cF d yd ib).mono nX.le) OL wG
    obtain⟨n,w',E',z',zj,hn,wH,hp⟩:=cN;have Bg:(execOp a.eval ⟨dst,.call ⟨.builtin .append,#[d,x],#[tt,u]⟩,ty,pos,dQ,gd⟩).run P w= .ok n w':=by
     rw[<-zj];simp[execOp,resolve,invoke,builtin]
    have bG:IA P aT E w (bU (ev G t) E.H id (.app e s b yd yx)).2 st v ((E.H.drop ids).fK up) z' E' w':=by
     refine⟨wH,hp.inv,nX.trans (Ext.post hp),hp.heap,fun b' g qx=>?_⟩;rcases hp.used b' g qx with h|⟨c,hc,hg⟩
     ·exact .inl h
     ·subst hc;obtain⟨h1,h2⟩:=OI wG;exact .inr ⟨hg.trans h1,by rw[IB];exact List.mem_append_left _ h2⟩
    unfold Oper.wp;rw[Bg];rcases hn with rfl|⟨rfl,rfl⟩
    ·exact hK z' E' w' bG
    ·exact hK undef E' w' bG
  |call f l=>
   obtain⟨as,ts,fn,rfl,hl,km,hb,nW⟩:=ae9 l8;have hR:=D9 cF _ _ hl;have fC:=OH hS hI hR bC;have Bg:(execOp a.eval ⟨dst,.call ⟨.value (.func f),as,ts⟩,ty,pos,dQ,gd⟩).run P w= .ok (.enter f (as.toList.map a.eval).toArray) w:=by
    have e1:as.map a.eval=(as.toList.map a.eval).toArray:=by apply Array.ext';simp
    simp only[execOp,resolve,Deferred.ofValue,Act.eval,Sem.run_bind,Sem.run_pure,Result.andThen_ok,invoke,callFunc,run_program,km,hb,nW,e1];simp[km,hb,nW,e1]
   unfold Oper.wp;rw[Bg,Oper.upon_enter];refine fC.mono ?_;rintro e w' ⟨v,E',rfl,jk⟩;exact hK v E' w' ⟨jk.pC,jk.inv,jk.ext,jk.heap,fun b g h=> .inl (jk.used▸h)⟩
  |m7 fo l=>
   obtain⟨n,as,ts,rfl,rfl,hl⟩:=afa l8;have hR:=D9 cF _ _ hl;simp only[gW]at bC;have Bh:=cF (.tmp n) (.t n) rfl;cases hv:ev G t (.t n)with
   |kM fx first Is=>
    rw[hv]at Bh;cases fx with
    |func f=>
     simp only[hv]at bC;generalize hz:a.eval (.tmp n)=z at Bh;cases Bh with
     |kM _ _ _ vs us bL h1 aW h2=>
      have hRa:b9 E (first++l.map (ev G t)++Is) (vs++as.toList.map a.eval++us):=((b9.mk bL h1).append hR).append (b9.mk aW h2);have fC:=OH hS hI hRa bC;obtain⟨fn,km,hb,nW⟩:=ae6 hS bC;have Bg:(execOp a.eval ⟨dst,.call ⟨.value (.tmp n),as,ts⟩,ty,pos,dQ,gd⟩).run P w= .ok (.enter f (vs++as.toList.map a.eval++us).toArray) w:=by
       have e1:vs.toArray++as.map a.eval++us.toArray=(vs++as.toList.map a.eval++us).toArray:=by apply Array.ext';simp
       simp only[execOp,resolve,hz,Deferred.ofValue,Sem.run_bind,Sem.run_pure,Result.andThen_ok,invoke,callFunc,run_program,km,hb,nW,e1];simp
      unfold Oper.wp;rw[Bg,Oper.upon_enter];refine fC.mono ?_;rintro e w' ⟨v,E',rfl,jk⟩;exact hK v E' w' ⟨jk.pC,jk.inv,jk.ext,jk.heap,fun b g h=> .inl (jk.used▸h)⟩
    |_=>simp[hv]at bC
   |_=>simp[hv]at bC
  |_=>cases hk
 ·have qx:wF k=false:=by simpa using hk
  have zj:(cx (ev G t) E.H id st k).map (fun r=>(r.1,E.H.fK r.2))=some (r,H'):=by
   cases k<;>first|exact bC|cases qx
  simp only[Option.map_eq_some_iff,Prod.mk.injEq]at zj;obtain⟨⟨v,up⟩,nV,rfl,rfl⟩:=zj;have afe:∀b c,up=some (b,c)->b∈(bU (ev G t) E.H id k).2/\(c.gen=st\/∃c0,E.H b=some c0/\c0.gen=c.gen):=fun b c h=>by
   subst h;exact OJ qx nV
  have aff:iu P aT E w ((execOp a.eval o).run P w) v up:=by
   exact aeM (fresh:=id) hc hI cF (fun hf=>kn (by cases k<;>first|(cases qx;done)|rfl|(cases hf;done))) (fun e s b d x c g l h=>by subst h;cases qx) (fun f=>rfl) nV
  obtain⟨n,w',E',z',zj,hn,wH,hp⟩:=aff;have bG:IA P aT E w (bU (ev G t) E.H id k).2 st v (E.H.fK up) z' E' w':=by
   refine⟨wH,hp.inv,Ext.post hp,hp.heap,fun b' g uV=>?_⟩;rcases hp.used b' g uV with h|⟨c,hc,hg⟩
   ·exact .inl h
   ·obtain⟨h1,h2⟩:=afe b' c hc;rcases h2 with h2|⟨c0,h3,h4⟩
    ·exact .inr ⟨hg.trans h2,h1⟩
    ·exact .inl (by rw[hg,<-h4];exact(hI.chunk b' c0 h3).used)
  unfold Oper.wp;rw[zj];rcases hn with rfl|⟨rfl,rfl⟩
  ·exact hK z' E' w' bG
  ·exact hK undef E' w' bG
end
end Go.Pi
end
section
namespace Go.Pi
open Go.RowKit
theorem Ei{f f2:PV->Option (PV×List Nat)}{A:List Nat->Prop}(hA:∀i j,A (i++j)->A i/\A j)
 (hf:∀x y i,f x=some (y,i)->A i->f2 x=some (y,i)):∀xs ys ids,eh f xs=some (ys,ids)->A ids->eh f2 xs=some (ys,ids):=by
 intro xs
 induction xs with
 |nil=>intro ys ids h _;simpa[eh]using h
 |cons x xs ih=>
  intro ys ids h hAi;simp only[eh]at h⊢;split at h
  ·rename_i hd;rw[if_pos hd];exact h
  ·rename_i hd;rw[if_neg hd];split at h
   ·rename_i y i1 zs i2 h1 h2;simp only[Option.some.injEq,Prod.mk.injEq]at h;obtain⟨rfl,rfl⟩:=h;obtain⟨a1,a2⟩:=hA _ _ hAi;rw[hf x y i1 h1 a1,ih zs i2 h2 a2]
   ·cases h
theorem Bi{H H2:al}:∀(n:Nat)(x y:PV)(ids:List Nat),settle n H x=some (y,ids)->(∀b,b∈ids->H2 b=H b)->settle n H2 x=some (y,ids):=by
 intro n
 induction n with
 |zero=>intro x y ids h _;simpa[settle]using h
 |succ n ih=>
  intro x y ids h hA;have hL:=fun xs ys ids=>Ei (f:=settle n H) (f2:=settle n H2) (A:=fun i=>∀b,b∈i->H2 b=H b)
   (fun i j h=>⟨fun b hb=>h b (List.mem_append_left _ hb),fun b hb=>h b (List.mem_append_right _ hb)⟩) ih xs ys ids
  simp only[settle]at h⊢;split at h
  ·rename_i hd;rw[if_pos hd];exact h
  ·rename_i hd;rw[if_neg hd];split at h
   ·rename_i b g len;cases hb:H b with
    |none=>simp[hb]at h
    |some c=>
     simp only[hb]at h;split at h
     ·rename_i hc;simp only[Option.map_eq_some_iff,Prod.mk.injEq]at h;obtain⟨⟨ys,i⟩,h1,rfl,rfl⟩:=h;have e:H2 b=some c:=(hA b (by simp)).trans hb;simp only[e,if_pos hc,hL _ _ _ h1 (fun b' eS=>hA b' (by simp[eS]))];rfl
     ·cases h
   ·rename_i b g off;cases hb:H b with
    |none=>simp[hb]at h
    |some c=>
     simp only[hb]at h;split at h
     ·rename_i hc;simp only[Option.map_eq_some_iff,Prod.mk.injEq]at h;obtain⟨⟨ys,i⟩,h1,rfl,rfl⟩:=h;have e:H2 b=some c:=(hA b (by simp)).trans hb;simp only[e,if_pos hc,hL _ _ _ h1 (fun b' eS=>hA b' (by simp[eS]))];rfl
     ·cases h
   ·simp only[Option.map_eq_some_iff,Prod.mk.injEq]at h;obtain⟨⟨ys,i⟩,h1,rfl,rfl⟩:=h;simp only[hL _ _ _ h1 hA];rfl
   ·simp only[Option.map_eq_some_iff,Prod.mk.injEq]at h;obtain⟨⟨ys,i⟩,h1,rfl,rfl⟩:=h;simp only[hL _ _ _ h1 hA];rfl
   ·simp only[Option.map_eq_some_iff,Prod.mk.injEq]at h;obtain⟨⟨ys,i⟩,h1,rfl,rfl⟩:=h;simp only[ih _ _ _ h1 hA];rfl
   ·cases h
theorem afh{H:al}{n:Nat}{x y:PV}{ids:List Nat}(h:settle n H x=some (y,ids)):∀b g l,y≠ .row b g l:=by
 rintro b g l rfl;cases n with
 |zero=>
  simp only[settle]at h;split at h
  ·rename_i hd;cases h;simp[aw]at hd
  ·cases h
 |succ n=>
  simp only[settle]at h;split at h
  ·rename_i hd;cases h;simp[aw]at hd
  ·split at h
   ·split at h
    ·split at h
     ·simp at h
     ·cases h
    ·cases h
   ·split at h
    ·split at h
     ·simp at h
     ·cases h
    ·cases h
   ·simp at h
   ·simp at h
   ·simp at h
   ·cases h
theorem OM{H H2:al}{s:Nat}{y:PV}(hy:∀b g l,y= .row b g l->H2 b=H b):gE H2 s y=gE H s y:=by
 cases y with
 |row b g l=>simp only[gE,hy b g l rfl]
 |_=>rfl
theorem afi{H H2:al}{n:Nat}{y:PV}(hy:∀b g o,y= .ptr b g o->H2 b=H b):kN H2 n y=kN H n y:=by
 cases y with
 |ptr b g o=>simp only[kN,hy b g o rfl]
 |_=>rfl
theorem afj{H H2:al}{id st e s b:Nat}{d y:PV}(hy:∀b g l,y≠ .row b g l)(hd:∀c g l,d= .row c g l->H2 c=H c):iU H2 id st e s b d y=iU H id st e s b d y:=by
 unfold iU;rw[OM (H:=H) (H2:=H2) (fun b g l h=>absurd h (hy b g l))];cases d with
 |row c g l=>simp only[hd c g l rfl]
 |_=>rfl
theorem ON{H H2:al}{ids:List Nat}{b:Nat}(h:H2 b=H b):(H2.drop ids) b=(H.drop ids) b:=by simp only[al.drop,h]
theorem afk{ev:bK->PV}{H H2:al}{id st:Nat}{k:K}(hk:wF k=false)(hR:∀b,b∈(bU ev H id k).1->H2 b=H b)(hW:∀b,b∈(bU ev H id k).2->H2 b=H b):cx ev H2 id st k=cx ev H id st k:=by
 cases k with
 |ld ag n x=>
  simp only[cx];rw[afi];intro b g o h;exact hR b (by simp[bU,h])
 |py x=>
  simp only[cx];have:gE H2 1 (ev x)=gE H 1 (ev x):=OM fun b g l h=>hR b (by simp[bU,h])
  cases hx:ev x<;>first|rfl|(rw[hx]at this;simp only[this])
 |st n x v=>
  simp only[cx,wg];cases hx:ev x with
  |ptr b g o=>
   have:=hW b (by simp[bU,hx]);cases hv:cellsOf (ev v)with
   |none=>rfl
   |some vs=>simp only[this]
  |_=>rfl
 |app=>cases hk
 |call=>rfl
 |m7=>rfl
 |_=>rfl
def lx(W:List Nat)(H1 H2:al):al:=fun b=>if b∈W then H1 b else H2 b
theorem OO{H H2:al}{up:mr}{W:List Nat}(hW:∀b,b∈W->H2 b=H b)(hu:∀b c,up=some (b,c)->b∈W):H2.fK up=lx W (H.fK up) H2:=by
 funext x;cases up with
 |none=>
  simp only[al.fK,lx];split
  ·rename_i h;exact hW x h
  ·rfl
 |some p=>
  obtain⟨b,c⟩:=p;have:=hu b c rfl;simp only[al.fK,lx];by_cases e:x=b
  ·subst e;rw[if_pos this,al.fT,al.fT]
  ·rw[al.gh _ _ e,al.gh _ _ e];split
   ·rename_i h;exact hW x h
   ·rfl
theorem IC{H H2:al}{up:mr}{W ids:List Nat}(hW:∀b,b∈W->H2 b=H b)(hi:∀b,b∈ids->b∈W)(hu:∀b c,up=some (b,c)->b∈W):(H2.drop ids).fK up=lx W ((H.drop ids).fK up) H2:=by
 rw[OO (H:=H.drop ids) (W:=W) (fun b hb=>ON (hW b hb)) hu];funext x;simp only[lx];split
 ·rfl
 ·rename_i h;simp only[al.drop];rw[if_neg (fun h'=>h (hi x h'))]
theorem OP{bJ:aS}{H H2:al}{f:Nat}{args:List PV}{r:PV}{H1:al}(hW:∀b,b∈jj H args->H2 b=H b)(h:lh bJ H f args=some (r,H1)):
 lh bJ H2 f args=some (r,lx (jj H args) H1 H2)/\jj H2 args=jj H args:=by
 have hL:=fun xs ys ids=>Ei (f:=settle depth H) (f2:=settle depth H2) (A:=fun i=>∀b,b∈i->H2 b=H b)
  (fun i j h=>⟨fun b hb=>h b (List.mem_append_left _ hb),fun b hb=>h b (List.mem_append_right _ hb)⟩) (Bi depth) xs ys ids
 unfold lh at h;split at h
 ·rename_i b g rest;split at h
  ·rename_i c ys ids hb eC;have hWe:jj H (.ptr b g 0::rest)=b::ids:=by simp only[jj,eC,Option.map_some,Option.getD_some]
   rw[hWe]at hW⊢;have fD:H2 b=some c:=(hW b (by simp)).trans hb;have fW:=hL _ _ _ eC (fun x hx=>hW x (by simp[hx]));refine⟨?_,by simp only[jj,fW,Option.map_some,Option.getD_some]⟩;simp only[lh,fD,fW];split at h
   ·rename_i hc;rw[if_pos hc];simp only[Option.bind_eq_some_iff]at h;obtain⟨⟨r',cells⟩,pB,h⟩:=h;split at h
    ·rename_i ew;simp only[Option.some.injEq,Prod.mk.injEq]at h;obtain⟨rfl,rfl⟩:=h;simp only[pB,Option.bind_some,if_pos ew,Option.some.injEq,Prod.mk.injEq,true_and];exact IC (up:=some (b,⟨c.e,c.gen,cells,c.s⟩)) hW (fun x hx=>by simp[hx]) (fun b' c' h=>by cases h;simp)
    ·cases h
   ·cases h
  ·cases h
 ·rename_i dW;have e1:∀H,jj H args=((eh (settle depth H) args).map (·.2)).getD []:=by
   intro H;unfold jj;split
   ·rename_i b g rest;exact absurd rfl (dW b g rest)
   ·rfl
  have e2:∀H,lh bJ H f args=match eh (settle depth H) args with
   |some (ys,ids)=>(bJ f ys none).map fun r=>(r.1,H.drop ids)
   |none=>none:=by
   intro H;unfold lh;split
   ·rename_i b g rest;exact absurd rfl (dW b g rest)
   ·rfl
  rw[e1]at hW;rw[e1,e1,e2];split at h
  ·rename_i ys ids eC;rw[eC]at hW⊢;simp only[Option.map_some,Option.getD_some]at hW⊢;have fW:=hL _ _ _ eC (fun x hx=>hW x hx);simp only[Option.map_eq_some_iff,Prod.mk.injEq]at h;obtain⟨⟨r',cells⟩,pB,rfl,rfl⟩:=h;simp only[fW,pB,Option.map_some,Option.some.injEq,Prod.mk.injEq,true_and,Option.getD_some,and_true];exact IC (up:=none) hW (fun x hx=>hx) (fun b' c' h=>by cases h)
  ·cases h
theorem OQ{bJ:aS}{H H2:al}{f:Nat}{args:List PV}{r:PV}{H1:al}(eT:lj f=true)(hW:∀b,b∈jj H args->H2 b=H b)(h:lK bJ H f args=some (r,H1)):
 lK bJ H2 f args=some (r,H2)/\jj H2 args=jj H args:=by
 unfold lK at h⊢;rw[if_pos eT]at h⊢;obtain⟨rfl,h0⟩:=OA h;obtain⟨h1,h2⟩:=OP hW h0;refine⟨?_,h2⟩;have hm:lx (jj H1 args) H1 H2=H2:=by
  funext b;simp only[lx];split
  ·rename_i hb;exact(hW b hb).symm
  ·rfl
 rw[hm]at h1;unfold zh at h⊢;split at h
 ·rename_i b g rest;split at h
  ·rename_i r1 H1' c ys e1 e2 e3;have fD:H2 b=some c:=(hW b (by simp[jj])).trans e2;have fW:=Ei (f:=settle depth H1) (f2:=settle depth H2) (A:=fun i=>∀b,b∈i->H2 b=H1 b) (fun i j h=>⟨fun b hb=>h b (List.mem_append_left _ hb),fun b hb=>h b (List.mem_append_right _ hb)⟩) (Bi depth) _ _ _ e3 (fun x hx=>by cases hx);split at h
   ·rename_i c1 e4;split at h
    ·rename_i he;simp only[h1,fD,fW];have:wB c.cells c.cells=true:=by
      rw[e1]at h0;simp only[Option.some.injEq,Prod.mk.injEq]at h0;obtain⟨_,rfl⟩:=h0;rw[e2]at e4;simp only[Option.some.injEq]at e4;rw[e4]at he⊢;rw[<-e4]at he;rw[<-e4];exact he
     rw[if_pos this];first
      |done
      |(simp only[Option.some.injEq,Prod.mk.injEq]at h;rw[h.1])
    ·cases h
   ·cases h
  ·cases h
 ·cases h
theorem OR{bJ:aS}{H H2:al}{f:Nat}{args:List PV}{r:PV}{H1:al}(eT:¬lj f=true)(hW:∀b,b∈jj H args->H2 b=H b)(h:lK bJ H f args=some (r,H1)):
 lK bJ H2 f args=some (r,lx (jj H args) H1 H2)/\jj H2 args=jj H args:=by
 unfold lK at h⊢;rw[if_neg eT]at h⊢;exact OP hW h
theorem afm{bJ:aS}{ev:bK->PV}{H H2:al}{id st:Nat}{k:K}{r:PV}{H1:al}(hv:kV k=false)(hR:∀b,b∈(bU ev H id k).1->H2 b=H b)(hW:∀b,b∈(bU ev H id k).2->H2 b=H b)
 (h:gW bJ ev H id st k=some (r,H1)):gW bJ ev H2 id st k=some (r,lx (bU ev H id k).2 H1 H2):=by
 by_cases hk:wF k=true
 ·cases k with
  |app e s b d x=>
   simp only[gW,runK]at h⊢;cases eC:settle depth H (ev x)with
   |none=>simp[eC]at h
   |some yi=>
    obtain⟨y,ids⟩:=yi;have hf:(bU ev H id (.app e s b d x)).2=(match ev d with| .row b _ _=>[b]|_=>[id])++ids:=by cases hh:ev d<;>simp[bU,eC,hh]
    rw[hf]at hW⊢;have fW:=Bi (H2:=H2) depth _ _ _ eC (fun b hb=>hW b (List.mem_append_right _ hb));simp only[eC,Option.map_eq_some_iff,Prod.mk.injEq]at h;obtain⟨⟨v,up⟩,wG,rfl,rfl⟩:=h;have pF:iU (H2.drop ids) id st e s b (ev d) y=some (v,up):=by
     rw[<-wG];exact afj (afh eC) fun c g l hd=>ON (hW c (by simp[hd]))
    simp only[fW,pF,Option.map_some,Option.some.injEq,Prod.mk.injEq,true_and];exact IC hW (fun b hb=>List.mem_append_right _ hb) (fun b' c' h=>by
     subst h;exact List.mem_append_left _ (OI wG).2)
  |call f as=>
   by_cases eT:lj f=true
   ·have hf:bU ev H id (.call f as)=(jj H (as.map ev),[]):=by simp only[bU,if_pos eT]
    rw[hf]at hR⊢;have e1:lx [] H1 H2=H2:=by funext b;simp[lx]
    rw[e1];exact(OQ eT hR h).1
   ·have hf:bU ev H id (.call f as)=([],jj H (as.map ev)):=by simp only[bU,if_neg eT]
    rw[hf]at hW⊢;exact(OR eT hW h).1
  |m7=>cases hv
  |_=>cases hk
 ·have qx:wF k=false:=by simpa using hk
  have h':(cx ev H id st k).map (fun r=>(r.1,H.fK r.2))=some (r,H1):=by cases k<;>first|exact h|cases qx
  have g':∀H,gW bJ ev H id st k=(cx ev H id st k).map (fun r=>(r.1,H.fK r.2)):=by intro H;cases k<;>first|rfl|cases qx
  rw[g',afk qx hR hW];simp only[Option.map_eq_some_iff,Prod.mk.injEq]at h'⊢;obtain⟨⟨v,up⟩,nV,rfl,rfl⟩:=h';exact⟨(v,up),nV,rfl,OO hW (fun b c hu=>by subst hu;exact(OJ qx nV).1)⟩
theorem afn{ev:bK->PV}{H H2:al}{id st:Nat}{k:K}{bJ:aS}{r:PV}{H1:al}(hv:kV k=false)(hR:∀b,b∈(bU ev H id k).1->H2 b=H b)(hW:∀b,b∈(bU ev H id k).2->H2 b=H b)
 (h:gW bJ ev H id st k=some (r,H1)):bU ev H2 id k=bU ev H id k:=by
 have hL:=fun xs ys ids=>Ei (f:=settle depth H) (f2:=settle depth H2) (A:=fun i=>∀b,b∈i->H2 b=H b)
  (fun i j h=>⟨fun b hb=>h b (List.mem_append_left _ hb),fun b hb=>h b (List.mem_append_right _ hb)⟩) (Bi depth) xs ys ids
 cases k with
 |app e s b d x=>
  simp only[gW,runK]at h;cases eC:settle depth H (ev x)with
  |none=>simp[eC]at h
  |some yi=>
   obtain⟨y,ids⟩:=yi;have hf:(bU ev H id (.app e s b d x)).2=(match ev d with| .row b _ _=>[b]|_=>[id])++ids:=by cases hh:ev d<;>simp[bU,eC,hh]
   rw[hf]at hW;have fW:=Bi (H2:=H2) depth _ _ _ eC (fun b hb=>hW b (List.mem_append_right _ hb));simp only[bU,eC,fW]
 |call f as=>
  by_cases eT:lj f=true
  ·have hf:bU ev H id (.call f as)=(jj H (as.map ev),[]):=by simp only[bU,if_pos eT]
   rw[hf]at hR;simp only[bU,if_pos eT,(OQ (H2:=H2) eT hR h).2]
  ·have hf:bU ev H id (.call f as)=([],jj H (as.map ev)):=by simp only[bU,if_neg eT]
   rw[hf]at hW;simp only[bU,if_neg eT,(OR (H2:=H2) eT hW h).2]
 |m7=>cases hv
 |_=>rfl
theorem afo{bJ:aS}{ev sV:bK->PV}{H:al}{id st:Nat}{k:K}(h:∀y,y∈qv k->sV y=ev y):gW bJ sV H id st k=gW bJ ev H id st k/\bU sV H id k=bU ev H id k:=by
 have OS:∀ps:List (Nat×Nat×bK),(∀y,y∈ps.map (·.2.2)->sV y=ev y)->ps.map (fun p=>(p.1,p.2.1,sV p.2.2))=ps.map (fun p=>(p.1,p.2.1,ev p.2.2)):=fun ps h=>
  List.map_congr_left fun p hp=>by rw[h p.2.2 (List.mem_map.2 ⟨p,hp,rfl⟩)]
 have Ej:∀as:List bK,(∀y,y∈as->sV y=ev y)->as.map sV=as.map ev:=fun as h=>List.map_congr_left fun y hy=>h y hy
 have Ek:∀d(o:Option bK),(∀y,y∈o.toList->sV y=ev y)->jh d sV o=jh d ev o:=by
  intro d o h;cases o with
  |none=>rfl
  |some x=>simp only[jh,h x (by simp)]
 cases k with
 |build z ps=>simp only[qv]at h;simp only[gW,runK,cx,bU,OS ps h,and_self]
 |bh e s l z ps=>simp only[qv]at h;simp only[gW,runK,cx,bU,OS ps h,and_self]
 |wa f as bs=>simp only[qv]at h;simp only[gW,runK,cx,bU,Ej as (fun y hy=>h y (by simp[hy])),Ej bs (fun y hy=>h y (by simp[hy])),and_self]
 |call f as=>simp only[qv]at h;simp only[gW,bU,Ej as h,and_self]
 |m7 f as=>simp only[qv]at h;simp only[gW,bU,Ej as (fun y hy=>h y (by simp[hy])),h f (by simp),and_self]
 |jF x lo hi=>simp only[qv]at h;simp only[gW,runK,cx,bU,h x (by simp),Ek _ lo (fun y hy=>h y (by simp only[List.mem_cons,List.mem_append];exact .inr (.inl hy))),Ek _ hi (fun y hy=>h y (by simp only[List.mem_cons,List.mem_append];exact .inr (.inr hy))),and_self]
 |kj s x lo hi=>simp only[qv]at h;simp only[gW,runK,cx,bU,h x (by simp),Ek _ lo (fun y hy=>h y (by simp only[List.mem_cons,List.mem_append];exact .inr (.inl hy))),Ek _ hi (fun y hy=>h y (by simp only[List.mem_cons,List.mem_append];exact .inr (.inr hy))),and_self]
 |new e z=>exact⟨rfl,rfl⟩
 |_=>simp only[qv,List.mem_cons,List.not_mem_nil,or_false,forall_eq_or_imp,forall_eq]at h;simp only[gW,runK,cx,bU,h,and_self]
end Go.Pi
end
section
namespace Go.Pi
open Go.RowKit
structure afp(P:Program)(aT:World)(N:Nat)(E0:Env)(wi:World)(U:Nat->Nat->Prop)(s:St)(a:Act)(w:World)(E:Env):Prop where
 inv:Inv P aT E w
 heap:E.H=s.H
 oT:∀x,bD E (s.t x) (a.tmps.getD x undef)
 size:a.tmps.size=N
 defers:a.defers=[]
 used:∀b g,E.K b g->U b g
 ext:Ext E0 wi E w
def Rel(P:Program)(aT:World)(N:Nat)(E0:Env)(wi:World)(U:Nat->Nat->Prop)(s:St)(a:Act)(w:World):Prop:=∃E,afp P aT N E0 wi U s a w E
theorem afq{ev:bK->PV}{H:al}{id:Nat}{k:K}(h:zi k=true):id∈(bU ev H id k).2:=by
 cases k<;>first|(cases h;done)|simp[bU]
theorem OT{a:Act}{d:Option Nat}{z:Value}{t:Nat->PV}{v:PV}{E:Env}{N:Nat}(hN:a.tmps.size=N)(hd:∀x,d=some x->x<N)(hs:∀x,bD E (t x) (a.tmps.getD x undef))(hz:bD E v z):
 (∀x,bD E (put t d v x) ((a.put d z).tmps.getD x undef))/\(a.put d z).tmps.size=N/\(a.put d z).defers=a.defers:=by
 cases d with
 |none=>exact⟨hs,hN,rfl⟩
 |some d=>
  have cE:=hd d rfl;refine⟨fun x=>?_,by simpa[Act.put]using hN,rfl⟩;simp only[put,Act.put];by_cases e:x=d
  ·subst e;rw[if_pos rfl];have:(a.tmps.setIfInBounds x z).getD x undef=z:=by
    simp[Array.getD,hN,cE]
   rw[this];exact hz
  ·rw[if_neg e];have:(a.tmps.setIfInBounds d z).getD x undef=a.tmps.getD x undef:=by
    simp[Array.getD_eq_getD_getElem?,Array.getElem?_setIfInBounds_ne (Ne.symm e)]
   rw[this];exact hs x
section
variable{P:Program}{aT:World}{N:Nat}{E0:Env}{wi:World}
theorem afr{ops:Array Oper}{rid i:Nat}{o:Oper}{x:XO}(h:wD P N ops rid i o=some x):
 eE P o=some x.k/\x.dst=o.dst/\(∀d,o.dst=some d->d<N)/\x.id=1+rid*1000+i/\
  ((o.guard=none/\x.gd=none)\/∃j eZ d,o.guard=some (j,eZ)/\(ops[j]?).bind (·.dst)=some d/\x.gd=some (d,eZ)):=by
 have Bj:∀k El,(match o.dst with|some d=>if d<N then some (⟨o.dst,El,1+rid*1000+i,k⟩:XO)else none|none=>some ⟨o.dst,El,1+rid*1000+i,k⟩)=some x->
  x=⟨o.dst,El,1+rid*1000+i,k⟩/\∀d,o.dst=some d->d<N:=by
  intro k El h;cases hd:o.dst with
  |none=>rw[hd]at h;simp only[Option.some.injEq]at h;exact⟨h.symm,fun d h=>by cases h⟩
  |some d=>
   rw[hd]at h;simp only at h;split at h
   ·rename_i cE;simp only[Option.some.injEq]at h;exact⟨h.symm,fun d' h=>by cases h;exact cE⟩
   ·cases h
 simp only[wD,bind,Option.bind_eq_some_iff]at h;obtain⟨k,hk,h⟩:=h;cases hg:o.guard with
 |none=>
  rw[hg]at h;simp only[Option.bind_some]at h;obtain⟨rfl,h2⟩:=Bj _ _ h;exact⟨hk,rfl,h2,rfl,.inl ⟨rfl,rfl⟩⟩
 |some p=>
  obtain⟨j,eZ⟩:=p;rw[hg]at h;simp only at h;cases hd:(ops[j]?).bind (·.dst)with
  |none=>rw[hd]at h;simp at h
  |some d=>
   rw[hd]at h;simp only[Option.bind_some]at h;obtain⟨rfl,h2⟩:=Bj _ _ h;exact⟨hk,rfl,h2,rfl,.inr ⟨j,eZ,d,rfl,hd,rfl⟩⟩
theorem OU{bJ:aS}(hS:ic P aT bJ){G:Nat->PV}(hG:pD aT G){ops:Array Oper}{rid i:Nat}{o:Oper}{x:XO}(hx:wD P N ops rid i o=some x)(ho:ops[i]?=some o)
 {U:Nat->Nat->Prop}{s s':St}{a:Act}{w:World}(ID:Rel P aT N E0 wi U s a w)(hU:∀b,b∈(ed G x s).2->∀g,s.n+i<=g->¬U b g)(bC:gS bJ G i x s=some s')
 {Q:Exit->Act->World->Prop}{K:Act->World->Prop}(hK:∀a' w',Rel P aT N E0 wi (fun b g=>U b g\/(g=s.n+i/\b∈(ed G x s).2)) s' a' w'->K a' w'):wpOp P ops Q i K a w:=by
 obtain⟨hk,OV,OW,kn,bP⟩:=afr hx;obtain⟨E,hr⟩:=ID;have hHs:=hr.heap;have uW:∀r,(gW bJ (ev G s.t) s.H x.id (s.n+i) x.k).map (fun r=>(⟨put s.t x.dst r.1,r.2,s.n⟩:St))=some r->r=s'->ed G x s=bU (ev G s.t) s.H x.id x.k->o.wp P a w K Q:=by
  intro r h hrs wI;rw[wI]at hU hK;subst hrs;simp only[Option.map_eq_some_iff]at h;obtain⟨⟨v,H'⟩,h1,h2⟩:=h;subst h2;rw[<-hHs]at h1 hU hK;refine afb hS hG hk hr.inv hr.oT (fun b hb g hg uV=>hU b hb g hg (hr.used b g uV)) (fun hn g hg uV=>hU _ (afq hn) g hg (hr.used _ g uV)) h1 ?_;intro z E' w' bG;obtain⟨h3,h4,h5⟩:=OT (E:=E') (v:=v) (z:=z) (d:=o.dst) hr.size OW (fun y=>(hr.oT y).mono bG.ext.le) bG.pC;refine hK _ _ ⟨E',bG.inv,bG.heap,?_,h4,h5.trans hr.defers,fun b g h=>?_,hr.ext.trans bG.ext⟩
  ·intro y;rw[OV];exact h3 y
  ·rcases bG.used b g h with h|h
   ·exact .inl (hr.used b g h)
   ·exact .inr h
 have Bk:s'=⟨put s.t x.dst (.bZ []),s.H,s.n⟩->K (a.put o.dst undef) w:=by
  rintro rfl;obtain⟨h3,h4,h5⟩:=OT (E:=E) (v:= .bZ []) (z:=undef) (d:=o.dst) hr.size OW hr.oT (.bZ [] [] rfl fun i hi=>absurd hi (by simp));refine hK _ _ ⟨E,hr.inv,hr.heap,?_,h4,h5.trans hr.defers,fun b g h=> .inl (hr.used b g h),hr.ext⟩;intro y;rw[OV];exact h3 y
 unfold wpOp;simp only[ho];rcases bP with⟨hg,Bl⟩|⟨j,eZ,d,hg,hjd,Bl⟩
 ·have hw:Region.wanted o (yielded ops a.tmps)=true:=by simp[Region.wanted,hg]
  rw[if_pos hw];unfold gS at bC;rw[Bl]at bC;exact .inl (uW _ bC rfl (by simp only[ed,Bl]))
 ·have hy:yielded ops a.tmps j=match a.tmps[d]? with|some (.bool b)=>some b|_=>none:=by
   simp only[yielded,hjd,Option.bind_some];rfl
  have hw:Region.wanted o (yielded ops a.tmps)=((match a.tmps[d]? with|some (.bool b)=>some b|_=>none)==some eZ):=by simp only[Region.wanted,hg,hy]
  have wJ:=hr.oT d;have qp:a.tmps.getD d undef=(a.tmps[d]?).getD undef:=by simp[Array.getD_eq_getD_getElem?]
  rw[qp]at wJ;unfold gS at bC;rw[Bl]at bC;simp only at bC;split at bC
  ·rename_i b hb;rw[hb]at wJ;have IE:a.tmps[d]?=some (.bool b):=by
    generalize hz:(a.tmps[d]?).getD undef=z at wJ;cases wJ;cases hq:a.tmps[d]? with
    |none=>rw[hq]at hz;simp[undef]at hz
    |some q=>rw[hq]at hz;simp at hz;rw[hz]
   rw[IE]at hw;split at bC
   ·rename_i lM;rw[if_pos (by rw[hw,lM];simp)];exact .inl (uW _ bC rfl (by simp only[ed,Bl,hb,if_pos lM]))
   ·rename_i lM;rw[if_neg (by rw[hw];simp[lM])];simp only[Option.some.injEq]at bC;exact Bk bC.symm
  ·rename_i l hb;rw[hb]at wJ;have IE:(match a.tmps[d]? with|some (.bool b)=>some b|_=>none)=(none:Option Bool):=by
    generalize hz:(a.tmps[d]?).getD undef=z at wJ;cases wJ;cases hq:a.tmps[d]? with
    |none=>rfl
    |some q=>rw[hq]at hz;simp at hz;subst hz;rfl
   rw[IE]at hw;rw[if_neg (by rw[hw];simp)];simp only[Option.some.injEq]at bC;exact Bk bC.symm
  ·cases bC
def UB(n i:Nat):Nat->Nat->Prop:=fun _ g=>g<n+i
theorem OX{ops:Array Oper}{rid:Nat}:∀(l:List Oper)(i:Nat)(xs:List XO),qu P N ops rid i l=some xs->xs.length=l.length/\∀j o,l[j]?=some o->∃x,xs[j]?=some x/\wD P N ops rid (i+j) o=some x:=by
 intro l
 induction l with
 |nil=>intro i xs h;simp only[qu,Option.some.injEq]at h;subst h;exact⟨rfl,fun j o h=>by simp at h⟩
 |cons o l ih=>
  intro i xs h;simp only[qu,bind,Option.bind_eq_some_iff,Option.some.injEq]at h;obtain⟨x,hx,ys,dY,rfl⟩:=h;obtain⟨h1,h2⟩:=ih (i+1) ys dY;refine⟨by simp[h1],fun j o' hj=>?_⟩;cases j with
  |zero=>simp only[List.getElem?_cons_zero,Option.some.injEq]at hj;subst hj;exact⟨x,rfl,hx⟩
  |succ j=>
   simp only[List.getElem?_cons_succ]at hj;obtain⟨y,hy,hc⟩:=h2 j o' hj;exact⟨y,hy,by rw[show i+(j+1)=i+1+j by omega];exact hc⟩
theorem OY{bJ:aS}{G:Nat->PV}{i:Nat}{x:XO}{s s':St}(h:gS bJ G i x s=some s'):s'.n=s.n:=by
 unfold gS at h;split at h
 ·simp only[Option.map_eq_some_iff]at h;obtain⟨_,_,rfl⟩:=h;rfl
 ·split at h
  ·split at h
   ·simp only[Option.map_eq_some_iff]at h;obtain⟨_,_,rfl⟩:=h;rfl
   ·cases h;rfl
  ·cases h;rfl
  ·cases h
theorem afw{bJ:aS}(hS:ic P aT bJ){G:Nat->PV}(hG:pD aT G){ops:Array Oper}{rid:Nat}{Q:Exit->Act->World->Prop}:∀(m i:Nat)(xs:List XO),i+m=ops.size->
 qu P N ops rid i (ops.toList.drop i)=some xs->∀{s s':St}{a:Act}{w:World},Rel P aT N E0 wi (UB s.n i) s a w->qt bJ G i xs s=some s'->
 (∀a' w',s'.n=s.n->Rel P aT N E0 wi (UB s.n ops.size) s' a' w'->Q .normal a' w')->wpOps P ops Q (List.range' i m) a w:=by
 intro m
 induction m with
 |zero=>
  intro i xs hi hc s s' a w hr bC hQ;rw[List.drop_eq_nil_of_le (by simp;omega)]at hc;simp only[qu,Option.some.injEq]at hc;subst hc;simp only[qt,Option.some.injEq]at bC;subst bC;simp only[List.range'_zero,wpOps];refine hQ _ _ rfl ?_;have:i=ops.size:=by omega
  subst this;exact hr
 |succ m ih=>
  intro i xs hi hc s s' a w hr bC hQ;have cE:i<ops.toList.length:=by simp;omega
  rw[List.drop_eq_getElem_cons cE]at hc;simp only[qu,bind,Option.bind_eq_some_iff,Option.some.injEq]at hc;obtain⟨x,hx,ys,dY,rfl⟩:=hc;simp only[qt,Option.bind_eq_some_iff]at bC;obtain⟨s1,h1,h2⟩:=bC;have hn:=OY h1;have ho:ops[i]?=some ops.toList[i]:=by simp[Array.getElem?_eq_getElem (show i<ops.size by simpa using cE)]
  rw[List.range'_succ,wpOps_cons];refine OU hS hG hx ho hr (fun b _ g hg hu=>by have:g<s.n+i:=hu;omega) h1 ?_;intro a' w' ko;refine ih (i+1) ys (by omega) dY (s:=s1) (s':=s') ?_ h2 ?_
  ·obtain⟨E,ko⟩:=ko;refine⟨E,ko.inv,ko.heap,ko.oT,ko.size,ko.defers,fun b g h=>?_,ko.ext⟩;have:=ko.used b g h;show g<s1.n+(i+1);rcases this with h|⟨h,_⟩
   ·have:g<s.n+i:=h;omega
   ·omega
  ·intro a'' w'' IF afz;exact hQ a'' w'' (IF.trans hn) (by rw[<-hn];exact afz)
end
end Go.Pi
end
section
namespace Go.Pi
open Go.RowKit
theorem afA{G:Nat->PV}{t t2:Nat->PV}{x:XO}(ht:∀y,y∈looks x->t2 y=t y):∀y,y∈qv x.k->ev G t2 y=ev G t y:=by
 intro y hy;cases y with
 |t n=>exact ht n (List.mem_append_left _ (List.mem_filterMap.2 ⟨_,hy,rfl⟩))
 |_=>rfl
theorem OZ{bJ:aS}{G:Nat->PV}{i:Nat}{x:XO}{s s':St}(hv:kV x.k=false)(h:gS bJ G i x s=some s'){t2:Nat->PV}{H2:al}(ht:∀y,y∈looks x->t2 y=s.t y)
 (hR:∀b,b∈(ed G x s).1->H2 b=s.H b)(hW:∀b,b∈(ed G x s).2->H2 b=s.H b):
 gS bJ G i x ⟨t2,H2,s.n⟩=some ⟨fun y=>if x.dst=some y then s'.t y else t2 y,lx (ed G x s).2 s'.H H2,s.n⟩/\ed G x ⟨t2,H2,s.n⟩=ed G x s:=by
 have cF:=afA (G:=G) ht;have O0:∀v,put t2 x.dst v=fun y=>if x.dst=some y then put s.t x.dst v y else t2 y:=by
  intro v;funext y;cases hd:x.dst with
  |none=>simp[put]
  |some d=>
   simp only[put,Option.some.injEq];by_cases e:y=d
   ·subst e;simp
   ·rw[if_neg e,if_neg (fun h=>e h.symm)]
 have uW:(gW bJ (ev G s.t) s.H x.id (s.n+i) x.k).map (fun r=>(⟨put s.t x.dst r.1,r.2,s.n⟩:St))=some s'->ed G x s=bU (ev G s.t) s.H x.id x.k->
  (gW bJ (ev G t2) H2 x.id (s.n+i) x.k).map (fun r=>(⟨put t2 x.dst r.1,r.2,s.n⟩:St))=some ⟨fun y=>if x.dst=some y then s'.t y else t2 y,lx (ed G x s).2 s'.H H2,s.n⟩/\bU (ev G t2) H2 x.id x.k=ed G x s:=by
  intro h hf;rw[hf]at hR hW⊢;simp only[Option.map_eq_some_iff]at h;obtain⟨⟨v,H1⟩,h1,rfl⟩:=h;obtain⟨e1,e2⟩:=afo (bJ:=bJ) (H:=H2) (id:=x.id) (st:=s.n+i) cF;rw[e1,e2,afm hv hR hW h1,afn hv hR hW h1];refine⟨?_,rfl⟩;simp only[Option.map_some,O0]
 have Bk:s'=⟨put s.t x.dst (.bZ []),s.H,s.n⟩->ed G x s=([],[])->some (⟨put t2 x.dst (.bZ []),H2,s.n⟩:St)=some ⟨fun y=>if x.dst=some y then s'.t y else t2 y,lx (ed G x s).2 s'.H H2,s.n⟩:=by
  intro h hf;subst h;rw[hf,O0];have:lx [] s.H H2=H2:=by funext b;simp[lx]
  simp only[this]
 unfold gS at h⊢;cases hg:x.gd with
 |none=>
  rw[hg]at h;have hf:ed G x s=bU (ev G s.t) s.H x.id x.k:=by simp only[ed,hg]
  obtain⟨h1,h2⟩:=uW h hf;exact⟨h1,by rw[<-h2];simp only[ed,hg]⟩
 |some p=>
  obtain⟨g,eZ⟩:=p;rw[hg]at h;simp only at h⊢;have rv:t2 g=s.t g:=ht g (by simp[looks,hg]);rw[rv];cases hb:s.t g with
  |bool b=>
   simp only[hb]at h⊢;by_cases lM:b=eZ
   ·rw[if_pos lM]at h⊢;have hf:ed G x s=bU (ev G s.t) s.H x.id x.k:=by simp only[ed,hg,hb,if_pos lM]
    obtain⟨h1,h2⟩:=uW h hf;exact⟨h1,by rw[<-h2];simp only[ed,hg,rv,hb,if_pos lM]⟩
   ·rw[if_neg lM]at h⊢;have hf:ed G x s=([],[]):=by simp only[ed,hg,hb,if_neg lM]
    simp only[Option.some.injEq]at h;exact⟨Bk h.symm hf,by rw[hf];simp only[ed,hg,rv,hb,if_neg lM]⟩
  |bZ l=>
   simp only[hb]at h⊢;have hf:ed G x s=([],[]):=by simp only[ed,hg,hb]
   simp only[Option.some.injEq]at h;exact⟨Bk h.symm hf,by rw[hf];simp only[ed,hg,rv,hb]⟩
  |_=>simp[hb]at h
theorem afB{bJ:aS}{G:Nat->PV}{i:Nat}{x:XO}{s s':St}(hv:kV x.k=false)(h:gS bJ G i x s=some s'):
 (∀y,x.dst≠some y->s'.t y=s.t y)/\∀b,b∉(ed G x s).2->s'.H b=s.H b:=by
 have h1:=(OZ hv h (t2:=s.t) (H2:=s.H) (fun _ _=>rfl) (fun _ _=>rfl) (fun _ _=>rfl)).1;rw[show(⟨s.t,s.H,s.n⟩:St)=s from rfl,h,Option.some.injEq]at h1;constructor
 ·intro y hy;have:=congrArg (fun z=>St.t z y) h1;simp only[if_neg hy]at this;exact this
 ·intro b hb;have:=congrArg (fun z=>St.H z b) h1;simp only[lx,if_neg hb]at this;exact this
def last(p:Nat->Bool):Nat->Nat
 |0=>0
 |n+1=>if p n then n+1 else last p n
theorem Em{p q:Nat->Bool}:∀{n:Nat},(∀i,i<n->p i=q i)->last p n=last q n:=by
 intro n
 induction n with
 |zero=>intro _;rfl
 |succ n ih=>intro h;simp only[last,h n (by omega),ih fun i hi=>h i (by omega)]
theorem En{p:Nat->Bool}{j:Nat}:∀{m:Nat},j<=m->(∀i,j<=i->i<m->p i=false)->last p m=last p j:=by
 intro m
 induction m with
 |zero=>intro h _;have:j=0:=by omega
        subst this;rfl
 |succ m ih=>
  intro h hp;by_cases e:j=m+1
  ·subst e;rfl
  ·simp only[last,hp m (by omega) (by omega)];exact ih (by omega) fun i h1 h2=>hp i h1 (by omega)
theorem Eo{α:Type}{p:Nat->Bool}{f:Nat->α}:∀{n:Nat},(∀i,i<n->p i=false->f (i+1)=f i)->f (last p n)=f n:=by
 intro n
 induction n with
 |zero=>intro _;rfl
 |succ n ih=>
  intro h;simp only[last];split
  ·rfl
  ·rename_i hp;rw[ih fun i hi=>h i (by omega),h n (by omega) (by simpa using hp)]
theorem afC{bJ:aS}{G:Nat->PV}:∀(xs:List XO)(i:Nat)(s sE:St)(ft:List (List Nat×List Nat)),nh bJ G i xs s=some (sE,ft)->
 ∃S:Nat->St,S 0=s/\S xs.length=sE/\ft.length=xs.length/\∀j x,xs[j]?=some x->gS bJ G (i+j) x (S j)=some (S (j+1))/\ft[j]?=some (ed G x (S j)):=by
 intro xs
 induction xs with
 |nil=>
  intro i s sE ft h;simp only[nh,Option.some.injEq,Prod.mk.injEq]at h;obtain⟨rfl,rfl⟩:=h;exact⟨fun _=>s,rfl,rfl,rfl,fun j x h=>by simp at h⟩
 |cons x xs ih=>
  intro i s sE ft h;simp only[nh]at h;split at h
  ·rename_i s' eA;simp only[Option.map_eq_some_iff,Prod.mk.injEq]at h;obtain⟨⟨sE',ft'⟩,h1,rfl,rfl⟩:=h;obtain⟨S,h0,hE,hl,hS⟩:=ih (i+1) s' sE' ft' h1;refine⟨fun j=>match j with|0=>s|j+1=>S j,rfl,hE,by simp[hl],fun j y hj=>?_⟩;cases j with
   |zero=>
    simp only[List.getElem?_cons_zero,Option.some.injEq]at hj;subst hj;exact⟨by simp only[h0];exact eA,rfl⟩
   |succ j=>
    simp only[List.getElem?_cons_succ]at hj⊢;rw[show i+(j+1)=i+1+j by omega];exact hS j y hj
  ·cases h
theorem IG{bJ:aS}{G:Nat->PV}{xs:List XO}{S:Nat->St}(h:∀j x,xs[j]?=some x->gS bJ G j x (S j)=some (S (j+1))):∀j,j<=xs.length->(S j).n=(S 0).n:=by
 intro j
 induction j with
 |zero=>intro _;rfl
 |succ j ih=>
  intro hj;rw[OY (h j xs[j] (by simp)),ih (by omega)]
theorem IH{a b:List Nat}(h:wC a b=true):∀x,x∈a->x∉b:=by
 intro x hx;simp only[wC,List.all_eq_true,Bool.not_eq_true',List.contains_eq_mem,decide_eq_false_iff_not]at h;exact h x hx
theorem II{G:Nat->PV}{x:XO}{s:St}(h:kW x.k=false):(ed G x s).2=[]:=by
 have:∀ev H id,kW x.k=false->(bU ev H id x.k).2=[]:=by
  intro ev H id h;cases hk:x.k<;>first
   |(rw[hk]at h;cases h;done)
   |(simp only[bU];done)
   |(simp only[bU];split<;>rfl)
 unfold ed;split
 ·exact this _ _ _ h
 ·split
  ·split
   ·exact this _ _ _ h
   ·rfl
  ·rfl
theorem O1{G:Nat->PV}{x:XO}{s:St}(h:kR x.k=false):(ed G x s).1=[]:=by
 have:∀ev H id,kR x.k=false->(bU ev H id x.k).1=[]:=by
  intro ev H id h;cases hk:x.k<;>first
   |(rw[hk]at h;simp only[kR]at h;simp only[bU,h,Bool.false_eq_true,if_false];done)
   |(rw[hk]at h;cases h;done)
   |(simp only[bU];done)
   |(simp only[bU];split<;>rfl)
 unfold ed;split
 ·exact this _ _ _ h
 ·split
  ·split
   ·exact this _ _ _ h
   ·rfl
  ·rfl
theorem O2{G:Nat->PV}{x:XO}{s:St}(h:zi x.k=true):∀b,b∈(ed G x s).2->b=x.id:=by
 have:∀ev H id,zi x.k=true->(bU ev H id x.k).2=[id]:=by
  intro ev H id h;cases hk:x.k<;>first
   |(rw[hk]at h;cases h;done)
   |(simp only[bU];done)
 intro b hb;unfold ed at hb;split at hb
 ·rw[this _ _ _ h]at hb;simpa using hb
 ·split at hb
  ·split at hb
   ·rw[this _ _ _ h]at hb;simpa using hb
   ·cases hb
  ·cases hb
def zk(x y:XO)(fx fy:List Nat×List Nat):Prop:=
 Eg x y=true/\(∀b,b∈fx.2->b∉fy.1/\b∉fy.2)/\(∀b,b∈fx.1->b∉fy.2)
theorem afF{ops:Array Oper}{xs:List XO}{G:Nat->PV}{S:Nat->St}{ft:List (List Nat×List Nat)}(hs:Be ops xs=true)(hf:uQ ft (Bd ops xs)=true)(Ep:∀(j:Nat)(x:XO),xs[j]?=some x->ft[j]?=some (ed G x (S j)))
 {i j:Nat}{x y:XO}(wK:i<j)(hx:xs[i]?=some x)(hy:xs[j]?=some y):sU ops ops.size i j=true\/zk x y (ed G x (S i)) (ed G y (S j)):=by
 by_cases ha:sU ops ops.size i j=true
 ·exact .inl ha
 ·refine .inr ⟨?_,?_⟩
  ·simp only[Be,Bool.and_eq_true,List.all_eq_true,Prod.forall,List.mem_zipIdx_iff_getElem?,Bool.or_eq_true,Bool.not_eq_true',decide_eq_false_iff_not]at hs;rcases hs.2 y j hy x i hx with(h|h)|h
   ·omega
   ·exact h
   ·exact absurd h ha
  ·by_cases hn:It x y=true
   ·have hm:(i,j)∈Bd ops xs:=by
     simp only[Bd,List.mem_flatMap,List.mem_map,List.mem_filter,Prod.exists,List.mem_zipIdx_iff_getElem?,Bool.and_eq_true,decide_eq_true_eq,Prod.mk.injEq];exact⟨y,j,hy,x,i,⟨hx,⟨wK,hn⟩,by simpa using ha⟩,rfl,rfl⟩
    have:=(List.all_eq_true.1 hf) _ hm;simp only[Ep i x hx,Ep j y hy,Bool.and_eq_true]at this;exact⟨fun b hb=>⟨fun h=>IH this.1 b hb (List.mem_append_left _ h),fun h=>IH this.1 b hb (List.mem_append_right _ h)⟩,fun b hb=>IH this.2 b hb⟩
   ·simp only[It,Bool.not_eq_true,Bool.or_eq_false_iff]at hn;obtain⟨⟨h1,h2⟩,h3⟩:=hn;refine⟨fun b hb=>?_,fun b hb=>?_⟩
    ·cases O3:kW x.k with
     |false=>rw[II O3]at hb;cases hb
     |true=>
      rw[O3]at h1 h2;have hry:kR y.k=false:=by simpa using h2
      refine⟨by rw[O1 hry];simp,fun fD=>?_⟩;cases Er:kW y.k with
      |false=>rw[II Er]at fD;cases fD
      |true=>
       rw[Er]at h1;simp only[Bool.and_self,Bool.true_and,Bool.not_eq_false',Bool.and_eq_true,bne_iff_ne,ne_eq]at h1;exact h1.2 ((O2 h1.1.1 b hb).symm.trans (O2 h1.1.2 b fD))
    ·cases O4:kR x.k with
     |false=>rw[O1 O4]at hb;cases hb
     |true=>
      rw[O4]at h3;have Er:kW y.k=false:=by simpa using h3
      rw[II Er];simp
theorem O5{ops:Array Oper}{L:Nat->Bool}(ew:∀j o,ops[j]?=some o->L j=true->∀e,e∈o.after->Region.binds .any e=true->L e.on=true):∀(n i j:Nat)(o:Oper),ops[j]?=some o->
 (∀e,e∈o.after->Region.binds .any e=true->L e.on=true)->sU ops n i j=true->L i=true:=by
 intro n
 induction n with
 |zero=>intro i j o _ _ h;cases h
 |succ n ih=>
  intro i j o ho he h;simp only[sU,ho,Array.any_eq_true',Bool.and_eq_true,Bool.or_eq_true,beq_iff_eq]at h;obtain⟨e,hm,hb,h⟩:=h;have hL:=he e hm hb;rcases h with h|h
  ·rw[<-h];exact hL
  ·cases n with
   |zero=>cases h
   |succ n=>
    cases qm:ops[e.on]? with
    |none=>simp[sU,qm]at h
    |some o'=>exact ih i e.on o' qm (fun e' iT eS=>ew e.on o' qm hL e' iT eS) h
end Go.Pi
end
