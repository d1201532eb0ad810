import Derived.Test.YtofdfffpmbgogaaGreatDoorP18
import Derived.Test.YtofdfffpmbgogaaGreatDoorP25
import Derived.Test.YtofdfffpmbgogaaGreatDoorP37
import Derived.Test.YtofdfffpmbgogaaGreatDoorP44
import Derived.Test.YtofdfffpmbgogaaGreatDoorP47
/- Part of the proof. -/
set_option linter.all false
set_option maxHeartbeats 0
set_option maxRecDepth 100000
section
open Go Go.Pi
namespace Go.Pi
variable{p q a:Prop}
section
variable{X:aS}{G:Nat->PV}
namespace ac5
theorem bw(h:p:=by
 first
 |(refine aO (at6 hG lv ok) ai4 (cB) ?_;rintro _ ⟨w,ds,rfl,hw,hl⟩;have Ao:=hw.1.1;have De:=hw.1.2.1;have Dc:=fQ (Ao.imp id fun⟨xs,h,_⟩=>⟨xs,h⟩);have MQ:=fun(n:Nat) (H:al)=>aH (n:=n) (H:=H) De;refine cA ?_)<;>exact az
 |(refine aO (aze hw) (by intro b g r h;cases h;rcases Ao with h|⟨_,h,_⟩<;>cases h) (cB) ?_;rintro _ ⟨v1,rfl,cc,cN,bL⟩;have jY:=cc.cells;have jZ:=fun(n:Nat) (H:al)=>aH (n:=n) (H:=H) cN;refine cA ?_)<;>exact az
 |fail):p:=h
theorem bj(h:p:=by
 first
 |skip
  exact⟨_,ds,rfl,cc,cN,bL,hl,hw.ty fun _ _ h=>h.ht⟩;done
 |fail):p:=h
end ac5
theorem q9{ga gb:Int}(hG:G 0= .fp [.int .u32 ga,.int .u32 gb]){m:Nat}{v0:PV}(lv:aB (SZ m) v0)(ok:∀y,y∈ae v0->dJ y):Pure ai X G 9 [v0] (fun r=>∃v ds,r= .bZ [v,.bool true]/\aQ v/\aw v=true/\aK (ae v) ds/\aK (ae v0) ds/\Ty R.bH ds):=by
 have hv:=lv.1;have eo:=lv.2.1;refine ay T9 af ?_;refine nA (Kj hv eo) ?_;open ac5 bi in exact az
end
end Go.Pi
end
section
open Go Go.Pi
namespace Go.Pi
variable{p q a:Prop}
def nR:aS:=fun _ _ _=>none
section
variable(G:Nat->PV)
open Classical in
noncomputable def DS:aS:=fun f args ch=>if h:∃y:PV×List PV,∃m,gl ai nR G m f args ch=some y then some h.choose else none
open Classical in
noncomputable def X3(S:List PV->Prop)(y:PV×List PV):aS:=fun f args ch=>if f=6/\S args/\ch=none then some y else DS G f args ch
noncomputable def ml(f:Nat):Option FX:=if f=3 then some Mi else none
end
section
variable{G:Nat->PV}
theorem adE:ml 3=some Mi:=rfl
theorem az6{m f:Nat}{args:List PV}{ch:Option Chunk}{y:PV×List PV}(h:gl ai nR G m f args ch=some y):DS G f args ch=some y:=by
 have hx:∃y:PV×List PV,∃m,gl ai nR G m f args ch=some y:=⟨y,m,h⟩;unfold DS;rw[dif_pos hx];obtain⟨m',hm'⟩:=hx.choose_spec;have h1:=uY m (max m m') (Nat.le_max_left _ _) _ _ _ _ h;have h2:=uY m' (max m m') (Nat.le_max_right _ _) _ _ _ _ hm';rw[h1]at h2;exact h2.symm
theorem Pure.lift{S:List PV->Prop}{y:PV×List PV}{f:Nat}{args:List PV}{R:PV->Prop}(h:Pure ai nR G f args R)(h3:f≠3)(h6:f≠6):Pure ml (X3 G S y) G f args R:=by
 obtain⟨r,cells,⟨m,hm⟩,hR⟩:=h;refine⟨r,cells,⟨1,?_⟩,hR⟩;simp only[gl,ml,if_neg h3];unfold X3;rw[if_neg (fun h=>h6 h.1)];exact az6 hm
theorem Pure.six{S:List PV->Prop}{y:PV×List PV}{args:List PV}{R:PV->Prop}(hS:S args)(hR:R y.1):Pure ml (X3 G S y) G 6 args R:=by
 refine⟨y.1,y.2,⟨1,?_⟩,hR⟩;simp only[gl,ml,if_neg (show¬6=3 by decide)];unfold X3;rw[if_pos ⟨rfl,hS,rfl⟩]
namespace adG
theorem bw(h:p:=by
 first
 |exact xH
 |fail):p:=h
end adG
theorem az8{X:aS}{v0:PV}(hv:aQ v0)(hd:aw v0=true)(h5:Pure ml X G 5 [v0] (fun r=>r= .bool false)):Pure ml X G 3 [v0] (fun r=>r= .bool true):=by
 have hB:=hv.len;refine ay adE af ?_;refine nA (Kj hv hd) ?_;open adG LO in exact az
namespace adH
theorem bw(h:p:=by
 first
 |exact xH
 |(refine aO h6 xh (cB) ?_;rintro _ rfl;refine cA ?_)<;>exact az
 |(refine aO h6' (by intro b g r h;cases h;rcases cc with h|⟨_,h,_⟩<;>cases h) (cB) ?_;rintro _ rfl;refine cA ?_)<;>exact az
 |(refine aO h8 bS (cB) ?_;rintro _ rfl;refine cA ?_)<;>exact az
 |(refine aO h7 bS (cB) ?_;rintro _ ⟨z,rfl⟩;refine cA ?_)<;>exact az
 |(refine aO h9 xh (cB) ?_;rintro _ rfl;refine cA ?_)<;>exact az
 |(refine aO dN bS (cB) ?_;rintro _ rfl;refine cA ?_)<;>exact az
 |fail):p:=h
end adH
theorem aAa{X:aS}{v0 v c:PV}{b:Bool}{n:Nat}(hv:aQ v0)(hd:aw v0=true)(cc:aQ v)(cN:aw v=true)(hc:pf n c)(h5:Pure ml X G 5 [v0] (fun r=>r= .bool true))(h6:Pure ml X G 6 [v0] (fun r=>r= .bZ [c,.bool b]))(h6':Pure ml X G 6 [v] (fun r=>r= .bZ [c,.bool b]))
 (h8:Pure ml X G 8 [.int .i64 1,.str (bs []),c] (fun r=>r= .agg [.int .i64 1,.str (bs []),.str (bs []),.int .u64 0,c,.int .i64 0]))(h7:Pure ml X G 7 [.agg [.int .i64 1,.str (bs []),.str (bs []),.int .u64 0,c,.int .i64 0],.int .i64 2000] (fun r=>∃z,r= .int .i64 z))
 (h9:Pure ml X G 9 [v0] (fun r=>r= .bZ [v,.bool true]))(dN:Pure ml X G 10 [.agg [.int .i64 1,.str (bs []),.str (bs []),.int .u64 0,c,.int .i64 0],.agg [.int .i64 1,.str (bs []),.str (bs []),.int .u64 0,c,.int .i64 0]] (fun r=>r= .bool true)):Pure ml X G 3 [v0] (fun r=>r= .bool true):=by
 have hB:=hv.len;have hcS:=hc.1;have hcD:=hc.2.1;have l8:=fQ hcS;have hsc:=fun(n:Nat) (H:al)=>aH (n:=n) (H:=H) hcD
 have AW:=fun(n:Nat) (H:al)=>aH (n:=n) (H:=H) cN
 have dj:=fun(n:Nat) (H:al)=>aH (n:=n) (H:=H) hd
 refine ay adE af ?_;cases b;all_goals
  refine cA ?_;open adH LO in exact az
end
section
variable{P:Program}{aT:World}{G:Nat->PV}
theorem ic.DH(h:∀n,ic P aT (gl ai nR G n)):ic P aT (DS G):=by
 intro f args ch r cells hh;unfold DS at hh;split at hh
 ·rename_i hx;obtain⟨m,hm⟩:=hx.choose_spec;rw[Option.some.inj hh]at hm;exact h m f args ch r cells hm
 ·cases hh
theorem ic.x3(h:∀n,ic P aT (gl ai nR G n)){S:List PV->Prop}{y:PV×List PV}(hS:∀args,S args->∃a d m,args=[a]/\cd a d/\gl ai nR G m 6 [d] none=some y):ic P aT (X3 G S y):=by
 intro f args ch r cells hh;unfold X3 at hh;split at hh
 ·rename_i hc;obtain⟨rfl,hs,rfl⟩:=hc;obtain⟨a,d,m,rfl,ha,hy⟩:=hS _ hs;cases hh;obtain⟨h1,h2⟩:=h m 6 [d] none _ _ hy;refine⟨h1,fun hg E w vs hI hE hK hR=>h2 hg E w vs hI hE hK ⟨hR.1,fun i c v hc hv=>?_⟩⟩
  match i,hc with
  |0,hc=>
   simp at hc;subst hc;exact ha E v (hR.2 0 a v rfl hv)
 ·exact ic.DH h f args ch r cells hh
end
end Go.Pi
end
section
open Go Go.Pi
namespace Go.Pi
variable{p q a:Prop}
open Go.RowKit Go.Proofs
theorem aAd{n:Nat}{c:PV}(h:pf n c)(hn:n<=1048576):Nd [.int .i64 1,.str (bs []),.str (bs []),.int .u64 0,c,.int .i64 0]:=by
 obtain⟨h1,h2,h3,h4⟩:=h;refine .mk 1 0 0 (bs []) (bs []) c h1 ad h4 (by intro h;rcases h with h|h<;>cases h) h2 (by intro h;cases h) (by intro h;cases h)
section
variable{P:Program}{aT:World}{G:Nat->PV}
theorem aAe{ga gb:Int}(hG:G 0= .fp [.int .u32 ga,.int .u32 gb]){m:Nat}{v0:PV}(lv:aB (SZ m) v0)(HO:∀n,ic P aT (gl ai nR G n)):∃X,ic P aT X/\Pure ml X G 3 [v0] (fun r=>r= .bool true):=by
 obtain⟨r5,c5,hf5,b,rfl,hb⟩:=s5 (X:=nR) (G:=G) lv;cases b with
 |false=>
  refine⟨X3 G (fun _=>False) (.undef,[]),ic.x3 HO (fun _ h=>h.elim),az8 lv.1 lv.2.1 ?_⟩;exact Pure.lift (R:=fun r=>r= .bool false) ⟨_,_,hf5,rfl⟩ aJ aJ
 |true=>
  have ok:=hb rfl;obtain⟨r9,c9,hf9,v,ds,rfl,hv,hd,hl,DI,uj⟩:=q9 (X:=nR) hG lv ok;obtain⟨r6,c6,hf6,c,b,rfl,hc⟩:=R.q6 (X:=nR) (G:=G) uj.1 (C9 uj) uj.2;obtain⟨m6,hm6⟩:=hf6;have hN:=aAd hc uj.1;refine⟨X3 G (fun args=>args=[v0]\/args=[v]) (.bZ [c,.bool b],c6),ic.x3 HO (fun args h=>?_),aAa (b:=b) lv.1 lv.2.1 hv hd hc ?_ ?_ ?_ ?_ ?_ ?_ ?_⟩
  ·rcases h with rfl|rfl
   ·exact⟨v0,_,m6,rfl,cd.sl lv.1 DI,hm6⟩
   ·exact⟨v,_,m6,rfl,cd.sl hv hl,hm6⟩
  ·exact Pure.lift (R:=fun r=>r= .bool true) ⟨_,_,hf5,rfl⟩ aJ aJ
  ·exact Pure.six (.inl rfl) rfl
  ·exact Pure.six (.inr rfl) rfl
  ·exact Pure.lift (R.q8 hc.1 hc.2.1) aJ aJ
  ·exact Pure.lift (R.g7 _ hN (Nat.lt_succ_self _) 2000) aJ aJ
  ·exact Pure.lift (R:=fun r=>r= .bZ [v,.bool true]) ⟨_,_,hf9,rfl⟩ aJ aJ
  ·exact Pure.lift (R.yv _ hN (Nat.lt_succ_self _)) aJ aJ
theorem aAh:∀f fx,ml f=some fx->∃fn,Tryz.prog.funcs[f]?=some fn/\wE Tryz.prog fn=some fx/\(fn.name== "runtime.NumGoroutine")=false:=by
 intro f fx h;unfold ml at h;split at h
 ·rename_i e;subst e;rw[<-T3]at h;exact P1 3 fx h
 ·cases h
theorem ic.nR:ic P aT Go.Pi.nR:=fun f args ch r cells h=>by cases h
end
theorem aAi{G:Nat->PV}{ga gb:Int}(hG0:G 0= .fp [.int .u32 ga,.int .u32 gb]){W:World}(hG:pD W G)(adK:Tryz.prog.follows .mixedOrders=true){v:PV}{v0:Value}{m:Nat}(lv:aB (SZ m) v)(hR:bD ⟨fun _ _=>False,W.cell?,fun _=>0,fun _=>0,fun _=>none⟩ v v0):
 Calls Tryz.prog 3 #[v0] W fun e W'=>e= .returned (.bool true)/\Below W.heap.size W W':=by
 have HO:∀n,ic Tryz.prog W (gl ai Go.Pi.nR G n):=Pn adK hG ic.nR P1;obtain⟨X,hX,r,cells,⟨n,hn⟩,rfl⟩:=aAe (P:=Tryz.prog) (aT:=W) hG0 lv HO;have hI:Inv Tryz.prog W ⟨fun _ _=>False,W.cell?,fun _=>0,fun _=>0,fun _=>none⟩ W:=⟨Below.refl _ _,fun _ _ h=>h,fun _ _ h=>h,fun b c h=>by cases h⟩;refine((Pn adK hG hX aAh n 3 [v] none _ _ hn).2 (by intro c h;cases h) _ W [v0] hI (by funext b;show none=H0 none b;simp[H0]) (fun b g h=>h.elim) ⟨rfl,fun i c w hc hw=>?_⟩).mono ?_
 ·match i,hc with
  |0,hc=>
   simp at hc hw;subst hc hw;exact hR
 ·rintro e w' ⟨z,E',rfl,hB⟩;have hz:z= .bool true:=by
   have:=hB.pC;cases this;rfl
  exact⟨by rw[hz],hB.inv.below⟩
end Go.Pi
end
