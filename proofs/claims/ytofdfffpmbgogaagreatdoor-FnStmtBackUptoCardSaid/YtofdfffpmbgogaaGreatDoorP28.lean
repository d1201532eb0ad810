import Derived.Test.YtofdfffpmbgogaaGreatDoorP09
import Derived.Test.YtofdfffpmbgogaaGreatDoorP10
import Derived.Test.YtofdfffpmbgogaaGreatDoorP11
import Derived.Test.YtofdfffpmbgogaaGreatDoorP12
import Derived.Test.YtofdfffpmbgogaaGreatDoorP13
import Derived.Test.YtofdfffpmbgogaaGreatDoorP18
import Derived.Test.YtofdfffpmbgogaaGreatDoorP27
/- Part of the proof. -/
set_option linter.all false
set_option maxHeartbeats 0
set_option maxRecDepth 100000
section
open Go Go.Pi
namespace Go.Pi.R
variable{p q a:Prop}
section
variable{X:aS}{G:Nat->PV}
theorem aaz{f:Nat}{np N:Nat}{jJ:List RV}{body:List XC}(hT:ai f=some ⟨np,N,jJ,body⟩){args:List PV}{ch:Option Chunk}(hl:args.length<=N)(ha:qA f args=none){r0:PV}{c0:List PV}
 (h:M ai X G (body.map .code++[]) ⟨fun i=>args.getD i .undef,H0 ch,1⟩ (Fin jJ ch fun r c=>r=r0/\c=c0)):Fn ai X G f args ch r0 c0:=by
 obtain⟨r,c,h1,rfl,rfl⟩:=ay hT hl h ha;exact h1
abbrev Dx(k:Int):Int:=if k=2 then 32 else if k=3 then 64 else 0
abbrev sG(k:Int)(st:Bool):Int:=if st then bits .or .u64 (Dx k) 256 else Dx k
abbrev HB(k:Int):Int:=if k=2 then bits .or .u64 16 32 else if k=3 then bits .or .u64 16 64 else 16
abbrev Dy(k:Int)(st:Bool)(kids:PV):PV:= .agg [.int .i64 44,.str (bs []),.str (bs []),.int .u64 (sG k st),kids,.int .i64 0]
theorem x55{q0 q1 q2 q3 q4 q5 q6 q7 q8 q9 yv Dz DA:PV}(DB:aP [q0,q1,q2,q3,q4,q5,q6,q7,q8,q9,yv,Dz,DA]=true)(gp yw:Int)(static:Bool)(K:∀c,Mt ai X G 133 [.agg [q0,q1,q2,q3,q4,q5,q6,q7,q8,q9,yv,Dz,DA],.bool c] (fun _=>da)){kind op aA chain flags:Int}{nn:Nat}{str kids bf parts aG:PV}{text:ByteArray}(hk:kind=21\/kind=22)
 (ao:aQ str)(aq:aQ kids)(aE:aQ bf)(aD:aQ parts)(au:aQ aG)(hd:aP [str,kids,bf,parts,aG]=true):
 Mt ai X G 88 [.int .i64 gp,.int .i64 yw,.agg [q0,q1,q2,q3,q4,q5,q6,q7,q8,q9,yv,Dz,DA],.agg [.int .i64 kind,.int .i64 op,.int .i64 aA,.int .i64 chain,.int .i64 flags,.bR .f64 nn,str,.str text,kids,bf,parts,oC,aG],.bool static] (fun _=>da):=by
 have FY:=DB;simp only[aP,Bool.and_eq_true,Bool.and_true]at hd DB;obtain⟨g0,g1,g2,g3,g4,g5,g6,g7,g8,g9,U3,g11,g12⟩:=DB;obtain⟨h1,h2,h3,h4,h5⟩:=hd;intro e aZ;have kP:db 4 (.sl [pq]) (.int .i64 0)=some (.fp pq,none):=rfl;have AF:∀g,db 4 (.row 11002 g 1) (.int .i64 0)=some (.ptr 11002 g 0,none):=fun _=>rfl
 have b2:bits .and .i64 0 4=0:=by decide
 have b3:bits .and .i64 0 3=0:=by decide
 have d10:decide (((1:Nat):Int)=0)=false:=rfl;have d11:decide (((1:Nat):Int)=1)=true:=rfl;have d00:decide (((0:Nat):Int)=0)=true:=rfl;have d01:decide (((0:Nat):Int)=1)=false:=rfl;have l1:([pq]:List (List PV)).length=1:=rfl;have l0:([]:List (List PV)).length=0:=rfl
 suffices h:∃r c,(∀fv,(fv= .sl [pq]\/fv= .sl [])->Fn ai X G 88 [.ptr 0 0 0,.int .i64 gp,.int .i64 yw,.agg [q0,q1,q2,q3,q4,q5,q6,q7,q8,q9,yv,Dz,DA],.agg [.int .i64 kind,.int .i64 op,.int .i64 aA,.int .i64 chain,.int .i64 flags,.bR .f64 nn,str,.str text,kids,bf,parts,fv,aG],.bool static] (some ⟨e,0,[.bool aZ],0⟩) r c)/\
  ∃qI,c=[.bool qI]/\(qI=true->aZ=true)/\da r by
  obtain⟨r,c,h,f',hc,hf,hr⟩:=h;exact⟨r,c,PA (by simp only[Dq,rl,rm,rn,dz ao,dz aq,dz aE,dz aD,ZV,Option.map_some]) (by simp only[Dq,rl,rm,rn,dz ao,dz aq,dz aE,dz aD,dz au,dz (.inr ⟨_,rfl,af⟩:aQ (.sl [pq])),iy,Option.map_none]) (by simp only[Dq,rl,rm,rn,dz ao,dz aq,dz aE,dz aD,dz au,dz (.inr ⟨_,rfl,af⟩:aQ (.sl [])),iy,Option.map_none]) (h _ (.inl rfl)) (h _ (.inr rfl)) ⟨_,GQ⟩,f',hc,hf,hr⟩
 have ha:∀fv,(fv= .sl [pq]\/fv= .sl [])->qA 88 [.ptr 0 0 0,.int .i64 gp,.int .i64 yw,.agg [q0,q1,q2,q3,q4,q5,q6,q7,q8,q9,yv,Dz,DA],.agg [.int .i64 kind,.int .i64 op,.int .i64 aA,.int .i64 chain,.int .i64 flags,.bR .f64 nn,str,.str text,kids,bf,parts,fv,aG],.bool static]=none:=by
  intro fv h;have l:aQ fv:=by rcases h with rfl|rfl<;>exact .inr ⟨_,rfl,af⟩
  simp only[Dq,rl,rm,rn,dz ao,dz aq,dz aE,dz aD,dz au,dz l,iy,Option.map_none]
 have jL:gp=2\/gp=3\/gp=1\/gp≠2/\gp≠3/\gp≠1:=by omega
 by_cases hy:aZ=true/\kind=21
 ·obtain⟨rfl,rfl⟩:=hy;obtain⟨rk,ck,hK,f',rfl,-,kc,rfl,hkc⟩:=K (!decide (bits .and .i64 yw 1=0)) e (!decide (gp=3));have J6:=hkc;obtain⟨k0,x0,m0,n0,Cb,a0,rfl,tG⟩:=hkc.open;have hNd:=tG.2.1;refine⟨Dy gp static (.sl [[.int .i64 k0,.str x0,.str m0,.int .u64 n0,Cb,.int .i64 a0],[.int .i64 40,.str (bs []),.str (bs []),.int .u64 (HB gp),.sl [[.int .i64 1,.str (bs []),.str (bs []),.int .u64 0,.ah,.int .i64 0],[.int .i64 1,.str (bs []),.str (bs []),.int .u64 0,.ah,.int .i64 0]],.int .i64 0]]),[.bool f'],fun fv uF=>?_,f',rfl,fun _=>rfl,?_⟩
  ·refine aaz GQ af (ha fv uF) ?_;clear K hk ao aq aE aD au tG J6 ha FY;rcases jL with rfl|rfl|rfl|⟨q1,q2,q3⟩
   ·have e1:(!decide ((2:Int)=3))=true:=rfl;rw[e1]at hK;cases static<;>rcases uF with rfl|rfl
    all_goals refine Jg ?_
    all_goals
     repeat' first
      |contradiction
      |(exact⟨rfl,rfl⟩)
      |rfl
      |(refine jv (uE _) gU dZ ?_;simp only[*,Bool.and_true,Bool.and_false,Bool.not_true,Bool.not_false,go_sem,Nat.reduceEqDiff,Nat.reduceAdd,Nat.reduceLeDiff,Nat.reduceLT,Nat.reduceMul,Nat.reduceSub,reduceIte,reduceCtorEq,Int.reduceEq,Int.reduceLT,Int.reduceLE,Nat.reduceBEq,Int.reduceToNat,cV,cG,gX,gr])
      |(simp only[eD,kP];refine Jg ?_)
      |(simp only[eD,AF];refine Jg ?_)
      |(refine jv (oJ _ (.inr rfl) (.inr rfl)) gU dZ ?_;refine Jg ?_)
      |(refine jv (oJ _ (.inl rfl) (.inl rfl)) gU dZ ?_;refine Jg ?_)
      |(refine qC dZ gU rfl dZ (ly zW) dZ ⟨_,[.bool f'],hK,rfl,?_⟩;rw[oZ];refine Jg ?_)
   ·have e1:(!decide ((3:Int)=3))=false:=rfl;rw[e1]at hK;cases static<;>rcases uF with rfl|rfl
    all_goals refine Jg ?_
    all_goals
     repeat' first
      |contradiction
      |(exact⟨rfl,rfl⟩)
      |rfl
      |(refine jv (uE _) gU dZ ?_;simp only[*,Bool.and_true,Bool.and_false,Bool.not_true,Bool.not_false,go_sem,Nat.reduceEqDiff,Nat.reduceAdd,Nat.reduceLeDiff,Nat.reduceLT,Nat.reduceMul,Nat.reduceSub,reduceIte,reduceCtorEq,Int.reduceEq,Int.reduceLT,Int.reduceLE,Nat.reduceBEq,Int.reduceToNat,cV,cG,gX,gr])
      |(simp only[eD,kP];refine Jg ?_)
      |(simp only[eD,AF];refine Jg ?_)
      |(refine jv (oJ _ (.inr rfl) (.inr rfl)) gU dZ ?_;refine Jg ?_)
      |(refine jv (oJ _ (.inl rfl) (.inl rfl)) gU dZ ?_;refine Jg ?_)
      |(refine qC dZ gU rfl dZ (ly zW) dZ ⟨_,[.bool f'],hK,rfl,?_⟩;rw[oZ];refine Jg ?_)
   ·have e1:(!decide ((1:Int)=3))=true:=rfl;rw[e1]at hK;cases static<;>rcases uF with rfl|rfl
    all_goals refine Jg ?_
    all_goals
     repeat' first
      |contradiction
      |(exact⟨rfl,rfl⟩)
      |rfl
      |(refine jv (uE _) gU dZ ?_;simp only[*,Bool.and_true,Bool.and_false,Bool.not_true,Bool.not_false,go_sem,Nat.reduceEqDiff,Nat.reduceAdd,Nat.reduceLeDiff,Nat.reduceLT,Nat.reduceMul,Nat.reduceSub,reduceIte,reduceCtorEq,Int.reduceEq,Int.reduceLT,Int.reduceLE,Nat.reduceBEq,Int.reduceToNat,cV,cG,gX,gr])
      |(simp only[eD,kP];refine Jg ?_)
      |(simp only[eD,AF];refine Jg ?_)
      |(refine jv (oJ _ (.inr rfl) (.inr rfl)) gU dZ ?_;refine Jg ?_)
      |(refine jv (oJ _ (.inl rfl) (.inl rfl)) gU dZ ?_;refine Jg ?_)
      |(refine qC dZ gU rfl dZ (ly zW) dZ ⟨_,[.bool f'],hK,rfl,?_⟩;rw[oZ];refine Jg ?_)
   ·have e1:(!decide (gp=3))=true:=by simp[q2]
    have e2:decide (gp=2)=false:=by simp[q1]
    have e3:decide (gp=3)=false:=by simp[q2]
    have e4:decide (gp=1)=false:=by simp[q3]
    have e5:sG gp static=sG 0 static:=by simp[sG,Dx,q1,q2]
    have e6:HB gp=16:=by simp[HB,q1,q2]
    rw[e1]at hK;rw[e6];unfold Dy;rw[e5];cases static<;>rcases uF with rfl|rfl
    all_goals refine Jg ?_
    all_goals
     repeat' first
      |contradiction
      |(exact⟨rfl,rfl⟩)
      |rfl
      |(refine jv (uE _) gU dZ ?_;simp only[*,Bool.and_true,Bool.and_false,Bool.not_true,Bool.not_false,go_sem,Nat.reduceEqDiff,Nat.reduceAdd,Nat.reduceLeDiff,Nat.reduceLT,Nat.reduceMul,Nat.reduceSub,reduceIte,reduceCtorEq,Int.reduceEq,Int.reduceLT,Int.reduceLE,Nat.reduceBEq,Int.reduceToNat,cV,cG,gX,gr])
      |(simp only[eD,kP];refine Jg ?_)
      |(simp only[eD,AF];refine Jg ?_)
      |(refine jv (oJ _ (.inr rfl) (.inr rfl)) gU dZ ?_;refine Jg ?_)
      |(refine jv (oJ _ (.inl rfl) (.inl rfl)) gU dZ ?_;refine Jg ?_)
      |(refine qC dZ gU rfl dZ (ly zW) dZ ⟨_,[.bool f'],hK,rfl,?_⟩;rw[oZ];refine Jg ?_)
  ·have lI:aw (PV.sl [[.int .i64 k0,.str x0,.str m0,.int .u64 n0,Cb,.int .i64 a0],[.int .i64 40,.str (bs []),.str (bs []),.int .u64 (HB gp),.sl [[.int .i64 1,.str (bs []),.str (bs []),.int .u64 0,.ah,.int .i64 0],[.int .i64 1,.str (bs []),.str (bs []),.int .u64 0,.ah,.int .i64 0]],.int .i64 0]])=true:=by simp only[aw,jx,aP,hNd,Bool.and_true]
   exact jz.2 (jb ⟨.inr ⟨_,rfl⟩,lI,o0,fun y hy=>by
    simp only[ae,List.mem_cons,List.not_mem_nil,or_false]at hy;rcases hy with rfl|rfl
    ·exact J6
    ·exact ZW _,fun h=>ad⟩)
 ·refine⟨Dy gp static .ah,[.bool false],fun fv uF=>?_,false,rfl,fun h=>absurd h Bool.false_ne_true,jz.2 (jb (kQ.2 ⟨ad,ad⟩))⟩;refine aaz GQ af (ha fv uF) ?_;clear K ao aq aE aD au ha FY;have q44:decide ((22:Int)=21)=false:=rfl;rcases hk with rfl|rfl
  ·have hf:aZ=false:=by cases aZ;rfl;exact absurd ⟨rfl,rfl⟩ hy
   subst hf;clear hy;rcases jL with rfl|rfl|rfl|⟨q1,q2,q3⟩
   all_goals (try (have e2:decide (gp=2)=false:=by simp[*]);try (have e3:decide (gp=3)=false:=by simp[*]);try (have e5:sG gp static=sG 0 static:=by simp[sG,Dx, *]);try (unfold Dy;rw[e5]))
   all_goals (cases static<;>rcases uF with rfl|rfl)
   all_goals refine Jg ?_
   all_goals
    repeat' first
     |contradiction
     |(exact⟨rfl,rfl⟩)
     |rfl
     |(refine jv (uE _) gU dZ ?_;simp only[*,Bool.and_true,Bool.and_false,Bool.not_true,Bool.not_false,go_sem,Nat.reduceEqDiff,Nat.reduceAdd,Nat.reduceLeDiff,Nat.reduceLT,Nat.reduceMul,Nat.reduceSub,reduceIte,reduceCtorEq,Int.reduceEq,Int.reduceLT,Int.reduceLE,Nat.reduceBEq,Int.reduceToNat,cV,cG,gX,gr])
     |(simp only[eD,kP];refine Jg ?_)
     |(simp only[eD,AF];refine Jg ?_)
     |(refine jv (oJ _ (.inr rfl) (.inr rfl)) gU dZ ?_;refine Jg ?_)
     |(refine jv (oJ _ (.inl rfl) (.inl rfl)) gU dZ ?_;refine Jg ?_)
     |(refine qC dZ gU rfl dZ (ly zW) dZ ⟨_,[.bool f'],hK,rfl,?_⟩;rw[oZ];refine Jg ?_)
  ·clear hy;rcases jL with rfl|rfl|rfl|⟨q1,q2,q3⟩
   all_goals (try (have e2:decide (gp=2)=false:=by simp[*]);try (have e3:decide (gp=3)=false:=by simp[*]);try (have e5:sG gp static=sG 0 static:=by simp[sG,Dx, *]);try (unfold Dy;rw[e5]))
   all_goals (cases static<;>rcases uF with rfl|rfl)
   all_goals refine Jg ?_
   all_goals
    repeat' first
     |contradiction
     |(exact⟨rfl,rfl⟩)
     |rfl
     |(refine jv (uE _) gU dZ ?_;simp only[*,Bool.and_true,Bool.and_false,Bool.not_true,Bool.not_false,go_sem,Nat.reduceEqDiff,Nat.reduceAdd,Nat.reduceLeDiff,Nat.reduceLT,Nat.reduceMul,Nat.reduceSub,reduceIte,reduceCtorEq,Int.reduceEq,Int.reduceLT,Int.reduceLE,Nat.reduceBEq,Int.reduceToNat,cV,cG,gX,gr])
     |(simp only[eD,kP];refine Jg ?_)
     |(simp only[eD,AF];refine Jg ?_)
     |(refine jv (oJ _ (.inr rfl) (.inr rfl)) gU dZ ?_;refine Jg ?_)
     |(refine jv (oJ _ (.inl rfl) (.inl rfl)) gU dZ ?_;refine Jg ?_)
     |(refine qC dZ gU rfl dZ (ly zW) dZ ⟨_,[.bool f'],hK,rfl,?_⟩;rw[oZ];refine Jg ?_)
end
end Go.Pi.R
end
