import Derived.Test.YtofdfffpmbgogaaGreatDoorP18
import Derived.Test.YtofdfffpmbgogaaGreatDoorP41
/- Part of the proof. -/
set_option linter.all false
set_option maxHeartbeats 0
set_option maxRecDepth 100000
section
open Go Go.Pi
namespace Go.Pi
section
variable{X:aS}{G:Nat->PV}
theorem avw{s:ByteArray}(hs:s.size<=2097152)(yp:Int):Sc ai X G 153 s [.int .i64 yp] (fun a=>a+1<=(s.size:Int)) (fun bB cT cR dg r=>vU (16*s.size+1000) r):=by
 intro e sc ln bB cT h0 h1 mF;have mF:bB+1<=(s.size:Int):=mF;have eA:s.size<=4398046511104:=by omega
 have fW:s.size<=268435456:=by omega
 refine ay aqf af ?_;simp only[go_sem,Nat.reduceEqDiff,Nat.reduceAdd,Nat.reduceLeDiff,Nat.reduceLT,Nat.reduceMul,Nat.reduceSub,reduceIte,reduceCtorEq,Int.reduceEq,Int.reduceLT,Int.reduceLE,Nat.reduceBEq,Int.reduceToNat,cV];repeat' first
  |contradiction
  |((refine⟨_,_,_,rfl,ad,ad,_,_,_,_,_,_,_,_,_,rfl,BJ⟩))
  |(simp(disch:=omega) only[wrap_i64,wrap_u64,qK,s8,s9,tb,tc,td,te,tf,rL,tg,th,ti,tj,tk,tl,tm,tn];(try simp only[go_sem,Nat.reduceEqDiff,Nat.reduceAdd,Nat.reduceLeDiff,Nat.reduceLT,Nat.reduceMul,Nat.reduceSub,reduceIte,reduceCtorEq,Int.reduceEq,Int.reduceLT,Int.reduceLE,Nat.reduceBEq,Int.reduceToNat,cV]))
  |((first|simp only[cG]|simp only[gX]|simp only[gr]);(try simp only[go_sem,Nat.reduceEqDiff,Nat.reduceAdd,Nat.reduceLeDiff,Nat.reduceLT,Nat.reduceMul,Nat.reduceSub,reduceIte,reduceCtorEq,Int.reduceEq,Int.reduceLT,Int.reduceLE,Nat.reduceBEq,Int.reduceToNat,cV]))
  |((first|refine mw (fun hp hb=>?_) (fun hp hb=>?_)|refine pK (fun hp hb=>?_) (fun hp hb=>?_)|refine pL (fun hp hb=>?_) (fun hp hb=>?_)|refine pM (fun hp hb=>?_) (fun hp hb=>?_))<;>simp only[hb,go_sem,Nat.reduceEqDiff,Nat.reduceAdd,Nat.reduceLeDiff,Nat.reduceLT,Nat.reduceMul,Nat.reduceSub,reduceIte,reduceCtorEq,Int.reduceEq,Int.reduceLT,Int.reduceLE,Nat.reduceBEq,Int.reduceToNat,cV])
  |((first|refine pN (fun hb=>?_) (fun hb=>?_)|refine ni (fun hb=>?_) (fun hb=>?_)|refine n5 (fun hb=>?_) (fun hb=>?_))<;>(first|(subst hb;simp only[go_sem,Nat.reduceEqDiff,Nat.reduceAdd,Nat.reduceLeDiff,Nat.reduceLT,Nat.reduceMul,Nat.reduceSub,reduceIte,reduceCtorEq,Int.reduceEq,Int.reduceLT,Int.reduceLE,Nat.reduceBEq,Int.reduceToNat,cV])|simp only[hb,go_sem,Nat.reduceEqDiff,Nat.reduceAdd,Nat.reduceLeDiff,Nat.reduceLT,Nat.reduceMul,Nat.reduceSub,reduceIte,reduceCtorEq,Int.reduceEq,Int.reduceLT,Int.reduceLE,Nat.reduceBEq,Int.reduceToNat,cV]))
  |((first
     |(refine o5 (zZ eA _) zB ad ad rT (fun r hr=>?_);obtain⟨b,rfl,hb,pZ⟩:=hr;cases b;all_goals (first|(have hb:=hb rfl)|clear hb))
     |(refine gA (zY eA) zB ad ad gx rT (fun r cR fh dg fc gL hr=>?_);obtain⟨rfl,rfl,r,n,rfl,pG,gj,r4,qR,iv,tE,o3⟩:=hr)
     |(refine gA (avv hs) zB ad ad gx rT (fun r cR fh dg fc gL hr=>?_);obtain⟨k,tx,mo,nu,fr,jE,ba,bb,bc,rfl,uB⟩:=hr)
     |(refine gA (auy fW) zB ad ad gx rT (fun r cR fh dg fc gL hr=>?_);obtain⟨k,tx,mo,nu,fr,jE,ba,bb,bc,rfl,uB⟩:=hr)
     |(refine gA (auz fW) zB ad ad gx rT (fun r cR fh dg fc gL hr=>?_);obtain⟨k,tx,mo,nu,fr,jE,ba,bb,bc,rfl,uB⟩:=hr)
     |(refine gA (Xv fW) zB ad ad gx rT (fun r cR fh dg fc gL hr=>?_);obtain⟨k,tx,mo,nu,fr,jE,ba,bb,bc,rfl,uB⟩:=hr)
     |(refine gA (auC fW) zB ad ad gx rT (fun r cR fh dg fc gL hr=>?_);obtain⟨k,tx,mo,nu,fr,jE,ba,bb,bc,rfl,uB⟩:=hr)
     |(refine gA (aur eA) zB ad ad gx rT (fun r cR fh dg fc gL hr=>?_);obtain⟨z,be,rfl,hz⟩:=hr)
     |(refine gA (FK _) zB ad ad gx rT (fun r cR fh dg fc gL hr=>?_);obtain⟨rfl,dG,fD⟩:=hr)
     |(refine aO (JL _) pP rT ?_;rintro _ rfl)
     |(refine aO (M0 _) pP rT ?_;rintro _ ⟨v,rfl⟩)
     |(refine wY ?_;(try simp only[go_sem,Nat.reduceEqDiff,Nat.reduceAdd,Nat.reduceLeDiff,Nat.reduceLT,Nat.reduceMul,Nat.reduceSub,reduceIte,reduceCtorEq,Int.reduceEq,Int.reduceLT,Int.reduceLE,Nat.reduceBEq,Int.reduceToNat,cV]);refine oh ad ad (fun b hb dX dG=>?_))
     |(refine wZ ?_;(try simp only[Option.map_some,Option.map_none]);(try simp only[go_sem,Nat.reduceEqDiff,Nat.reduceAdd,Nat.reduceLeDiff,Nat.reduceLT,Nat.reduceMul,Nat.reduceSub,reduceIte,reduceCtorEq,Int.reduceEq,Int.reduceLT,Int.reduceLE,Nat.reduceBEq,Int.reduceToNat,cV]);refine oi rfl rfl ad ad ad (fun z hz ec=>?_))
     |refine oi rfl rfl ad ad ad (fun z hz ec=>?_)
     |refine oh ad ad (fun b hb dX dG=>?_)
     |rw[if_pos (by first|omega|(simp only[ByteArray.size_append,ig,List.length_cons,List.length_nil];omega))])<;>simp only[go_sem,Nat.reduceEqDiff,Nat.reduceAdd,Nat.reduceLeDiff,Nat.reduceLT,Nat.reduceMul,Nat.reduceSub,reduceIte,reduceCtorEq,Int.reduceEq,Int.reduceLT,Int.reduceLE,Nat.reduceBEq,Int.reduceToNat,cV])
end
end Go.Pi
end
