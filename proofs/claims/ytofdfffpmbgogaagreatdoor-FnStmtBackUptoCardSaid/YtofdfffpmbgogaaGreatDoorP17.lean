import Derived.Test.YtofdfffpmbgogaaGreatDoorP16
/- Part of the proof. -/
set_option linter.all false
set_option maxRecDepth 100000
section
namespace Go.Pi
theorem aI:max 1 1=1:=rfl
theorem eU:max 1 1=1:=rfl
def Nx(p q:Prop):Prop:=q->p
theorem Nx.r{p:Prop}:Nx p p:=fun h=>h
theorem Kj{a b:Prop}(x:a)(y:b):a/\b:=⟨x,y⟩
theorem zA{p q:Prop}(g:q)(h:Nx p q:=by(simp only[go_sem,Nat.reduceEqDiff,Nat.reduceAdd,Nat.reduceLeDiff,Nat.reduceLT,Nat.reduceMul,Nat.reduceSub,reduceIte,reduceCtorEq,Int.reduceEq,Int.reduceLT,Int.reduceLE,Nat.reduceBEq,Int.reduceToNat,cV];exact Nx.r)):p:=h g
theorem nA{p q a:Prop}(x:a)(g:q)(h:a->Nx p q:=by(intro x;simp only[x,go_sem,Nat.reduceEqDiff,Nat.reduceAdd,Nat.reduceLeDiff,Nat.reduceLT,Nat.reduceMul,Nat.reduceSub,reduceIte,reduceCtorEq,Int.reduceEq,Int.reduceLT,Int.reduceLE,Nat.reduceBEq,Int.reduceToNat,cV];exact Nx.r)):p:=h x g
theorem cA{p q:Prop}(g:q)(h:Nx p q:=by(simp only[*,go_sem,Nat.reduceEqDiff,Nat.reduceAdd,Nat.reduceLeDiff,Nat.reduceLT,Nat.reduceMul,Nat.reduceSub,reduceIte,reduceCtorEq,Int.reduceEq,Int.reduceLT,Int.reduceLE,Nat.reduceBEq,Int.reduceToNat,cV];exact Nx.r)):p:=h g
theorem zB{p:Prop}(h:p:=by(first|(simp only[go_sem,Nat.reduceEqDiff,Nat.reduceAdd,Nat.reduceLeDiff,Nat.reduceLT,Nat.reduceMul,Nat.reduceSub,reduceIte,reduceCtorEq,Int.reduceEq,Int.reduceLT,Int.reduceLE,Nat.reduceBEq,Int.reduceToNat,cV];first|done|rfl|fail)|rfl|fail)):p:=h
theorem sB{p a:Prop}(x:a)(h:a->p:=by(intro x;first|(simp only[x,go_sem,Nat.reduceEqDiff,Nat.reduceAdd,Nat.reduceLeDiff,Nat.reduceLT,Nat.reduceMul,Nat.reduceSub,reduceIte,reduceCtorEq,Int.reduceEq,Int.reduceLT,Int.reduceLE,Nat.reduceBEq,Int.reduceToNat,cV];first|done|rfl|fail)|rfl|fail)):p:=h x
theorem cB{p:Prop}(h:p:=by(first|(simp only[*,go_sem,Nat.reduceEqDiff,Nat.reduceAdd,Nat.reduceLeDiff,Nat.reduceLT,Nat.reduceMul,Nat.reduceSub,reduceIte,reduceCtorEq,Int.reduceEq,Int.reduceLT,Int.reduceLE,Nat.reduceBEq,Int.reduceToNat,cV];first|done|rfl|fail)|rfl|fail)):p:=h
theorem P9{p q:Prop}(g:q)(h:Nx p q:=by(simp only[go_sem,Nat.reduceEqDiff,Nat.reduceAdd,Nat.reduceLeDiff,Nat.reduceLT,Nat.reduceMul,Nat.reduceSub,reduceIte,reduceCtorEq,Int.reduceEq,Int.reduceLT,Int.reduceLE,Nat.reduceBEq,Int.reduceToNat,cV,cG,gX,gr];exact Nx.r)):p:=h g
theorem EL{p q a:Prop}(x:a)(g:q)(h:a->Nx p q:=by(intro x;simp only[x,go_sem,Nat.reduceEqDiff,Nat.reduceAdd,Nat.reduceLeDiff,Nat.reduceLT,Nat.reduceMul,Nat.reduceSub,reduceIte,reduceCtorEq,Int.reduceEq,Int.reduceLT,Int.reduceLE,Nat.reduceBEq,Int.reduceToNat,cV,cG,gX,gr];exact Nx.r)):p:=h x g
theorem Jg{p q:Prop}(g:q)(h:Nx p q:=by(simp only[*,go_sem,Nat.reduceEqDiff,Nat.reduceAdd,Nat.reduceLeDiff,Nat.reduceLT,Nat.reduceMul,Nat.reduceSub,reduceIte,reduceCtorEq,Int.reduceEq,Int.reduceLT,Int.reduceLE,Nat.reduceBEq,Int.reduceToNat,cV,cG,gX,gr];exact Nx.r)):p:=h g
theorem nB{p:Prop}(h:p:=by(first|(simp only[go_sem,Nat.reduceEqDiff,Nat.reduceAdd,Nat.reduceLeDiff,Nat.reduceLT,Nat.reduceMul,Nat.reduceSub,reduceIte,reduceCtorEq,Int.reduceEq,Int.reduceLT,Int.reduceLE,Nat.reduceBEq,Int.reduceToNat,cV,cG,gX,gr];first|done|rfl|fail)|rfl|fail)):p:=h
theorem sA{p a:Prop}(x:a)(h:a->p:=by(intro x;first|(simp only[x,go_sem,Nat.reduceEqDiff,Nat.reduceAdd,Nat.reduceLeDiff,Nat.reduceLT,Nat.reduceMul,Nat.reduceSub,reduceIte,reduceCtorEq,Int.reduceEq,Int.reduceLT,Int.reduceLE,Nat.reduceBEq,Int.reduceToNat,cV,cG,gX,gr];first|done|rfl|fail)|rfl|fail)):p:=h x
theorem PU{p:Prop}(h:p:=by(first|(simp only[*,go_sem,Nat.reduceEqDiff,Nat.reduceAdd,Nat.reduceLeDiff,Nat.reduceLT,Nat.reduceMul,Nat.reduceSub,reduceIte,reduceCtorEq,Int.reduceEq,Int.reduceLT,Int.reduceLE,Nat.reduceBEq,Int.reduceToNat,cV,cG,gX,gr];first|done|rfl|fail)|rfl|fail)):p:=h
theorem aaZ{p q a:Prop}(x:a)(g:q)(h:a->Nx p q:=by(intro x;simp only[x,go_sem,List.replicate_zero,List.flatten_nil,Nat.reduceEqDiff,Nat.reduceAdd,Nat.reduceLeDiff,Nat.reduceLT,Nat.reduceMul,Nat.reduceSub,reduceIte,reduceCtorEq,Int.reduceEq,Int.reduceLT,Int.reduceLE,Nat.reduceBEq,Int.reduceToNat,cV];exact Nx.r)):p:=h x g
theorem abk{p:Prop}(h:p:=by(first|(simp only[go_sem,List.replicate_zero,List.flatten_nil,Nat.reduceEqDiff,Nat.reduceAdd,Nat.reduceLeDiff,Nat.reduceLT,Nat.reduceMul,Nat.reduceSub,reduceIte,reduceCtorEq,Int.reduceEq,Int.reduceLT,Int.reduceLE,Nat.reduceBEq,Int.reduceToNat,cV];first|done|rfl|fail)|rfl|fail)):p:=h
theorem aa6{p a:Prop}(x:a)(h:a->p:=by(intro x;first|(simp only[x,go_sem,List.replicate_zero,List.flatten_nil,Nat.reduceEqDiff,Nat.reduceAdd,Nat.reduceLeDiff,Nat.reduceLT,Nat.reduceMul,Nat.reduceSub,reduceIte,reduceCtorEq,Int.reduceEq,Int.reduceLT,Int.reduceLE,Nat.reduceBEq,Int.reduceToNat,cV];first|done|rfl|fail)|rfl|fail)):p:=h x
theorem aaD{p q:Prop}(g:q)(h:q->p:=by(intro g;simp only[go_sem,Nat.reduceEqDiff,Nat.reduceAdd,Nat.reduceLeDiff,Nat.reduceLT,Nat.reduceMul,Nat.reduceSub,reduceIte,reduceCtorEq,Int.reduceEq,Int.reduceLT,Int.reduceLE,Nat.reduceBEq,Int.reduceToNat,cV]at g;exact g)):p:=h g
theorem aaA{p q a:Prop}(x:a)(g:q)(h:a->q->p:=by(intro x g;simp only[x,go_sem,Nat.reduceEqDiff,Nat.reduceAdd,Nat.reduceLeDiff,Nat.reduceLT,Nat.reduceMul,Nat.reduceSub,reduceIte,reduceCtorEq,Int.reduceEq,Int.reduceLT,Int.reduceLE,Nat.reduceBEq,Int.reduceToNat,cV]at g;exact g)):p:=h x g
theorem pE{p:Prop}(h:p:=by first|(intro b g r h;cases h;try (first|exact(‹aB _ (PV.ptr _ _ _)›).Jh|(rcases hS with h|⟨_,h⟩<;>cases h)))|fail):p:=h
theorem pP{p:Prop}(h:p:=by first|(intro b g r h;cases h)|fail):p:=h
theorem pQ{p:Prop}(h:p:=by first|(intro b g r h;first|(cases h;done)|(cases h;first|exact(ez.EM (by assumption)).elim|exact(jy.EM (by assumption)).elim))|fail):p:=h
theorem dM{p:Prop}(h:p:=by first|(first|rfl|exact cB)|fail):p:=h
theorem s7{p:Prop}(h:p:=by first|(refine⟨_,rfl,?_,?_⟩;(first|exact hF|exact fun _=>trivial|exact fun h=>absurd h Bool.false_ne_true);(simp[jz,mz,wW,kQ,ma, *];done))|fail):p:=h
theorem kH{p:Prop}(h:p:=by first|(exact hR _ _ _ _ (by((repeat' (first|exact lO.refl|refine lO.put (by decide) ?_));first|done|fail)) zB hF)|fail):p:=h
theorem wM{p:Prop}(h:p:=by first|(first|omega|((simp(disch:=omega) only[wrap_i64,wrap_u64,qK,s8,s9,tb,tc,td,te,tf,rL,tg,th,ti,tj,tk,tl,tm,tn]);omega)|assumption|rfl|(simp only[ByteArray.size_append,ig,List.length_cons,List.length_nil];omega)|(simp only[ByteArray.size_append,ig,List.length_cons,List.length_nil];(simp(disch:=omega) only[wrap_i64,wrap_u64,qK,s8,s9,tb,tc,td,te,tf,rL,tg,th,ti,tj,tk,tl,tm,tn]);omega))|fail):p:=h
theorem EN{p:Prop}(h:p:=by(refine aU aI ?_;exact trivial)):p:=h
theorem iW{p:Prop}(h:p:=by
 first
 |rfl
 |(exact EN)
 |(exact n6 hv.2.1)
 |(exact n6 (Kj cb.1 (Kj cb.2.1 (Kj cW.1 (Kj cW.2.1 (Kj kt.1 (Kj kt.2.1 (Kj ku.1 (Kj ku.2.1 (Kj cX.1 (Kj cX.2.1 (Kj cY.1 cY.2.1))))))))))))
 |(exact n6 (Kj cH.1 (Kj cH.2.1 (Kj bO.1 bO.2.1))))
 |(exact n6 (Kj bO.1 (Kj bO.2.1 (Kj cb.1 cb.2.1))))
 |(exact n6 (Kj kv.1 kv.2.1))
 |(exact n6 (Kj cH.1 (Kj cH.2.1 (Kj ee.1 (Kj ee.2.1 (Kj cZ.1 cZ.2.1))))))
 |(exact n6 (Kj cZ.1 (Kj cZ.2.1 (Kj ee.1 ee.2.1))))
 |(exact n6 (Kj kw.1 (Kj kw.2.1 (Kj eG.1 eG.2.1))))
 |(exact n6 (Kj cH.1 (Kj cH.2.1 (Kj bO.1 (Kj bO.2.1 (Kj iJ.1 (Kj iJ.2.1 (Kj jM.1 jM.2.1))))))))
 |(exact n6 (Kj ky.1 (Kj ky.2.1 (Kj kz.1 kz.2.1))))
 |(exact n6 (Kj cZ.1 (Kj cZ.2.1 (Kj bO.1 bO.2.1))))
 |(exact n6 (Kj bO.1 (Kj bO.2.1 (Kj eG.1 eG.2.1))))
 |(exact Qa)
 |fail):p:=h
theorem n6{p a:Prop}(x:a)(h:a->p:=by(intro x;refine aU x ?_;exact trivial)):p:=h x
theorem kR1{p:Prop}(h:p:=by
 first
 |((first|refine P7 rfl rfl rfl (fun R t0 H0 aI eU hR=>cG.2 ?_) (fun c g n'=>?_)|refine P8 rfl rfl rfl (fun R t0 H0 aI eU hR=>gr.2 ?_) (fun c g n'=>?_))<;>(try refine aU aI ?_)<;>exact b7)
 |fail):p:=h
theorem Qb{p:Prop}(h:p:=by first|(rintro _ ⟨c,rfl⟩;refine aU aI ?_;exact b7)|fail):p:=h
theorem lz{p:Prop}(h:p:=by first|(rintro _ ⟨c,rfl,hc⟩;cases c;all_goals (first|(have cy:=hc rfl;clear hc;(first|(obtain⟨nj,qz,zu⟩:_/\_/\_:=cy)|(obtain⟨nj,qz⟩:_/\_:=cy)|skip))|clear hc);all_goals (refine aU aI ?_;exact b7))|fail):p:=h
theorem b7{p:Prop}(h:p:=by
 repeat' first
 |exact⟨_,rfl⟩
 |exact⟨rfl,_,rfl⟩
 |exact cr
 |exact hR _ _ _ (by((repeat' (first|exact lO.refl|refine lO.put (by decide) ?_));first|done|fail)) zB
 |(simp only[cG];(try refine aU aI ?_))
 |(simp only[gX];(try refine aU aI ?_))
 |(simp only[gr];(try refine aU aI ?_))
 |(refine mw (fun hp hb=>?_) (fun hp hb=>?_)<;>(try subst hp)<;>refine aU hb ?_)
 |(refine pK (fun hp hb=>?_) (fun hp hb=>?_)<;>(try subst hp)<;>refine aU hb ?_)
 |(refine pL (fun hp hb=>?_) (fun hp hb=>?_)<;>(try subst hp)<;>refine aU hb ?_)
 |(refine pM (fun hp hb=>?_) (fun hp hb=>?_)<;>(try subst hp)<;>refine aU hb ?_)
 |(refine pN (fun hb=>?_) (fun hb=>?_)<;>(first|(subst hb;refine aU aI ?_)|refine aU hb ?_))
 |(refine ni (fun hb=>?_) (fun hb=>?_)<;>(first|(subst hb;refine aU aI ?_)|refine aU hb ?_))
 |(refine n5 (fun hb=>?_) (fun hb=>?_)<;>(first|(subst hb;refine aU aI ?_)|refine aU hb ?_))
 |exact bw
 |(refine zw (by assumption) rfl (‹aB _ _›:aB _ _).1 (by omega) ?_;refine aU aI ?_)
 |(refine cO (P:=EZ _) EZ.len ‹aB (EZ _) _› (by omega) (by omega) (fun y hy b6 hg=>?_);obtain⟨gm,n7,lP,EO,et,EP,kA,rM,n8,EQ,ER,n9,oa,rfl,ES,cb,rN,cW,kt,ku,cX,cY⟩:=hy.1.open hy.le;refine aU (Kj cb.1 (Kj cb.2.1 (Kj cW.1 (Kj cW.2.1 (Kj kt.1 (Kj kt.2.1 (Kj ku.1 (Kj ku.2.1 (Kj cX.1 (Kj cX.2.1 (Kj cY.1 cY.2.1))))))))))) ?_)
 |(refine dD (P:=EZ _) EZ.len ‹aB (EZ _) _› (by omega) (by omega) (fun v hv hg=>?_);refine aU (Kj hv.1 hv.2.1) ?_)
 |(refine cO (P:=PZ _) PZ.len ‹aB (PZ _) _› (by omega) (by omega) (fun y hy b6 hg=>?_);obtain⟨gm,et,ns,jq,rfl,fN,cH,bO⟩:=hy.1.open hy.le;refine aU (Kj cH.1 (Kj cH.2.1 (Kj bO.1 bO.2.1))) ?_)
 |(refine dD (P:=PZ _) PZ.len ‹aB (PZ _) _› (by omega) (by omega) (fun v hv hg=>?_);refine aU (Kj hv.1 hv.2.1) ?_)
 |(refine cO (P:=QZ _) QZ.len ‹aB (QZ _) _› (by omega) (by omega) (fun y hy b6 hg=>?_);obtain⟨jq,kA,rM,rfl,bO,cb,rN⟩:=hy.1.open hy.le;refine aU (Kj bO.1 (Kj bO.2.1 (Kj cb.1 cb.2.1))) ?_)
 |(refine dD (P:=QZ _) QZ.len ‹aB (QZ _) _› (by omega) (by omega) (fun v hv hg=>?_);refine aU (Kj hv.1 hv.2.1) ?_)
 |(refine cO (P:=BZ _) BZ.len ‹aB (BZ _) _› (by omega) (by omega) (fun y hy b6 hg=>?_);obtain⟨gm,lP,ET,EU,rfl,kv⟩:=hy.1.open hy.le;refine aU (Kj kv.1 kv.2.1) ?_)
 |(refine dD (P:=BZ _) BZ.len ‹aB (BZ _) _› (by omega) (by omega) (fun v hv hg=>?_);refine aU (Kj hv.1 hv.2.1) ?_)
 |(refine cO (P:=IZ _) IZ.len ‹aB (IZ _) _› (by omega) (by omega) (fun y hy b6 hg=>?_);obtain⟨et,ns,tp,ob,od,oe,og,rfl,fN,cH,ee,mL,cZ⟩:=hy.1.open hy.le;refine aU (Kj cH.1 (Kj cH.2.1 (Kj ee.1 (Kj ee.2.1 (Kj cZ.1 cZ.2.1))))) ?_)
 |(refine dD (P:=IZ _) IZ.len ‹aB (IZ _) _› (by omega) (by omega) (fun v hv hg=>?_);refine aU (Kj hv.1 hv.2.1) ?_)
 |(refine cO (P:=AZ _) AZ.len ‹aB (AZ _) _› (by omega) (by omega) (fun y hy b6 hg=>?_);obtain⟨ob,od,oe,og,tp,rfl,mL,cZ,ee⟩:=hy.1.open hy.le;refine aU (Kj cZ.1 (Kj cZ.2.1 (Kj ee.1 ee.2.1))) ?_)
 |(refine dD (P:=AZ _) AZ.len ‹aB (AZ _) _› (by omega) (by omega) (fun v hv hg=>?_);refine aU (Kj hv.1 hv.2.1) ?_)
 |(refine cO (P:=FZ _) FZ.len ‹aB (FZ _) _› (by omega) (by omega) (fun y hy b6 hg=>?_);obtain⟨tq,et,EV,pO,rfl,fN,kw,eG⟩:=hy.1.open hy.le;refine aU (Kj kw.1 (Kj kw.2.1 (Kj eG.1 eG.2.1))) ?_)
 |(refine dD (P:=FZ _) FZ.len ‹aB (FZ _) _› (by omega) (by omega) (fun v hv hg=>?_);refine aU (Kj hv.1 hv.2.1) ?_)
 |(refine cO (P:=MZ _) MZ.len ‹aB (MZ _) _› (by omega) (by omega) (fun y hy b6 hg=>?_);obtain⟨gm,et,ns,jq,EW,BB,rfl,fN,cH,bO,iJ,jM⟩:=hy.1.open hy.le;refine aU (Kj cH.1 (Kj cH.2.1 (Kj bO.1 (Kj bO.2.1 (Kj iJ.1 (Kj iJ.2.1 (Kj jM.1 jM.2.1))))))) ?_)
 |(refine dD (P:=MZ _) MZ.len ‹aB (MZ _) _› (by omega) (by omega) (fun v hv hg=>?_);refine aU (Kj hv.1 hv.2.1) ?_)
 |(refine cO (P:=CZ _) CZ.len ‹aB (CZ _) _› (by omega) (by omega) (fun y hy b6 hg=>?_);obtain⟨tq,EX,EY,rfl,ky,kz⟩:=hy.1.open hy.le;refine aU (Kj ky.1 (Kj ky.2.1 (Kj kz.1 kz.2.1))) ?_)
 |(refine dD (P:=CZ _) CZ.len ‹aB (CZ _) _› (by omega) (by omega) (fun v hv hg=>?_);refine aU (Kj hv.1 hv.2.1) ?_)
 |(refine cO (P:=DZ _) DZ.len ‹aB (DZ _) _› (by omega) (by omega) (fun y hy b6 hg=>?_);obtain⟨ob,od,oe,og,jq,rfl,mL,cZ,bO⟩:=hy.1.open hy.le;refine aU (Kj cZ.1 (Kj cZ.2.1 (Kj bO.1 bO.2.1))) ?_)
 |(refine dD (P:=DZ _) DZ.len ‹aB (DZ _) _› (by omega) (by omega) (fun v hv hg=>?_);refine aU (Kj hv.1 hv.2.1) ?_)
 |(refine cO (P:=KZ _) KZ.len ‹aB (KZ _) _› (by omega) (by omega) (fun y hy b6 hg=>?_);obtain⟨jq,pO,rfl,bO,eG⟩:=hy.1.open hy.le;refine aU (Kj bO.1 (Kj bO.2.1 (Kj eG.1 eG.2.1))) ?_)
 |(refine dD (P:=KZ _) KZ.len ‹aB (KZ _) _› (by omega) (by omega) (fun v hv hg=>?_);refine aU (Kj hv.1 hv.2.1) ?_)
 |(exact Qc)
 |(refine dD (P:=SZ _) SZ.len ‹aB (SZ _) _› (by omega) (by omega) (fun v hv hg=>?_);refine aU (Kj hv.1 hv.2.1) ?_)
 |(refine aU (Kj cb.1 (Kj cb.2.1 (Kj cW.1 (Kj cW.2.1 (Kj kt.1 (Kj kt.2.1 (Kj ku.1 (Kj ku.2.1 (Kj cX.1 (Kj cX.2.1 (Kj cY.1 cY.2.1))))))))))) ?_)
 |(refine aU (Kj cH.1 (Kj cH.2.1 (Kj bO.1 bO.2.1))) ?_)
 |(refine aU (Kj bO.1 (Kj bO.2.1 (Kj cb.1 cb.2.1))) ?_)
 |(refine aU (Kj kv.1 kv.2.1) ?_)
 |(refine aU (Kj cH.1 (Kj cH.2.1 (Kj ee.1 (Kj ee.2.1 (Kj cZ.1 cZ.2.1))))) ?_)
 |(refine aU (Kj cZ.1 (Kj cZ.2.1 (Kj ee.1 ee.2.1))) ?_)
 |(refine aU (Kj kw.1 (Kj kw.2.1 (Kj eG.1 eG.2.1))) ?_)
 |(refine aU (Kj cH.1 (Kj cH.2.1 (Kj bO.1 (Kj bO.2.1 (Kj iJ.1 (Kj iJ.2.1 (Kj jM.1 jM.2.1))))))) ?_)
 |(refine aU (Kj ky.1 (Kj ky.2.1 (Kj kz.1 kz.2.1))) ?_)
 |(refine aU (Kj cZ.1 (Kj cZ.2.1 (Kj bO.1 bO.2.1))) ?_)
 |(refine aU (Kj bO.1 (Kj bO.2.1 (Kj eG.1 eG.2.1))) ?_)
 |(exact Qd)
 |exact trivial
 |exact bj
 |fail
 first|done|fail):p:=h
theorem fX{p:Prop}(h:p:=by first|(rintro _ b1 ⟨_,rfl,lQ⟩ lR hF;obtain⟨nk,nt,nm,nn,gJ,na,rfl,hN⟩:=lQ.open;have hS:=hN.1;have dR:=hN.2.1;(try refine cA ?_);exact az)|fail):p:=h
theorem E3{p:Prop}(h:p:=by first|(rintro r b1 ⟨hS,dR,jN,lS⟩ lR hF;(try refine cA ?_);exact az)|fail):p:=h
theorem Ji{p:Prop}(h:p:=by first|(rintro _ ⟨_,rfl,lQ⟩;obtain⟨nk,nt,nm,nn,gJ,na,rfl,hN⟩:=lQ.open;have hS:=hN.1;have dR:=hN.2.1;(try refine cA ?_);exact az)|fail):p:=h
theorem kB{p:Prop}(h:p:=by first|((try refine cA ?_);exact az)|fail):p:=h
theorem az{p:Prop}(h:p:=by
 repeat' first
 |contradiction
 |exact cr
 |(simp only[cG];(try refine cA ?_))
 |(simp only[gX];(try refine cA ?_))
 |(simp only[gr];(try refine cA ?_))
 |(refine mw (fun hp hb=>?_) (fun hp hb=>?_)<;>(try subst hp)<;>refine cA ?_)
 |(refine pK (fun hp hb=>?_) (fun hp hb=>?_)<;>(try subst hp)<;>refine cA ?_)
 |(refine pL (fun hp hb=>?_) (fun hp hb=>?_)<;>(try subst hp)<;>refine cA ?_)
 |(refine pM (fun hp hb=>?_) (fun hp hb=>?_)<;>(try subst hp)<;>refine cA ?_)
 |(refine pN (fun hb=>?_) (fun hb=>?_)<;>(first|(subst hb;(try have dS:=dS rfl);(try simp only[decide_eq_true_eq]at dS);(try subst dS);first|contradiction|refine cA ?_)|refine cA ?_))
 |(refine ni (fun hb=>?_) (fun hb=>?_)<;>(first|(subst hb;(try have dS:=dS rfl);(try simp only[decide_eq_true_eq]at dS);(try subst dS);first|contradiction|refine cA ?_)|refine cA ?_))
 |(refine n5 (fun hb=>?_) (fun hb=>?_)<;>(first|(subst hb;(try have dS:=dS rfl);(try simp only[decide_eq_true_eq]at dS);(try subst dS);first|contradiction|refine cA ?_)|refine cA ?_))
 |exact bw
 |(refine zw (by assumption) rfl (‹aB _ _›:aB _ _).1 (by omega) ?_;refine cA ?_)
 |(refine cO (P:=EZ _) EZ.len ‹aB (EZ _) _› (by omega) (by omega) (fun y hy b6 hg=>?_);obtain⟨gm,n7,lP,EO,et,EP,kA,rM,n8,EQ,ER,n9,oa,rfl,ES,cb,rN,cW,kt,ku,cX,cY⟩:=hy.1.open hy.le;have:=cb.1;have:=cb.2.1;have:=cW.1;have:=cW.2.1;have:=kt.1;have:=kt.2.1;have:=ku.1;have:=ku.2.1;have:=cX.1;have:=cX.2.1;have:=cY.1;have:=cY.2.1;refine cA ?_)
 |(refine dD (P:=EZ _) EZ.len ‹aB (EZ _) _› (by omega) (by omega) (fun v hv hg=>?_);have:=hv.1;have:=hv.2.1;refine cA ?_)
 |(refine cO (P:=PZ _) PZ.len ‹aB (PZ _) _› (by omega) (by omega) (fun y hy b6 hg=>?_);obtain⟨gm,et,ns,jq,rfl,fN,cH,bO⟩:=hy.1.open hy.le;have:=cH.1;have:=cH.2.1;have:=bO.1;have:=bO.2.1;refine cA ?_)
 |(refine dD (P:=PZ _) PZ.len ‹aB (PZ _) _› (by omega) (by omega) (fun v hv hg=>?_);have:=hv.1;have:=hv.2.1;refine cA ?_)
 |(refine cO (P:=QZ _) QZ.len ‹aB (QZ _) _› (by omega) (by omega) (fun y hy b6 hg=>?_);obtain⟨jq,kA,rM,rfl,bO,cb,rN⟩:=hy.1.open hy.le;have:=bO.1;have:=bO.2.1;have:=cb.1;have:=cb.2.1;refine cA ?_)
 |(refine dD (P:=QZ _) QZ.len ‹aB (QZ _) _› (by omega) (by omega) (fun v hv hg=>?_);have:=hv.1;have:=hv.2.1;refine cA ?_)
 |(refine cO (P:=BZ _) BZ.len ‹aB (BZ _) _› (by omega) (by omega) (fun y hy b6 hg=>?_);obtain⟨gm,lP,ET,EU,rfl,kv⟩:=hy.1.open hy.le;have:=kv.1;have:=kv.2.1;refine cA ?_)
 |(refine dD (P:=BZ _) BZ.len ‹aB (BZ _) _› (by omega) (by omega) (fun v hv hg=>?_);have:=hv.1;have:=hv.2.1;refine cA ?_)
 |(refine cO (P:=IZ _) IZ.len ‹aB (IZ _) _› (by omega) (by omega) (fun y hy b6 hg=>?_);obtain⟨et,ns,tp,ob,od,oe,og,rfl,fN,cH,ee,mL,cZ⟩:=hy.1.open hy.le;have:=cH.1;have:=cH.2.1;have:=ee.1;have:=ee.2.1;have:=cZ.1;have:=cZ.2.1;refine cA ?_)
 |(refine dD (P:=IZ _) IZ.len ‹aB (IZ _) _› (by omega) (by omega) (fun v hv hg=>?_);have:=hv.1;have:=hv.2.1;refine cA ?_)
 |(refine cO (P:=AZ _) AZ.len ‹aB (AZ _) _› (by omega) (by omega) (fun y hy b6 hg=>?_);obtain⟨ob,od,oe,og,tp,rfl,mL,cZ,ee⟩:=hy.1.open hy.le;have:=cZ.1;have:=cZ.2.1;have:=ee.1;have:=ee.2.1;refine cA ?_)
 |(refine dD (P:=AZ _) AZ.len ‹aB (AZ _) _› (by omega) (by omega) (fun v hv hg=>?_);have:=hv.1;have:=hv.2.1;refine cA ?_)
 |(refine cO (P:=FZ _) FZ.len ‹aB (FZ _) _› (by omega) (by omega) (fun y hy b6 hg=>?_);obtain⟨tq,et,EV,pO,rfl,fN,kw,eG⟩:=hy.1.open hy.le;have:=kw.1;have:=kw.2.1;have:=eG.1;have:=eG.2.1;refine cA ?_)
 |(refine dD (P:=FZ _) FZ.len ‹aB (FZ _) _› (by omega) (by omega) (fun v hv hg=>?_);have:=hv.1;have:=hv.2.1;refine cA ?_)
 |(refine cO (P:=MZ _) MZ.len ‹aB (MZ _) _› (by omega) (by omega) (fun y hy b6 hg=>?_);obtain⟨gm,et,ns,jq,EW,BB,rfl,fN,cH,bO,iJ,jM⟩:=hy.1.open hy.le;have:=cH.1;have:=cH.2.1;have:=bO.1;have:=bO.2.1;have:=iJ.1;have:=iJ.2.1;have:=jM.1;have:=jM.2.1;refine cA ?_)
 |(refine dD (P:=MZ _) MZ.len ‹aB (MZ _) _› (by omega) (by omega) (fun v hv hg=>?_);have:=hv.1;have:=hv.2.1;refine cA ?_)
 |(refine cO (P:=CZ _) CZ.len ‹aB (CZ _) _› (by omega) (by omega) (fun y hy b6 hg=>?_);obtain⟨tq,EX,EY,rfl,ky,kz⟩:=hy.1.open hy.le;have:=ky.1;have:=ky.2.1;have:=kz.1;have:=kz.2.1;refine cA ?_)
 |(refine dD (P:=CZ _) CZ.len ‹aB (CZ _) _› (by omega) (by omega) (fun v hv hg=>?_);have:=hv.1;have:=hv.2.1;refine cA ?_)
 |(refine cO (P:=DZ _) DZ.len ‹aB (DZ _) _› (by omega) (by omega) (fun y hy b6 hg=>?_);obtain⟨ob,od,oe,og,jq,rfl,mL,cZ,bO⟩:=hy.1.open hy.le;have:=cZ.1;have:=cZ.2.1;have:=bO.1;have:=bO.2.1;refine cA ?_)
 |(refine dD (P:=DZ _) DZ.len ‹aB (DZ _) _› (by omega) (by omega) (fun v hv hg=>?_);have:=hv.1;have:=hv.2.1;refine cA ?_)
 |(refine cO (P:=KZ _) KZ.len ‹aB (KZ _) _› (by omega) (by omega) (fun y hy b6 hg=>?_);obtain⟨jq,pO,rfl,bO,eG⟩:=hy.1.open hy.le;have:=bO.1;have:=bO.2.1;have:=eG.1;have:=eG.2.1;refine cA ?_)
 |(refine dD (P:=KZ _) KZ.len ‹aB (KZ _) _› (by omega) (by omega) (fun v hv hg=>?_);have:=hv.1;have:=hv.2.1;refine cA ?_)
 |(exact Qe)
 |(refine dD (P:=SZ _) SZ.len ‹aB (SZ _) _› (by omega) (by omega) (fun v hv hg=>?_);have:=hv.1;have:=hv.2.1;refine cA ?_)
 |(refine wX (by omega) (by omega) ?_;refine cA ?_)
 |exact trivial
 |exact bj
 |fail
 first|done|fail):p:=h
theorem lA{p:Prop}(h:p:=by(first|exact EN|(refine aU aI ?_;rfl))):p:=h
theorem fe{p:Prop}(h:p:=by first|(first|rfl|exact EN)|fail):p:=h
theorem lT{p:Prop}(h:p:=by first|(first|rfl|exact EN|(simp only[aP,aw,Bool.and_true,Bool.and_self, *];done))|fail):p:=h
theorem bp{p:Prop}(h:p:=by
 repeat' first
 |contradiction
 |exact cr
 |(simp(disch:=omega) only[wrap_i64,wrap_u64,qK,s8,s9,tb,tc,td,te,tf,rL,tg,th,ti,tj,tk,tl,tm,tn];(try refine aU aI ?_))
 |exact Qf
 |(simp only[cG];(try refine aU aI ?_))
 |(simp only[gX];(try refine aU aI ?_))
 |(simp only[gr];(try refine aU aI ?_))
 |(refine mw (fun hp hb=>?_) (fun hp hb=>?_)<;>refine aU hb ?_)
 |(refine pK (fun hp hb=>?_) (fun hp hb=>?_)<;>refine aU hb ?_)
 |(refine pL (fun hp hb=>?_) (fun hp hb=>?_)<;>refine aU hb ?_)
 |(refine pM (fun hp hb=>?_) (fun hp hb=>?_)<;>refine aU hb ?_)
 |(refine pN (fun hb=>?_) (fun hb=>?_)<;>(first|(subst hb;refine aU aI ?_)|refine aU hb ?_))
 |(refine ni (fun hb=>?_) (fun hb=>?_)<;>(first|(subst hb;refine aU aI ?_)|refine aU hb ?_))
 |(refine n5 (fun hb=>?_) (fun hb=>?_)<;>(first|(subst hb;refine aU aI ?_)|refine aU hb ?_))
 |exact bw
 |(refine wY ?_;(try refine aU aI ?_);refine oh (by omega) (by omega) (fun b hb dX dG=>?_);refine aU aI ?_)
 |(refine wZ ?_;(try simp only[Option.map_some,Option.map_none]);(try refine aU aI ?_);refine oi rfl rfl (by omega) (by omega) (by omega) (fun z hz ec=>?_);refine aU aI ?_)
 |(refine oi rfl rfl (by omega) (by omega) (by omega) (fun z hz ec=>?_);refine aU aI ?_)
 |(refine oh (by omega) (by omega) (fun b hb dX dG=>?_);refine aU aI ?_)
 |(rw[if_pos (by first|omega|(simp only[ByteArray.size_append,ig,List.length_cons,List.length_nil];omega))];refine aU aI ?_)
 |exact trivial
 |exact bj
 |fail
 first|done|fail):p:=h
theorem E4{p:Prop}(h:p:=by(refine bx aI ?_;exact trivial)):p:=h
theorem u7{p:Prop}(h:p:=by
 first
 |rfl
 |(exact E4)
 |(exact oj hv.2.1)
 |(exact oj (Kj cb.1 (Kj cb.2.1 (Kj cW.1 (Kj cW.2.1 (Kj kt.1 (Kj kt.2.1 (Kj ku.1 (Kj ku.2.1 (Kj cX.1 (Kj cX.2.1 (Kj cY.1 cY.2.1))))))))))))
 |(exact oj (Kj cH.1 (Kj cH.2.1 (Kj bO.1 bO.2.1))))
 |(exact oj (Kj bO.1 (Kj bO.2.1 (Kj cb.1 cb.2.1))))
 |(exact oj (Kj kv.1 kv.2.1))
 |(exact oj (Kj cH.1 (Kj cH.2.1 (Kj ee.1 (Kj ee.2.1 (Kj cZ.1 cZ.2.1))))))
 |(exact oj (Kj cZ.1 (Kj cZ.2.1 (Kj ee.1 ee.2.1))))
 |(exact oj (Kj kw.1 (Kj kw.2.1 (Kj eG.1 eG.2.1))))
 |(exact oj (Kj cH.1 (Kj cH.2.1 (Kj bO.1 (Kj bO.2.1 (Kj iJ.1 (Kj iJ.2.1 (Kj jM.1 jM.2.1))))))))
 |(exact oj (Kj ky.1 (Kj ky.2.1 (Kj kz.1 kz.2.1))))
 |(exact oj (Kj cZ.1 (Kj cZ.2.1 (Kj bO.1 bO.2.1))))
 |(exact oj (Kj bO.1 (Kj bO.2.1 (Kj eG.1 eG.2.1))))
 |(exact Qg)
 |fail):p:=h
theorem oj{p a:Prop}(x:a)(h:a->p:=by(intro x;refine bx x ?_;exact trivial)):p:=h x
theorem va{p:Prop}(h:p:=by first|(rintro _ ⟨c,rfl,hc⟩;cases c;all_goals (first|(have cy:=hc rfl;clear hc;(first|(obtain⟨nj,qz,zu⟩:_/\_/\_:=cy)|(obtain⟨nj,qz⟩:_/\_:=cy)|skip))|clear hc);all_goals (refine bx aI ?_;exact mb))|fail):p:=h
theorem mb{p:Prop}(h:p:=by
 repeat' first
 |exact⟨_,rfl⟩
 |exact⟨rfl,_,rfl⟩
 |exact gw
 |exact hR _ _ _ (by((repeat' (first|exact lO.refl|refine lO.put (by decide) ?_));first|done|fail)) zB
 |(simp only[cG];(try refine bx aI ?_))
 |(simp only[gX];(try refine bx aI ?_))
 |(simp only[gr];(try refine bx aI ?_))
 |(refine mw (fun hp hb=>?_) (fun hp hb=>?_)<;>(try subst hp)<;>refine bx hb ?_)
 |(refine pK (fun hp hb=>?_) (fun hp hb=>?_)<;>(try subst hp)<;>refine bx hb ?_)
 |(refine pL (fun hp hb=>?_) (fun hp hb=>?_)<;>(try subst hp)<;>refine bx hb ?_)
 |(refine pM (fun hp hb=>?_) (fun hp hb=>?_)<;>(try subst hp)<;>refine bx hb ?_)
 |(refine pN (fun hb=>?_) (fun hb=>?_)<;>(first|(subst hb;refine bx aI ?_)|refine bx hb ?_))
 |(refine ni (fun hb=>?_) (fun hb=>?_)<;>(first|(subst hb;refine bx aI ?_)|refine bx hb ?_))
 |(refine n5 (fun hb=>?_) (fun hb=>?_)<;>(first|(subst hb;refine bx aI ?_)|refine bx hb ?_))
 |exact cw
 |(refine zw (by assumption) rfl (‹aB _ _›:aB _ _).1 (by omega) ?_;refine bx aI ?_)
 |(refine cO (P:=EZ _) EZ.len ‹aB (EZ _) _› (by omega) (by omega) (fun y hy b6 hg=>?_);obtain⟨gm,n7,lP,EO,et,EP,kA,rM,n8,EQ,ER,n9,oa,rfl,ES,cb,rN,cW,kt,ku,cX,cY⟩:=hy.1.open hy.le;refine bx (Kj cb.1 (Kj cb.2.1 (Kj cW.1 (Kj cW.2.1 (Kj kt.1 (Kj kt.2.1 (Kj ku.1 (Kj ku.2.1 (Kj cX.1 (Kj cX.2.1 (Kj cY.1 cY.2.1))))))))))) ?_)
 |(refine dD (P:=EZ _) EZ.len ‹aB (EZ _) _› (by omega) (by omega) (fun v hv hg=>?_);refine bx (Kj hv.1 hv.2.1) ?_)
 |(refine cO (P:=PZ _) PZ.len ‹aB (PZ _) _› (by omega) (by omega) (fun y hy b6 hg=>?_);obtain⟨gm,et,ns,jq,rfl,fN,cH,bO⟩:=hy.1.open hy.le;refine bx (Kj cH.1 (Kj cH.2.1 (Kj bO.1 bO.2.1))) ?_)
 |(refine dD (P:=PZ _) PZ.len ‹aB (PZ _) _› (by omega) (by omega) (fun v hv hg=>?_);refine bx (Kj hv.1 hv.2.1) ?_)
 |(refine cO (P:=QZ _) QZ.len ‹aB (QZ _) _› (by omega) (by omega) (fun y hy b6 hg=>?_);obtain⟨jq,kA,rM,rfl,bO,cb,rN⟩:=hy.1.open hy.le;refine bx (Kj bO.1 (Kj bO.2.1 (Kj cb.1 cb.2.1))) ?_)
 |(refine dD (P:=QZ _) QZ.len ‹aB (QZ _) _› (by omega) (by omega) (fun v hv hg=>?_);refine bx (Kj hv.1 hv.2.1) ?_)
 |(refine cO (P:=BZ _) BZ.len ‹aB (BZ _) _› (by omega) (by omega) (fun y hy b6 hg=>?_);obtain⟨gm,lP,ET,EU,rfl,kv⟩:=hy.1.open hy.le;refine bx (Kj kv.1 kv.2.1) ?_)
 |(refine dD (P:=BZ _) BZ.len ‹aB (BZ _) _› (by omega) (by omega) (fun v hv hg=>?_);refine bx (Kj hv.1 hv.2.1) ?_)
 |(refine cO (P:=IZ _) IZ.len ‹aB (IZ _) _› (by omega) (by omega) (fun y hy b6 hg=>?_);obtain⟨et,ns,tp,ob,od,oe,og,rfl,fN,cH,ee,mL,cZ⟩:=hy.1.open hy.le;refine bx (Kj cH.1 (Kj cH.2.1 (Kj ee.1 (Kj ee.2.1 (Kj cZ.1 cZ.2.1))))) ?_)
 |(refine dD (P:=IZ _) IZ.len ‹aB (IZ _) _› (by omega) (by omega) (fun v hv hg=>?_);refine bx (Kj hv.1 hv.2.1) ?_)
 |(refine cO (P:=AZ _) AZ.len ‹aB (AZ _) _› (by omega) (by omega) (fun y hy b6 hg=>?_);obtain⟨ob,od,oe,og,tp,rfl,mL,cZ,ee⟩:=hy.1.open hy.le;refine bx (Kj cZ.1 (Kj cZ.2.1 (Kj ee.1 ee.2.1))) ?_)
 |(refine dD (P:=AZ _) AZ.len ‹aB (AZ _) _› (by omega) (by omega) (fun v hv hg=>?_);refine bx (Kj hv.1 hv.2.1) ?_)
 |(refine cO (P:=FZ _) FZ.len ‹aB (FZ _) _› (by omega) (by omega) (fun y hy b6 hg=>?_);obtain⟨tq,et,EV,pO,rfl,fN,kw,eG⟩:=hy.1.open hy.le;refine bx (Kj kw.1 (Kj kw.2.1 (Kj eG.1 eG.2.1))) ?_)
 |(refine dD (P:=FZ _) FZ.len ‹aB (FZ _) _› (by omega) (by omega) (fun v hv hg=>?_);refine bx (Kj hv.1 hv.2.1) ?_)
 |(refine cO (P:=MZ _) MZ.len ‹aB (MZ _) _› (by omega) (by omega) (fun y hy b6 hg=>?_);obtain⟨gm,et,ns,jq,EW,BB,rfl,fN,cH,bO,iJ,jM⟩:=hy.1.open hy.le;refine bx (Kj cH.1 (Kj cH.2.1 (Kj bO.1 (Kj bO.2.1 (Kj iJ.1 (Kj iJ.2.1 (Kj jM.1 jM.2.1))))))) ?_)
 |(refine dD (P:=MZ _) MZ.len ‹aB (MZ _) _› (by omega) (by omega) (fun v hv hg=>?_);refine bx (Kj hv.1 hv.2.1) ?_)
 |(refine cO (P:=CZ _) CZ.len ‹aB (CZ _) _› (by omega) (by omega) (fun y hy b6 hg=>?_);obtain⟨tq,EX,EY,rfl,ky,kz⟩:=hy.1.open hy.le;refine bx (Kj ky.1 (Kj ky.2.1 (Kj kz.1 kz.2.1))) ?_)
 |(refine dD (P:=CZ _) CZ.len ‹aB (CZ _) _› (by omega) (by omega) (fun v hv hg=>?_);refine bx (Kj hv.1 hv.2.1) ?_)
 |(refine cO (P:=DZ _) DZ.len ‹aB (DZ _) _› (by omega) (by omega) (fun y hy b6 hg=>?_);obtain⟨ob,od,oe,og,jq,rfl,mL,cZ,bO⟩:=hy.1.open hy.le;refine bx (Kj cZ.1 (Kj cZ.2.1 (Kj bO.1 bO.2.1))) ?_)
 |(refine dD (P:=DZ _) DZ.len ‹aB (DZ _) _› (by omega) (by omega) (fun v hv hg=>?_);refine bx (Kj hv.1 hv.2.1) ?_)
 |(refine cO (P:=KZ _) KZ.len ‹aB (KZ _) _› (by omega) (by omega) (fun y hy b6 hg=>?_);obtain⟨jq,pO,rfl,bO,eG⟩:=hy.1.open hy.le;refine bx (Kj bO.1 (Kj bO.2.1 (Kj eG.1 eG.2.1))) ?_)
 |(refine dD (P:=KZ _) KZ.len ‹aB (KZ _) _› (by omega) (by omega) (fun v hv hg=>?_);refine bx (Kj hv.1 hv.2.1) ?_)
 |(exact Qh)
 |(refine dD (P:=SZ _) SZ.len ‹aB (SZ _) _› (by omega) (by omega) (fun v hv hg=>?_);refine bx (Kj hv.1 hv.2.1) ?_)
 |(refine bx (Kj cb.1 (Kj cb.2.1 (Kj cW.1 (Kj cW.2.1 (Kj kt.1 (Kj kt.2.1 (Kj ku.1 (Kj ku.2.1 (Kj cX.1 (Kj cX.2.1 (Kj cY.1 cY.2.1))))))))))) ?_)
 |(refine bx (Kj cH.1 (Kj cH.2.1 (Kj bO.1 bO.2.1))) ?_)
 |(refine bx (Kj bO.1 (Kj bO.2.1 (Kj cb.1 cb.2.1))) ?_)
 |(refine bx (Kj kv.1 kv.2.1) ?_)
 |(refine bx (Kj cH.1 (Kj cH.2.1 (Kj ee.1 (Kj ee.2.1 (Kj cZ.1 cZ.2.1))))) ?_)
 |(refine bx (Kj cZ.1 (Kj cZ.2.1 (Kj ee.1 ee.2.1))) ?_)
 |(refine bx (Kj kw.1 (Kj kw.2.1 (Kj eG.1 eG.2.1))) ?_)
 |(refine bx (Kj cH.1 (Kj cH.2.1 (Kj bO.1 (Kj bO.2.1 (Kj iJ.1 (Kj iJ.2.1 (Kj jM.1 jM.2.1))))))) ?_)
 |(refine bx (Kj ky.1 (Kj ky.2.1 (Kj kz.1 kz.2.1))) ?_)
 |(refine bx (Kj cZ.1 (Kj cZ.2.1 (Kj bO.1 bO.2.1))) ?_)
 |(refine bx (Kj bO.1 (Kj bO.2.1 (Kj eG.1 eG.2.1))) ?_)
 |(exact Qi)
 |exact trivial
 |exact fu
 |fail
 first|done|fail):p:=h
theorem vb{p:Prop}(h:p:=by first|(rintro _ b1 ⟨_,rfl,lQ⟩ lR hF;obtain⟨nk,nt,nm,nn,gJ,na,rfl,hN⟩:=lQ.open;have hS:=hN.1;have dR:=hN.2.1;(try refine cA ?_);exact bu)|fail):p:=h
theorem Qj{p:Prop}(h:p:=by first|(rintro r b1 ⟨hS,dR,jN,lS⟩ lR hF;(try refine cA ?_);exact bu)|fail):p:=h
theorem aiG{p:Prop}(h:p:=by first|(rintro _ ⟨_,rfl,lQ⟩;obtain⟨nk,nt,nm,nn,gJ,na,rfl,hN⟩:=lQ.open;have hS:=hN.1;have dR:=hN.2.1;(try refine cA ?_);exact bu)|fail):p:=h
theorem qL{p:Prop}(h:p:=by first|((try refine cA ?_);exact bu)|fail):p:=h
theorem bu{p:Prop}(h:p:=by
 repeat' first
 |contradiction
 |exact gw
 |(simp only[cG];(try refine cA ?_))
 |(simp only[gX];(try refine cA ?_))
 |(simp only[gr];(try refine cA ?_))
 |(refine mw (fun hp hb=>?_) (fun hp hb=>?_)<;>(try subst hp)<;>refine cA ?_)
 |(refine pK (fun hp hb=>?_) (fun hp hb=>?_)<;>(try subst hp)<;>refine cA ?_)
 |(refine pL (fun hp hb=>?_) (fun hp hb=>?_)<;>(try subst hp)<;>refine cA ?_)
 |(refine pM (fun hp hb=>?_) (fun hp hb=>?_)<;>(try subst hp)<;>refine cA ?_)
 |(refine pN (fun hb=>?_) (fun hb=>?_)<;>(first|(subst hb;(try have dS:=dS rfl);(try simp only[decide_eq_true_eq]at dS);(try subst dS);first|contradiction|refine cA ?_)|refine cA ?_))
 |(refine ni (fun hb=>?_) (fun hb=>?_)<;>(first|(subst hb;(try have dS:=dS rfl);(try simp only[decide_eq_true_eq]at dS);(try subst dS);first|contradiction|refine cA ?_)|refine cA ?_))
 |(refine n5 (fun hb=>?_) (fun hb=>?_)<;>(first|(subst hb;(try have dS:=dS rfl);(try simp only[decide_eq_true_eq]at dS);(try subst dS);first|contradiction|refine cA ?_)|refine cA ?_))
 |exact cw
 |(refine zw (by assumption) rfl (‹aB _ _›:aB _ _).1 (by omega) ?_;refine cA ?_)
 |(refine cO (P:=EZ _) EZ.len ‹aB (EZ _) _› (by omega) (by omega) (fun y hy b6 hg=>?_);obtain⟨gm,n7,lP,EO,et,EP,kA,rM,n8,EQ,ER,n9,oa,rfl,ES,cb,rN,cW,kt,ku,cX,cY⟩:=hy.1.open hy.le;have:=cb.1;have:=cb.2.1;have:=cW.1;have:=cW.2.1;have:=kt.1;have:=kt.2.1;have:=ku.1;have:=ku.2.1;have:=cX.1;have:=cX.2.1;have:=cY.1;have:=cY.2.1;refine cA ?_)
 |(refine dD (P:=EZ _) EZ.len ‹aB (EZ _) _› (by omega) (by omega) (fun v hv hg=>?_);have:=hv.1;have:=hv.2.1;refine cA ?_)
 |(refine cO (P:=PZ _) PZ.len ‹aB (PZ _) _› (by omega) (by omega) (fun y hy b6 hg=>?_);obtain⟨gm,et,ns,jq,rfl,fN,cH,bO⟩:=hy.1.open hy.le;have:=cH.1;have:=cH.2.1;have:=bO.1;have:=bO.2.1;refine cA ?_)
 |(refine dD (P:=PZ _) PZ.len ‹aB (PZ _) _› (by omega) (by omega) (fun v hv hg=>?_);have:=hv.1;have:=hv.2.1;refine cA ?_)
 |(refine cO (P:=QZ _) QZ.len ‹aB (QZ _) _› (by omega) (by omega) (fun y hy b6 hg=>?_);obtain⟨jq,kA,rM,rfl,bO,cb,rN⟩:=hy.1.open hy.le;have:=bO.1;have:=bO.2.1;have:=cb.1;have:=cb.2.1;refine cA ?_)
 |(refine dD (P:=QZ _) QZ.len ‹aB (QZ _) _› (by omega) (by omega) (fun v hv hg=>?_);have:=hv.1;have:=hv.2.1;refine cA ?_)
 |(refine cO (P:=BZ _) BZ.len ‹aB (BZ _) _› (by omega) (by omega) (fun y hy b6 hg=>?_);obtain⟨gm,lP,ET,EU,rfl,kv⟩:=hy.1.open hy.le;have:=kv.1;have:=kv.2.1;refine cA ?_)
 |(refine dD (P:=BZ _) BZ.len ‹aB (BZ _) _› (by omega) (by omega) (fun v hv hg=>?_);have:=hv.1;have:=hv.2.1;refine cA ?_)
 |(refine cO (P:=IZ _) IZ.len ‹aB (IZ _) _› (by omega) (by omega) (fun y hy b6 hg=>?_);obtain⟨et,ns,tp,ob,od,oe,og,rfl,fN,cH,ee,mL,cZ⟩:=hy.1.open hy.le;have:=cH.1;have:=cH.2.1;have:=ee.1;have:=ee.2.1;have:=cZ.1;have:=cZ.2.1;refine cA ?_)
 |(refine dD (P:=IZ _) IZ.len ‹aB (IZ _) _› (by omega) (by omega) (fun v hv hg=>?_);have:=hv.1;have:=hv.2.1;refine cA ?_)
 |(refine cO (P:=AZ _) AZ.len ‹aB (AZ _) _› (by omega) (by omega) (fun y hy b6 hg=>?_);obtain⟨ob,od,oe,og,tp,rfl,mL,cZ,ee⟩:=hy.1.open hy.le;have:=cZ.1;have:=cZ.2.1;have:=ee.1;have:=ee.2.1;refine cA ?_)
 |(refine dD (P:=AZ _) AZ.len ‹aB (AZ _) _› (by omega) (by omega) (fun v hv hg=>?_);have:=hv.1;have:=hv.2.1;refine cA ?_)
 |(refine cO (P:=FZ _) FZ.len ‹aB (FZ _) _› (by omega) (by omega) (fun y hy b6 hg=>?_);obtain⟨tq,et,EV,pO,rfl,fN,kw,eG⟩:=hy.1.open hy.le;have:=kw.1;have:=kw.2.1;have:=eG.1;have:=eG.2.1;refine cA ?_)
 |(refine dD (P:=FZ _) FZ.len ‹aB (FZ _) _› (by omega) (by omega) (fun v hv hg=>?_);have:=hv.1;have:=hv.2.1;refine cA ?_)
 |(refine cO (P:=MZ _) MZ.len ‹aB (MZ _) _› (by omega) (by omega) (fun y hy b6 hg=>?_);obtain⟨gm,et,ns,jq,EW,BB,rfl,fN,cH,bO,iJ,jM⟩:=hy.1.open hy.le;have:=cH.1;have:=cH.2.1;have:=bO.1;have:=bO.2.1;have:=iJ.1;have:=iJ.2.1;have:=jM.1;have:=jM.2.1;refine cA ?_)
 |(refine dD (P:=MZ _) MZ.len ‹aB (MZ _) _› (by omega) (by omega) (fun v hv hg=>?_);have:=hv.1;have:=hv.2.1;refine cA ?_)
 |(refine cO (P:=CZ _) CZ.len ‹aB (CZ _) _› (by omega) (by omega) (fun y hy b6 hg=>?_);obtain⟨tq,EX,EY,rfl,ky,kz⟩:=hy.1.open hy.le;have:=ky.1;have:=ky.2.1;have:=kz.1;have:=kz.2.1;refine cA ?_)
 |(refine dD (P:=CZ _) CZ.len ‹aB (CZ _) _› (by omega) (by omega) (fun v hv hg=>?_);have:=hv.1;have:=hv.2.1;refine cA ?_)
 |(refine cO (P:=DZ _) DZ.len ‹aB (DZ _) _› (by omega) (by omega) (fun y hy b6 hg=>?_);obtain⟨ob,od,oe,og,jq,rfl,mL,cZ,bO⟩:=hy.1.open hy.le;have:=cZ.1;have:=cZ.2.1;have:=bO.1;have:=bO.2.1;refine cA ?_)
 |(refine dD (P:=DZ _) DZ.len ‹aB (DZ _) _› (by omega) (by omega) (fun v hv hg=>?_);have:=hv.1;have:=hv.2.1;refine cA ?_)
 |(refine cO (P:=KZ _) KZ.len ‹aB (KZ _) _› (by omega) (by omega) (fun y hy b6 hg=>?_);obtain⟨jq,pO,rfl,bO,eG⟩:=hy.1.open hy.le;have:=bO.1;have:=bO.2.1;have:=eG.1;have:=eG.2.1;refine cA ?_)
 |(refine dD (P:=KZ _) KZ.len ‹aB (KZ _) _› (by omega) (by omega) (fun v hv hg=>?_);have:=hv.1;have:=hv.2.1;refine cA ?_)
 |(exact Qk)
 |(refine dD (P:=SZ _) SZ.len ‹aB (SZ _) _› (by omega) (by omega) (fun v hv hg=>?_);have:=hv.1;have:=hv.2.1;refine cA ?_)
 |(refine wX (by omega) (by omega) ?_;refine cA ?_)
 |exact trivial
 |exact fu
 |fail
 first|done|fail):p:=h
theorem ol{p:Prop}(h:p:=by(first|exact E4|(refine bx aI ?_;rfl))):p:=h
theorem iK{p:Prop}(h:p:=by first|(first|rfl|exact E4)|fail):p:=h
theorem mM{p:Prop}(h:p:=by first|(first|rfl|exact E4|(simp only[aP,aw,Bool.and_true,Bool.and_self, *];done))|fail):p:=h
theorem bN{p:Prop}(h:p:=by
 repeat' first
 |contradiction
 |exact gw
 |(simp(disch:=omega) only[wrap_i64,wrap_u64,qK,s8,s9,tb,tc,td,te,tf,rL,tg,th,ti,tj,tk,tl,tm,tn];(try refine bx aI ?_))
 |exact gT
 |(simp only[cG];(try refine bx aI ?_))
 |(simp only[gX];(try refine bx aI ?_))
 |(simp only[gr];(try refine bx aI ?_))
 |(refine mw (fun hp hb=>?_) (fun hp hb=>?_)<;>refine bx hb ?_)
 |(refine pK (fun hp hb=>?_) (fun hp hb=>?_)<;>refine bx hb ?_)
 |(refine pL (fun hp hb=>?_) (fun hp hb=>?_)<;>refine bx hb ?_)
 |(refine pM (fun hp hb=>?_) (fun hp hb=>?_)<;>refine bx hb ?_)
 |(refine pN (fun hb=>?_) (fun hb=>?_)<;>(first|(subst hb;refine bx aI ?_)|refine bx hb ?_))
 |(refine ni (fun hb=>?_) (fun hb=>?_)<;>(first|(subst hb;refine bx aI ?_)|refine bx hb ?_))
 |(refine n5 (fun hb=>?_) (fun hb=>?_)<;>(first|(subst hb;refine bx aI ?_)|refine bx hb ?_))
 |exact cw
 |(refine wY ?_;(try refine bx aI ?_);refine oh (by omega) (by omega) (fun b hb dX dG=>?_);refine bx aI ?_)
 |(refine wZ ?_;(try simp only[Option.map_some,Option.map_none]);(try refine bx aI ?_);refine oi rfl rfl (by omega) (by omega) (by omega) (fun z hz ec=>?_);refine bx aI ?_)
 |(refine oi rfl rfl (by omega) (by omega) (by omega) (fun z hz ec=>?_);refine bx aI ?_)
 |(refine oh (by omega) (by omega) (fun b hb dX dG=>?_);refine bx aI ?_)
 |(rw[if_pos (by first|omega|(simp only[ByteArray.size_append,ig,List.length_cons,List.length_nil];omega))];refine bx aI ?_)
 |exact trivial
 |exact fu
 |fail
 first|done|fail):p:=h
theorem Jj{p:Prop}(h:p:=by(refine eV aI ?_;exact trivial)):p:=h
theorem iX{p:Prop}(h:p:=by
 repeat' first
 |contradiction
 |exact BC
 |(simp only[cG];(try refine cA ?_))
 |(simp only[gX];(try refine cA ?_))
 |(simp only[gr];(try refine cA ?_))
 |(refine mw (fun hp hb=>?_) (fun hp hb=>?_)<;>(try subst hp)<;>refine cA ?_)
 |(refine pK (fun hp hb=>?_) (fun hp hb=>?_)<;>(try subst hp)<;>refine cA ?_)
 |(refine pL (fun hp hb=>?_) (fun hp hb=>?_)<;>(try subst hp)<;>refine cA ?_)
 |(refine pM (fun hp hb=>?_) (fun hp hb=>?_)<;>(try subst hp)<;>refine cA ?_)
 |(refine pN (fun hb=>?_) (fun hb=>?_)<;>(first|(subst hb;(try have dS:=dS rfl);(try simp only[decide_eq_true_eq]at dS);(try subst dS);first|contradiction|refine cA ?_)|refine cA ?_))
 |(refine ni (fun hb=>?_) (fun hb=>?_)<;>(first|(subst hb;(try have dS:=dS rfl);(try simp only[decide_eq_true_eq]at dS);(try subst dS);first|contradiction|refine cA ?_)|refine cA ?_))
 |(refine n5 (fun hb=>?_) (fun hb=>?_)<;>(first|(subst hb;(try have dS:=dS rfl);(try simp only[decide_eq_true_eq]at dS);(try subst dS);first|contradiction|refine cA ?_)|refine cA ?_))
 |exact rO
 |(refine zw (by assumption) rfl (‹aB _ _›:aB _ _).1 (by omega) ?_;refine cA ?_)
 |(refine cO (P:=EZ _) EZ.len ‹aB (EZ _) _› (by omega) (by omega) (fun y hy b6 hg=>?_);obtain⟨gm,n7,lP,EO,et,EP,kA,rM,n8,EQ,ER,n9,oa,rfl,ES,cb,rN,cW,kt,ku,cX,cY⟩:=hy.1.open hy.le;have:=cb.1;have:=cb.2.1;have:=cW.1;have:=cW.2.1;have:=kt.1;have:=kt.2.1;have:=ku.1;have:=ku.2.1;have:=cX.1;have:=cX.2.1;have:=cY.1;have:=cY.2.1;refine cA ?_)
 |(refine dD (P:=EZ _) EZ.len ‹aB (EZ _) _› (by omega) (by omega) (fun v hv hg=>?_);have:=hv.1;have:=hv.2.1;refine cA ?_)
 |(refine cO (P:=PZ _) PZ.len ‹aB (PZ _) _› (by omega) (by omega) (fun y hy b6 hg=>?_);obtain⟨gm,et,ns,jq,rfl,fN,cH,bO⟩:=hy.1.open hy.le;have:=cH.1;have:=cH.2.1;have:=bO.1;have:=bO.2.1;refine cA ?_)
 |(refine dD (P:=PZ _) PZ.len ‹aB (PZ _) _› (by omega) (by omega) (fun v hv hg=>?_);have:=hv.1;have:=hv.2.1;refine cA ?_)
 |(refine cO (P:=QZ _) QZ.len ‹aB (QZ _) _› (by omega) (by omega) (fun y hy b6 hg=>?_);obtain⟨jq,kA,rM,rfl,bO,cb,rN⟩:=hy.1.open hy.le;have:=bO.1;have:=bO.2.1;have:=cb.1;have:=cb.2.1;refine cA ?_)
 |(refine dD (P:=QZ _) QZ.len ‹aB (QZ _) _› (by omega) (by omega) (fun v hv hg=>?_);have:=hv.1;have:=hv.2.1;refine cA ?_)
 |(refine cO (P:=BZ _) BZ.len ‹aB (BZ _) _› (by omega) (by omega) (fun y hy b6 hg=>?_);obtain⟨gm,lP,ET,EU,rfl,kv⟩:=hy.1.open hy.le;have:=kv.1;have:=kv.2.1;refine cA ?_)
 |(refine dD (P:=BZ _) BZ.len ‹aB (BZ _) _› (by omega) (by omega) (fun v hv hg=>?_);have:=hv.1;have:=hv.2.1;refine cA ?_)
 |(refine cO (P:=IZ _) IZ.len ‹aB (IZ _) _› (by omega) (by omega) (fun y hy b6 hg=>?_);obtain⟨et,ns,tp,ob,od,oe,og,rfl,fN,cH,ee,mL,cZ⟩:=hy.1.open hy.le;have:=cH.1;have:=cH.2.1;have:=ee.1;have:=ee.2.1;have:=cZ.1;have:=cZ.2.1;refine cA ?_)
 |(refine dD (P:=IZ _) IZ.len ‹aB (IZ _) _› (by omega) (by omega) (fun v hv hg=>?_);have:=hv.1;have:=hv.2.1;refine cA ?_)
 |(refine cO (P:=AZ _) AZ.len ‹aB (AZ _) _› (by omega) (by omega) (fun y hy b6 hg=>?_);obtain⟨ob,od,oe,og,tp,rfl,mL,cZ,ee⟩:=hy.1.open hy.le;have:=cZ.1;have:=cZ.2.1;have:=ee.1;have:=ee.2.1;refine cA ?_)
 |(refine dD (P:=AZ _) AZ.len ‹aB (AZ _) _› (by omega) (by omega) (fun v hv hg=>?_);have:=hv.1;have:=hv.2.1;refine cA ?_)
 |(refine cO (P:=FZ _) FZ.len ‹aB (FZ _) _› (by omega) (by omega) (fun y hy b6 hg=>?_);obtain⟨tq,et,EV,pO,rfl,fN,kw,eG⟩:=hy.1.open hy.le;have:=kw.1;have:=kw.2.1;have:=eG.1;have:=eG.2.1;refine cA ?_)
 |(refine dD (P:=FZ _) FZ.len ‹aB (FZ _) _› (by omega) (by omega) (fun v hv hg=>?_);have:=hv.1;have:=hv.2.1;refine cA ?_)
 |(refine cO (P:=MZ _) MZ.len ‹aB (MZ _) _› (by omega) (by omega) (fun y hy b6 hg=>?_);obtain⟨gm,et,ns,jq,EW,BB,rfl,fN,cH,bO,iJ,jM⟩:=hy.1.open hy.le;have:=cH.1;have:=cH.2.1;have:=bO.1;have:=bO.2.1;have:=iJ.1;have:=iJ.2.1;have:=jM.1;have:=jM.2.1;refine cA ?_)
 |(refine dD (P:=MZ _) MZ.len ‹aB (MZ _) _› (by omega) (by omega) (fun v hv hg=>?_);have:=hv.1;have:=hv.2.1;refine cA ?_)
 |(refine cO (P:=CZ _) CZ.len ‹aB (CZ _) _› (by omega) (by omega) (fun y hy b6 hg=>?_);obtain⟨tq,EX,EY,rfl,ky,kz⟩:=hy.1.open hy.le;have:=ky.1;have:=ky.2.1;have:=kz.1;have:=kz.2.1;refine cA ?_)
 |(refine dD (P:=CZ _) CZ.len ‹aB (CZ _) _› (by omega) (by omega) (fun v hv hg=>?_);have:=hv.1;have:=hv.2.1;refine cA ?_)
 |(refine cO (P:=DZ _) DZ.len ‹aB (DZ _) _› (by omega) (by omega) (fun y hy b6 hg=>?_);obtain⟨ob,od,oe,og,jq,rfl,mL,cZ,bO⟩:=hy.1.open hy.le;have:=cZ.1;have:=cZ.2.1;have:=bO.1;have:=bO.2.1;refine cA ?_)
 |(refine dD (P:=DZ _) DZ.len ‹aB (DZ _) _› (by omega) (by omega) (fun v hv hg=>?_);have:=hv.1;have:=hv.2.1;refine cA ?_)
 |(refine cO (P:=KZ _) KZ.len ‹aB (KZ _) _› (by omega) (by omega) (fun y hy b6 hg=>?_);obtain⟨jq,pO,rfl,bO,eG⟩:=hy.1.open hy.le;have:=bO.1;have:=bO.2.1;have:=eG.1;have:=eG.2.1;refine cA ?_)
 |(refine dD (P:=KZ _) KZ.len ‹aB (KZ _) _› (by omega) (by omega) (fun v hv hg=>?_);have:=hv.1;have:=hv.2.1;refine cA ?_)
 |(exact Ql)
 |(refine dD (P:=SZ _) SZ.len ‹aB (SZ _) _› (by omega) (by omega) (fun v hv hg=>?_);have:=hv.1;have:=hv.2.1;refine cA ?_)
 |(refine wX (by omega) (by omega) ?_;refine cA ?_)
 |exact trivial
 |exact rP
 |fail
 first|done|fail):p:=h
theorem Jk{p:Prop}(h:p:=by(first|exact Jj|(refine eV aI ?_;rfl))):p:=h
theorem E5{p:Prop}(h:p:=by first|(first|rfl|exact Jj)|fail):p:=h
theorem ve{p:Prop}(h:p:=by first|(first|rfl|exact Jj|(simp only[aP,aw,Bool.and_true,Bool.and_self, *];done))|fail):p:=h
theorem jr{p:Prop}(h:p:=by
 repeat' first
 |contradiction
 |exact BC
 |(simp(disch:=omega) only[wrap_i64,wrap_u64,qK,s8,s9,tb,tc,td,te,tf,rL,tg,th,ti,tj,tk,tl,tm,tn];(try refine eV aI ?_))
 |exact xc
 |(simp only[cG];(try refine eV aI ?_))
 |(simp only[gX];(try refine eV aI ?_))
 |(simp only[gr];(try refine eV aI ?_))
 |(refine mw (fun hp hb=>?_) (fun hp hb=>?_)<;>refine eV hb ?_)
 |(refine pK (fun hp hb=>?_) (fun hp hb=>?_)<;>refine eV hb ?_)
 |(refine pL (fun hp hb=>?_) (fun hp hb=>?_)<;>refine eV hb ?_)
 |(refine pM (fun hp hb=>?_) (fun hp hb=>?_)<;>refine eV hb ?_)
 |(refine pN (fun hb=>?_) (fun hb=>?_)<;>(first|(subst hb;refine eV aI ?_)|refine eV hb ?_))
 |(refine ni (fun hb=>?_) (fun hb=>?_)<;>(first|(subst hb;refine eV aI ?_)|refine eV hb ?_))
 |(refine n5 (fun hb=>?_) (fun hb=>?_)<;>(first|(subst hb;refine eV aI ?_)|refine eV hb ?_))
 |exact rO
 |(refine wY ?_;(try refine eV aI ?_);refine oh (by omega) (by omega) (fun b hb dX dG=>?_);refine eV aI ?_)
 |(refine wZ ?_;(try simp only[Option.map_some,Option.map_none]);(try refine eV aI ?_);refine oi rfl rfl (by omega) (by omega) (by omega) (fun z hz ec=>?_);refine eV aI ?_)
 |(refine oi rfl rfl (by omega) (by omega) (by omega) (fun z hz ec=>?_);refine eV aI ?_)
 |(refine oh (by omega) (by omega) (fun b hb dX dG=>?_);refine eV aI ?_)
 |(rw[if_pos (by first|omega|(simp only[ByteArray.size_append,ig,List.length_cons,List.length_nil];omega))];refine eV aI ?_)
 |exact trivial
 |exact rP
 |fail
 first|done|fail):p:=h
theorem Jl{p:Prop}(h:p:=by(refine fO aI ?_;exact trivial)):p:=h
theorem Qm{p:Prop}(h:p:=by first|(first|rfl|exact Jl)|fail):p:=h
theorem tu{p:Prop}(h:p:=by first|(first|rfl|exact Jl|(simp only[aP,aw,Bool.and_true,Bool.and_self, *];done))|fail):p:=h
theorem jO{p:Prop}(h:p:=by
 repeat' first
 |contradiction
 |exact E6
 |(simp(disch:=omega) only[wrap_i64,wrap_u64,qK,s8,s9,tb,tc,td,te,tf,rL,tg,th,ti,tj,tk,tl,tm,tn];(try refine fO aI ?_))
 |exact Jm
 |(simp only[cG];(try refine fO aI ?_))
 |(simp only[gX];(try refine fO aI ?_))
 |(simp only[gr];(try refine fO aI ?_))
 |(refine mw (fun hp hb=>?_) (fun hp hb=>?_)<;>refine fO hb ?_)
 |(refine pK (fun hp hb=>?_) (fun hp hb=>?_)<;>refine fO hb ?_)
 |(refine pL (fun hp hb=>?_) (fun hp hb=>?_)<;>refine fO hb ?_)
 |(refine pM (fun hp hb=>?_) (fun hp hb=>?_)<;>refine fO hb ?_)
 |(refine pN (fun hb=>?_) (fun hb=>?_)<;>(first|(subst hb;refine fO aI ?_)|refine fO hb ?_))
 |(refine ni (fun hb=>?_) (fun hb=>?_)<;>(first|(subst hb;refine fO aI ?_)|refine fO hb ?_))
 |(refine n5 (fun hb=>?_) (fun hb=>?_)<;>(first|(subst hb;refine fO aI ?_)|refine fO hb ?_))
 |exact BD
 |(refine wY ?_;(try refine fO aI ?_);refine oh (by omega) (by omega) (fun b hb dX dG=>?_);refine fO aI ?_)
 |(refine wZ ?_;(try simp only[Option.map_some,Option.map_none]);(try refine fO aI ?_);refine oi rfl rfl (by omega) (by omega) (by omega) (fun z hz ec=>?_);refine fO aI ?_)
 |(refine oi rfl rfl (by omega) (by omega) (by omega) (fun z hz ec=>?_);refine fO aI ?_)
 |(refine oh (by omega) (by omega) (fun b hb dX dG=>?_);refine fO aI ?_)
 |(rw[if_pos (by first|omega|(simp only[ByteArray.size_append,ig,List.length_cons,List.length_nil];omega))];refine fO aI ?_)
 |exact trivial
 |exact Qn
 |fail
 first|done|fail):p:=h
theorem As5{p:Prop}(h:p:=by
 repeat' first
 |contradiction
 |exact kA5
 |(simp(disch:=omega) only[wrap_i64,wrap_u64,qK,s8,s9,tb,tc,td,te,tf,rL,tg,th,ti,tj,tk,tl,tm,tn];(try refine jP aI ?_))
 |exact kN5
 |(simp only[cG];(try refine jP aI ?_))
 |(simp only[gX];(try refine jP aI ?_))
 |(simp only[gr];(try refine jP aI ?_))
 |(refine mw (fun hp hb=>?_) (fun hp hb=>?_)<;>refine jP hb ?_)
 |(refine pK (fun hp hb=>?_) (fun hp hb=>?_)<;>refine jP hb ?_)
 |(refine pL (fun hp hb=>?_) (fun hp hb=>?_)<;>refine jP hb ?_)
 |(refine pM (fun hp hb=>?_) (fun hp hb=>?_)<;>refine jP hb ?_)
 |(refine pN (fun hb=>?_) (fun hb=>?_)<;>(first|(subst hb;refine jP aI ?_)|refine jP hb ?_))
 |(refine ni (fun hb=>?_) (fun hb=>?_)<;>(first|(subst hb;refine jP aI ?_)|refine jP hb ?_))
 |(refine n5 (fun hb=>?_) (fun hb=>?_)<;>(first|(subst hb;refine jP aI ?_)|refine jP hb ?_))
 |exact kB5
 |(refine wY ?_;(try refine jP aI ?_);refine oh (by omega) (by omega) (fun b hb dX dG=>?_);refine jP aI ?_)
 |(refine wZ ?_;(try simp only[Option.map_some,Option.map_none]);(try refine jP aI ?_);refine oi rfl rfl (by omega) (by omega) (by omega) (fun z hz ec=>?_);refine jP aI ?_)
 |(refine oi rfl rfl (by omega) (by omega) (by omega) (fun z hz ec=>?_);refine jP aI ?_)
 |(refine oh (by omega) (by omega) (fun b hb dX dG=>?_);refine jP aI ?_)
 |(rw[if_pos (by first|omega|(simp only[ByteArray.size_append,ig,List.length_cons,List.length_nil];omega))];refine jP aI ?_)
 |exact trivial
 |exact Qo
 |fail
 first|done|fail):p:=h
theorem Qa{p:Prop}(h:p:=by first|(exact n6 (Kj cb.1 (Kj cb.2.1 (Kj eH.1 (Kj eH.2.1 (Kj cW.1 (Kj cW.2.1 (Kj eI.1 (Kj eI.2.1 (Kj eJ.1 (Kj eJ.2.1 (Kj cX.1 (Kj cX.2.1 (Kj cY.1 cY.2.1))))))))))))))|fail):p:=h
theorem Qc{p:Prop}(h:p:=by first|(refine cO (P:=SZ _) SZ.len ‹aB (SZ _) _› (by omega) (by omega) (fun y hy b6 hg=>?_);obtain⟨gm,n7,lP,et,kA,tw,n8,tz,tA,n9,oa,rfl,fN,cb,eH,cW,eI,eJ,cX,cY⟩:=hy.1.open hy.le;refine aU (Kj cb.1 (Kj cb.2.1 (Kj eH.1 (Kj eH.2.1 (Kj cW.1 (Kj cW.2.1 (Kj eI.1 (Kj eI.2.1 (Kj eJ.1 (Kj eJ.2.1 (Kj cX.1 (Kj cX.2.1 (Kj cY.1 cY.2.1))))))))))))) ?_;exact b7)|fail):p:=h
theorem Qd{p:Prop}(h:p:=by first|(refine aU (Kj cb.1 (Kj cb.2.1 (Kj eH.1 (Kj eH.2.1 (Kj cW.1 (Kj cW.2.1 (Kj eI.1 (Kj eI.2.1 (Kj eJ.1 (Kj eJ.2.1 (Kj cX.1 (Kj cX.2.1 (Kj cY.1 cY.2.1))))))))))))) ?_;exact b7)|fail):p:=h
theorem Qe{p:Prop}(h:p:=by first|(refine cO (P:=SZ _) SZ.len ‹aB (SZ _) _› (by omega) (by omega) (fun y hy b6 hg=>?_);obtain⟨gm,n7,lP,et,kA,tw,n8,tz,tA,n9,oa,rfl,fN,cb,eH,cW,eI,eJ,cX,cY⟩:=hy.1.open hy.le;have:=cb.1;have:=cb.2.1;have:=eH.1;have:=eH.2.1;have:=cW.1;have:=cW.2.1;have:=eI.1;have:=eI.2.1;have:=eJ.1;have:=eJ.2.1;have:=cX.1;have:=cX.2.1;have:=cY.1;have:=cY.2.1;refine cA ?_;exact az)|fail):p:=h
theorem Qg{p:Prop}(h:p:=by first|(exact oj (Kj cb.1 (Kj cb.2.1 (Kj eH.1 (Kj eH.2.1 (Kj cW.1 (Kj cW.2.1 (Kj eI.1 (Kj eI.2.1 (Kj eJ.1 (Kj eJ.2.1 (Kj cX.1 (Kj cX.2.1 (Kj cY.1 cY.2.1))))))))))))))|fail):p:=h
theorem Qh{p:Prop}(h:p:=by first|(refine cO (P:=SZ _) SZ.len ‹aB (SZ _) _› (by omega) (by omega) (fun y hy b6 hg=>?_);obtain⟨gm,n7,lP,et,kA,tw,n8,tz,tA,n9,oa,rfl,fN,cb,eH,cW,eI,eJ,cX,cY⟩:=hy.1.open hy.le;refine bx (Kj cb.1 (Kj cb.2.1 (Kj eH.1 (Kj eH.2.1 (Kj cW.1 (Kj cW.2.1 (Kj eI.1 (Kj eI.2.1 (Kj eJ.1 (Kj eJ.2.1 (Kj cX.1 (Kj cX.2.1 (Kj cY.1 cY.2.1))))))))))))) ?_;exact mb)|fail):p:=h
theorem Qi{p:Prop}(h:p:=by first|(refine bx (Kj cb.1 (Kj cb.2.1 (Kj eH.1 (Kj eH.2.1 (Kj cW.1 (Kj cW.2.1 (Kj eI.1 (Kj eI.2.1 (Kj eJ.1 (Kj eJ.2.1 (Kj cX.1 (Kj cX.2.1 (Kj cY.1 cY.2.1))))))))))))) ?_;exact mb)|fail):p:=h
theorem Qk{p:Prop}(h:p:=by first|(refine cO (P:=SZ _) SZ.len ‹aB (SZ _) _› (by omega) (by omega) (fun y hy b6 hg=>?_);obtain⟨gm,n7,lP,et,kA,tw,n8,tz,tA,n9,oa,rfl,fN,cb,eH,cW,eI,eJ,cX,cY⟩:=hy.1.open hy.le;have:=cb.1;have:=cb.2.1;have:=eH.1;have:=eH.2.1;have:=cW.1;have:=cW.2.1;have:=eI.1;have:=eI.2.1;have:=eJ.1;have:=eJ.2.1;have:=cX.1;have:=cX.2.1;have:=cY.1;have:=cY.2.1;refine cA ?_;exact bu)|fail):p:=h
theorem Ql{p:Prop}(h:p:=by first|(refine cO (P:=SZ _) SZ.len ‹aB (SZ _) _› (by omega) (by omega) (fun y hy b6 hg=>?_);obtain⟨gm,n7,lP,et,kA,tw,n8,tz,tA,n9,oa,rfl,fN,cb,eH,cW,eI,eJ,cX,cY⟩:=hy.1.open hy.le;have:=cb.1;have:=cb.2.1;have:=eH.1;have:=eH.2.1;have:=cW.1;have:=cW.2.1;have:=eI.1;have:=eI.2.1;have:=eJ.1;have:=eJ.2.1;have:=cX.1;have:=cX.2.1;have:=cY.1;have:=cY.2.1;refine cA ?_;exact iX)|fail):p:=h
end Go.Pi
namespace Go.Pi.R
theorem Qa{p:Prop}(h:p:=by first|(exact n6 (Kj kC.1 (Kj kC.2.1 (Kj cb.1 (Kj cb.2.1 (Kj eH.1 (Kj eH.2.1 (Kj cW.1 (Kj cW.2.1 (Kj eI.1 (Kj eI.2.1 (Kj eJ.1 (Kj eJ.2.1 (Kj cX.1 (Kj cX.2.1 (Kj cY.1 cY.2.1))))))))))))))))|fail):p:=h
theorem Qc{p:Prop}(h:p:=by first|(refine cO (P:=SZ _) SZ.len ‹aB (SZ _) _› (by omega) (by omega) (fun y hy b6 hg=>?_);obtain⟨gm,n7,lP,et,kA,tw,n8,tz,tA,n9,oa,rfl,kC,fN,cb,eH,cW,eI,eJ,cX,cY⟩:=hy.1.open hy.le;refine aU (Kj kC.1 (Kj kC.2.1 (Kj cb.1 (Kj cb.2.1 (Kj eH.1 (Kj eH.2.1 (Kj cW.1 (Kj cW.2.1 (Kj eI.1 (Kj eI.2.1 (Kj eJ.1 (Kj eJ.2.1 (Kj cX.1 (Kj cX.2.1 (Kj cY.1 cY.2.1))))))))))))))) ?_;exact b7)|fail):p:=h
theorem Qd{p:Prop}(h:p:=by first|(refine aU (Kj kC.1 (Kj kC.2.1 (Kj cb.1 (Kj cb.2.1 (Kj eH.1 (Kj eH.2.1 (Kj cW.1 (Kj cW.2.1 (Kj eI.1 (Kj eI.2.1 (Kj eJ.1 (Kj eJ.2.1 (Kj cX.1 (Kj cX.2.1 (Kj cY.1 cY.2.1))))))))))))))) ?_;exact b7)|fail):p:=h
theorem Qe{p:Prop}(h:p:=by first|(refine cO (P:=SZ _) SZ.len ‹aB (SZ _) _› (by omega) (by omega) (fun y hy b6 hg=>?_);obtain⟨gm,n7,lP,et,kA,tw,n8,tz,tA,n9,oa,rfl,kC,fN,cb,eH,cW,eI,eJ,cX,cY⟩:=hy.1.open hy.le;have:=kC.1;have:=kC.2.1;have:=cb.1;have:=cb.2.1;have:=eH.1;have:=eH.2.1;have:=cW.1;have:=cW.2.1;have:=eI.1;have:=eI.2.1;have:=eJ.1;have:=eJ.2.1;have:=cX.1;have:=cX.2.1;have:=cY.1;have:=cY.2.1;refine cA ?_;exact az)|fail):p:=h
theorem Qg{p:Prop}(h:p:=by first|(exact oj (Kj kC.1 (Kj kC.2.1 (Kj cb.1 (Kj cb.2.1 (Kj eH.1 (Kj eH.2.1 (Kj cW.1 (Kj cW.2.1 (Kj eI.1 (Kj eI.2.1 (Kj eJ.1 (Kj eJ.2.1 (Kj cX.1 (Kj cX.2.1 (Kj cY.1 cY.2.1))))))))))))))))|fail):p:=h
theorem Qh{p:Prop}(h:p:=by first|(refine cO (P:=SZ _) SZ.len ‹aB (SZ _) _› (by omega) (by omega) (fun y hy b6 hg=>?_);obtain⟨gm,n7,lP,et,kA,tw,n8,tz,tA,n9,oa,rfl,kC,fN,cb,eH,cW,eI,eJ,cX,cY⟩:=hy.1.open hy.le;refine bx (Kj kC.1 (Kj kC.2.1 (Kj cb.1 (Kj cb.2.1 (Kj eH.1 (Kj eH.2.1 (Kj cW.1 (Kj cW.2.1 (Kj eI.1 (Kj eI.2.1 (Kj eJ.1 (Kj eJ.2.1 (Kj cX.1 (Kj cX.2.1 (Kj cY.1 cY.2.1))))))))))))))) ?_;exact mb)|fail):p:=h
theorem Qi{p:Prop}(h:p:=by first|(refine bx (Kj kC.1 (Kj kC.2.1 (Kj cb.1 (Kj cb.2.1 (Kj eH.1 (Kj eH.2.1 (Kj cW.1 (Kj cW.2.1 (Kj eI.1 (Kj eI.2.1 (Kj eJ.1 (Kj eJ.2.1 (Kj cX.1 (Kj cX.2.1 (Kj cY.1 cY.2.1))))))))))))))) ?_;exact mb)|fail):p:=h
theorem Qk{p:Prop}(h:p:=by first|(refine cO (P:=SZ _) SZ.len ‹aB (SZ _) _› (by omega) (by omega) (fun y hy b6 hg=>?_);obtain⟨gm,n7,lP,et,kA,tw,n8,tz,tA,n9,oa,rfl,kC,fN,cb,eH,cW,eI,eJ,cX,cY⟩:=hy.1.open hy.le;have:=kC.1;have:=kC.2.1;have:=cb.1;have:=cb.2.1;have:=eH.1;have:=eH.2.1;have:=cW.1;have:=cW.2.1;have:=eI.1;have:=eI.2.1;have:=eJ.1;have:=eJ.2.1;have:=cX.1;have:=cX.2.1;have:=cY.1;have:=cY.2.1;refine cA ?_;exact bu)|fail):p:=h
theorem Ql{p:Prop}(h:p:=by first|(refine cO (P:=SZ _) SZ.len ‹aB (SZ _) _› (by omega) (by omega) (fun y hy b6 hg=>?_);obtain⟨gm,n7,lP,et,kA,tw,n8,tz,tA,n9,oa,rfl,kC,fN,cb,eH,cW,eI,eJ,cX,cY⟩:=hy.1.open hy.le;have:=kC.1;have:=kC.2.1;have:=cb.1;have:=cb.2.1;have:=eH.1;have:=eH.2.1;have:=cW.1;have:=cW.2.1;have:=eI.1;have:=eI.2.1;have:=eJ.1;have:=eJ.2.1;have:=cX.1;have:=cX.2.1;have:=cY.1;have:=cY.2.1;refine cA ?_;exact iX)|fail):p:=h
end Go.Pi.R
end
