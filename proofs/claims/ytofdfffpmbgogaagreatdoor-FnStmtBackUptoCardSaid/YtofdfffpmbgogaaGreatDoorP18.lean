import Derived.Test.YtofdfffpmbgogaaGreatDoorP17
/- Part of the proof. -/
set_option linter.all false
section
open Go Go.Pi
namespace Go.Pi
variable{p q a:Prop}
theorem ad(h:p:=by(omega)):p:=h
theorem af(h:p:=by(simp)):p:=h
theorem ax(h:p:=by(assumption)):p:=h
theorem aJ(h:p:=by(decide)):p:=h
theorem bS(h:p:=by(intro b g r h;cases h)):p:=h
theorem bV(h:p:=by((exact zB))):p:=h
theorem E7(h:p:=by(first|exact qM ad|assumption|exact Qp ax ax ax)):p:=h
theorem dZ(h:p:=by(rfl)):p:=h
theorem dT(h:p:=by(simp only[aw,aP, *,Bool.and_true])):p:=h
theorem gx(h:p:=by(first|trivial|omega|(dsimp only;omega))):p:=h
theorem fH(h:p:=by(simp only[List.length_cons,List.length_nil];omega)):p:=h
theorem Qq(h:p:=by(first|exact qM ad|exact aiK ax ax ad)):p:=h
theorem gK(h:p:=by(refine cA ?_;rw[wrap_i64 ad ad];first|rfl|(congr 1;omega))):p:=h
theorem iA(h:p:=by(intro y hy;simp only[List.mem_singleton]at hy;subst hy;exact⟨rfl,by simp[aP,aw, *]⟩)):p:=h
theorem iY(h:p:=by(intro b hb;simp only[List.mem_cons,List.not_mem_nil,or_false]at hb;rcases hb with rfl;exact q1)):p:=h
theorem gy(h:p:=by(refine cA ?_;exact aY.frame pU)):p:=h
theorem gU(h:p:=by(first|rfl|(exact nB)|(exact nB))):p:=h
theorem iB(h:p:=by(first|assumption|exact List.eq_nil_of_length_eq_zero ax)):p:=h
theorem jQ(h:p:=by(intro b g r h;cases h;exact(‹aB _ (PV.ptr _ _ _)›).Jh)):p:=h
theorem lU(h:p:=by(intro h;omega)):p:=h
theorem lV(h:p:=by(first|(exact cB)|(refine cA ?_;exact bI))):p:=h
theorem mN(h:p:=by(have h:=hc;unfold Hid at h;simp only[cQ];omega)):p:=h
theorem jR(h:p:=by(simp[eY])):p:=h
theorem jS(h:p:=by(simpa[aw]using gz)):p:=h
theorem lB(h:p:=by(intro h9;first|omega|exact⟨nj.2,qz⟩)):p:=h
theorem aiL(h:p:=by(refine P9 ?_;exact aX.nil)):p:=h
theorem aiM(h:p:=by(unfold ii Sy;omega)):p:=h
theorem kS(h:p:=by(simpa using aK.nil)):p:=h
theorem zx(h:p:=by((exact sB (Kj h0 (Kj h1 (Kj h7 (Kj h8 (Kj h9 dN)))))))):p:=h
theorem aiN(h:p:=by(intro _ _ _ _ _ _ _ _ _ _ _ _ _ h;cases h;first|(have Qr:=BE ‹_›;unfold fP;omega)|(unfold fP;omega)|(have iv:=aiO hn ax (by first|(left;simpa using‹(FloatKind.f64.format.order nn 0!=some Ordering.eq)=false›)|(right;assumption));have Qr:=BE ‹_›;unfold fP;omega))):p:=h
theorem rQ(h:p:=by(refine EL hI ?_;rw[wrap_i64 ad ad];rfl)):p:=h
theorem mO(h:p:=by((first|exact wM|exact aX.nil|exact eb.nil|(simp[vl];done)|exact iL.snoc ad ad|(simp only[List.length_append,List.length_cons,List.length_nil];omega)|exact Qu hx dH lC xd))):p:=h
theorem mP(h:p:=by((first|exact wM|exact aX.rR af (zB)|exact eb.rR _|exact Int.pow_pos aJ|(simp;done)|(rw[Qs];simp[vl];done)|exact iL.snoc ad ad|(simp only[List.length_append,List.length_cons,List.length_nil];omega)|exact Qt hx dH lC xd|assumption))):p:=h
theorem mQ(h:p:=by(first|(exact nB)|(exact PU)|(exact PU))):p:=h
theorem ny(h:p:=by((exact sB (Kj hv bW)))):p:=h
theorem om(h:p:=by((first|exact wM|(simp;done)|(simp;omega)|(intro h;omega)|exact(vf cg ad gn iL gG).1|exact(vf cg ad gn iL gG).2.1|exact fun _=>(vf cg ad gn iL gG).2.2.1|exact(vf cg ad gn iL gG).2.2.2))):p:=h
theorem oq(h:p:=by((first|exact wM|(simp;done)|exact eb.rR _|(rw[List.drop_of_length_le ad,List.drop_of_length_le (by rw[List.length_replicate];omega)];simp[vl];done)|exact iL.set ad ad|(rw[List.length_set];exact gn)|exact Qv ad hx gn lC))):p:=h
theorem ot(h:p:=by((first|exact wM|exact aX.nil|exact eb.nil|(simp[vl];done)|exact gn.snoc ad ad|(simp only[List.length_append,List.length_cons,List.length_nil];omega)|exact E8 hx (Qw dH ax) dH iL lC ad|exact E8 (y:=0) hx (Qx ad) dH iL lC ad|assumption))):p:=h
theorem pS(h:p:=by(rw[g3];omega)):p:=h
theorem pT(h:p:=by((exact sB (Kj h0 (Kj h4 (Kj h5 (Kj h6 (Kj kD ib)))))))):p:=h
theorem pR(h:p:=by(intro b hb;simp only[List.mem_cons,List.not_mem_nil,or_false]at hb;rcases hb with rfl|rfl<;>assumption)):p:=h
theorem pU(h:p:=by(intro b hb;simp only[List.mem_singleton]at hb;subst hb;exact zB)):p:=h
theorem o0(h:p:=by(simp[ae])):p:=h
theorem rS(h:p:=by(rw[g3]at hy;exact hy)):p:=h
theorem pV(h:p:=by(rw[qN];rfl)):p:=h
theorem pW(h:p:=by(rw[qN];simp)):p:=h
theorem rT(h:p:=by(first|rfl|exact zB)):p:=h
theorem zy(h:p:=by(refine cA ?_;exact aX.aiP af (zB))):p:=h
theorem rU(h:p:=by(rw[g3];exact aV.fin ad)):p:=h
theorem qO(h:p:=by(rw[<-ec];simp[eY])):p:=h
theorem rV(h:p:=by((exact sB (Kj h0 (Kj h4 (Kj h5 (Kj h6 (Kj h7 (Kj h0 (Kj h4 (Kj h5 (Kj h6 (Kj kD ib))))))))))))):p:=h
theorem rW(h:p:=by((exact sB (Kj hS dR)))):p:=h
theorem BH(h:p:=by((first|exact wM|exact aX.none af (abk)|exact qP.nil|exact gn.app|(simp;done)|(simp only[List.length_append,List.length_cons,List.length_nil];omega)))):p:=h
theorem zC(h:p:=by((first|exact wM|exact Qy hN hM b0 b2 BF BG|(simp;done)|exact Jo o1 jT|exact Qz o1 jT|exact QA o1 gn|exact QB o1 ad))):p:=h
theorem vg(h:p:=by(first|rfl|(simp only[aw,aP,jx,Bool.and_true,Bool.true_and, *];done))):p:=h
theorem vh(h:p:=by(intro b hb;simp only[List.mem_cons,List.not_mem_nil,or_false]at hb;rcases hb with rfl|rfl<;>exact cB)):p:=h
theorem rX(h:p:=by(intro f1 f2 f3;first|rfl|simp[qB,push,uQ,wC])):p:=h
theorem rY(h:p:=by(rw[<-ou];omega)):p:=h
theorem vj(h:p:=by((exact sB (Kj h0 (Kj h3 h4))))):p:=h
theorem tB(h:p:=by(intro b hb;simp at hb⊢;omega)):p:=h
theorem zD(h:p:=by(simpa[aw]using qQ)):p:=h
theorem vk(h:p:=by((exact sB (Kj h0 (Kj h2 (Kj h3 (Kj h4 (Kj h5 (Kj e0 (Kj e1 tC)))))))))):p:=h
theorem xe(h:p:=by((exact sB (Kj h0 (Kj h4 (Kj h5 e0)))))):p:=h
theorem vm(h:p:=by((exact sB (Kj hv (Kj bW (Kj gv jV)))))):p:=h
theorem vn(h:p:=by((first|exact wM|(rw[show(-n).toNat=0 by omega,Int.pow_zero,Int.mul_one];omega)|(intro _;omega)|(rw[show(-(n2 - 1)).toNat=(1 - n2).toNat by omega,show(n2 - 1).toNat=0 by omega,Int.pow_zero,Int.mul_one];omega)))):p:=h
theorem vo(h:p:=by((first|exact wM|(subst hz;exact cg.sub ad ad ad)))):p:=h
theorem vp(h:p:=by((first|exact wM|exact iM.nil|(subst hz;have Jp:=‹_=jU s _›;subst Jp;exact iM.snoc ax ad ad ad ad)))):p:=h
theorem vr(h:p:=by(intro z hz;simp only[List.mem_cons,List.not_mem_nil,or_false]at hz;first|(subst hz;exact⟨rfl,cB⟩)|(rcases hz with rfl|rfl<;>exact⟨rfl,cB⟩))):p:=h
theorem xf(h:p:=by((exact sB (Kj h0 (Kj h2 (Kj h3 (Kj e0 e1))))))):p:=h
theorem xg(h:p:=by((exact sB (Kj h0 (Kj h2 (Kj h3 (Kj h4 (Kj e0 (Kj e1 tC))))))))):p:=h
theorem BI(h:p:=by((exact sB (Kj h0 (Kj h2 (Kj h3 (Kj h7 (Kj e0 (Kj e1 (Kj E9 (Kj h0 (Kj h2 (Kj h3 (Kj e0 e1)))))))))))))):p:=h
theorem BJ(h:p:=by(first|omega|(rw[ig];simp;done)|(rw[ig];simp;omega))):p:=h
theorem xh(h:p:=by(intro b g r h;cases h;rcases hv with h|⟨_,h,_⟩<;>cases h)):p:=h
theorem zF(h:p:=by((exact sB (Kj h0 (Kj h1 h5))))):p:=h
theorem zG(h:p:=by((exact sB (Kj h0 (Kj h2 (Kj h3 (Kj h4 (Kj e0 (Kj e1 rK))))))))):p:=h
theorem zH(h:p:=by((exact sB (Kj h0 (Kj h2 (Kj h3 (Kj h4 (Kj e0 e1)))))))):p:=h
theorem zI(h:p:=by((exact sB (Kj h0 (Kj h2 (Kj h5 (Kj h6 (Kj e0 e1)))))))):p:=h
theorem zJ(h:p:=by((exact sB (Kj h0 (Kj h3 (Kj h4 (Kj h5 (Kj h6 (Kj nz (Kj h0 (Kj h3 (Kj cC (Kj mu (Kj @Int.toNat_natCast ov)))))))))))))):p:=h
theorem BK(h:p:=by((exact sB (Kj h0 (Kj h3 (Kj h4 (Kj h5 (Kj h6 e0)))))))):p:=h
theorem Jq(h:p:=by((exact sB (Kj h0 (Kj h3 (Kj cC (Kj mu (Kj @Int.toNat_natCast ov)))))))):p:=h
theorem zK(h:p:=by((exact sB rK))):p:=h
theorem zL(h:p:=by((first|exact wM|(have e:N*base ^ (0:Int).toNat=N:=af;rw[e];exact h.mono ad)|(have e:N*base ^ (i+1).toNat=N*base ^ i.toNat*base+0:=Re;rw[e];exact xi.mono ad)))):p:=h
theorem zM(h:p:=by((first|exact wM|(intro _;omega)|(intro _;rw[show n+1 - 1=n by omega];omega)))):p:=h
theorem Fa(h:p:=by((first|exact wM|(rw[List.drop_of_length_le ad,List.drop_of_length_le ad];done)|exact QH ad ax ax ax eu))):p:=h
theorem BL(h:p:=by((first|exact wM|(rw[ig];simp;done)|(intro _;omega)|(simp only[ByteArray.size_append,ig,List.length_cons,List.length_nil];omega)))):p:=h
theorem zO(h:p:=by((first|exact wM|exact pY.first Fb hM d1 b2 d2 BF QE BG rfl|(split<;>omega)|exact(cg.next sc hy bY rY).1|(have:=(cg.next sc hy bY rY).2;omega)))):p:=h
theorem zP(h:p:=by((first|exact wM|exact Fe ad|exact(QI ax ax ad).trans eu))):p:=h
theorem Jr(h:p:=by((first|exact wM|exact QC|exact pX.rR|exact pX.io eu (vt _).1 (vt _).2|exact(QD ad).trans dH))):p:=h
theorem zQ(h:p:=by((first|exact wM|exact⟨0,[],.inl ⟨rfl,rfl⟩,eb.nil,rZ.nil,rfl,af⟩|exact⟨_,xi.mono ad⟩))):p:=h
theorem zR(h:p:=by(cases h<;>rfl)):p:=h
theorem zS(h:p:=by(first|assumption|exact qM ad|(have Fc:=QF cH.1.len bO.1.len iJ.1.len ax;exact qM ad))):p:=h
theorem zT(h:p:=by(intro b hb;simp only[List.mem_cons,List.not_mem_nil,or_false]at hb;rcases hb with rfl|rfl;exact q1;exact q2)):p:=h
theorem zU(h:p:=by(rw[‹ae aG=[]›];exact .nil)):p:=h
theorem zV(h:p:=by(simp[aw,aP, *])):p:=h
theorem zW(h:p:=by(simp only[aP,aw, *,Bool.and_true])):p:=h
theorem zX(h:p:=by(simp;omega)):p:=h
theorem aiQ(h:p:=by((exact sB (Kj h0 (Kj h1 (Kj h2 (Kj h7 (Kj h8 (Kj hv bW))))))))):p:=h
theorem BM(h:p:=by((exact sB (Kj h0 (Kj h1 (Kj h2 (Kj h7 e0))))))):p:=h
theorem Ff(h:p:=by((exact sB (Kj h0 (Kj h1 (Kj h5 (Kj h6 (Kj h7 (Kj hv (Kj bW (Kj gv jV))))))))))):p:=h
theorem BN(h:p:=by((exact sB (Kj h0 (Kj h1 (Kj h5 (Kj h6 (Kj h7 (Kj hv bW))))))))):p:=h
theorem BO(h:p:=by((exact sB (Kj h0 (Kj h1 (Kj h6 (Kj h7 e0))))))):p:=h
theorem BP(h:p:=by((exact sB (Kj h1 (Kj h2 (Kj h5 (Kj h6 (Kj e1 (Kj hS dR))))))))):p:=h
theorem BR(h:p:=by((exact sB (Kj h2 (Kj h3 (Kj h5 (Kj e1 (Kj e2 (Kj hS dR))))))))):p:=h
theorem Fg(h:p:=by(cases h;rfl)):p:=h
theorem BS(h:p:=by(cases iO with|block _ _ l=>exact l.1)):p:=h
theorem BU(h:p:=by(first|assumption|exact qM ad)):p:=h
theorem BV(h:p:=by(first|assumption|exact qM ad|exact Qp ax ax ax|exact aiR ad ax ax ax ax|exact aiS ax ax ax ax)):p:=h
theorem BW(h:p:=by(first|rfl|exact cB)):p:=h
theorem BX(h:p:=by(have:=cc.len;omega)):p:=h
theorem B0(h:p:=by(have h9:=‹(ae v)[((_:Nat):Int).toNat]?=some _›;simpa using h9)):p:=h
theorem B1(h:p:=by(obtain⟨_,_,_,_,_,e,h⟩:=(show∀y,y∈ae decls->∃b0 b1 b2 b3 v:PV,y=[b0,b1,b2,b3,v]/\(ae v).length=0 from nC) _ b6;cases e;exact h)):p:=h
theorem B2(h:p:=by(simp[aw,jx,aP,e1,e2])):p:=h
theorem Fh(h:p:=by(simp[aw,jx,aP,e1])):p:=h
theorem B3(h:p:=by(simpa[aw]using BQ)):p:=h
theorem Fi(h:p:=by((exact sB (Kj h0 (Kj h1 (Kj h2 h7)))))):p:=h
theorem aiT(h:p:=by((exact sB (Kj h0 (Kj h1 (Kj h5 h6)))))):p:=h
theorem Js(h:p:=by((exact sB (Kj h0 (Kj h1 (Kj h6 h7)))))):p:=h
theorem Fj(h:p:=by((exact sB (Kj h0 (Kj h3 (Kj h4 (Kj xj (Kj lv.1 @Int.toNat_natCast)))))))):p:=h
theorem Fk(h:p:=by((exact sB (Kj h0 (Kj h3 (Kj h4 e0)))))):p:=h
theorem Fl(h:p:=by((exact sB (Kj h0 (Kj h4 (Kj h5 (Kj h6 (Kj h0 (Kj h4 (Kj h5 (Kj h6 (Kj kD ib)))))))))))):p:=h
theorem Fm(h:p:=by((exact sB (Kj h0 (Kj h4 (Kj h5 (Kj h6 B4))))))):p:=h
theorem Fo(h:p:=by((exact sB (Kj h0 e0)))):p:=h
theorem Fp(h:p:=by((exact sB (Kj h0 h1)))):p:=h
theorem aiW(h:p:=by((exact sB (Kj kD ib)))):p:=h
theorem Fq(h:p:=by((exact sB (Kj lv.1 @Int.toNat_natCast)))):p:=h
theorem Fs(h:p:=by((exact sB B4))):p:=h
theorem Ft(h:p:=by((exact aa6 (Kj h3 (Kj dN (Kj cp (Kj cI (Kj hv hd)))))))):p:=h
theorem Fu(h:p:=by((exact aa6 (Kj hv hd)))):p:=h
theorem QK(h:p:=by((first|exact wM|(rw[ig];simp;done)|(intro _;rfl)))):p:=h
theorem Fv(h:p:=by(cases js with|block _ _ l=>exact l.1)):p:=h
theorem Fw(h:p:=by(first|omega|(rw[ig];simp;omega))):p:=h
theorem Fx(h:p:=by(have:=ao.1.len;simp only[List.length_nil];omega)):p:=h
theorem Fy(h:p:=by(have h9:=‹(ae args)[((_:Nat):Int).toNat]?=some _›;simpa using h9)):p:=h
theorem aiZ(h:p:=by(have h9:=‹(ae kids)[((_:Nat):Int).toNat]?=some _›;simpa using h9)):p:=h
theorem Fz(h:p:=by(have q1:=aiX r4 ax;have q2:=aiY q1;simp only[q2.1,q2.2]at c4 c8;unfold QJ;refine⟨⟨ad,hU.all ad⟩,?_,ax⟩;first|exact qM ad|exact Jt ad (by have h9:=‹(ae decls)[_]?=some _›;simpa using h9) ⟨_,_,_,_,_,rfl,ad⟩)):p:=h
theorem FA(h:p:=by(have q1:=aiU hr ax;obtain⟨f2,f4,f8⟩:=aiV q1.1 q1.2;refine .mk _ _ _ _ _ ?_ ?_ ?_ (hU.all ad) ax;all_goals (simp only[f2,f4,f8,Bool.false_eq_true,Bool.true_eq_false,reduceCtorEq,false_and,true_and,not_false_eq_true,not_true,or_false,false_or,true_or,or_true,and_true,eq_self,Sy]at*;first|done|omega))):p:=h
theorem QL(h:p:=by(obtain⟨n,rfl,_⟩:=hv.2.2 c hc;rfl)):p:=h
theorem FB(h:p:=by(obtain⟨n,rfl,_⟩:=ao.2.2 c hc;rfl)):p:=h
theorem QM(h:p:=by(rw[ai0 QN];omega)):p:=h
theorem FC(h:p:=by(rw[show(-(n2 - 17)).toNat=(17 - n2).toNat by omega]at o2;exact o2)):p:=h
theorem ai1(h:p:=by(simp[<-hl,hi])):p:=h
theorem FD(h:p:=by(simp only[List.mem_singleton]at hb;rw[hb];exact nB)):p:=h
theorem FE(h:p:=by(simpa using fun h=>absurd (qE 0 h) aJ)):p:=h
theorem Ju(h:p:=by((exact sB (Kj h0 (Kj h1 (Kj h5 (Kj hv (Kj bW (Kj gv jV))))))))):p:=h
theorem Jv(h:p:=by((exact sB (Kj h0 (Kj h2 e0))))):p:=h
theorem ai2(h:p:=by((exact sB (Kj h0 (Kj h3 (Kj h4 (Kj hv bW))))))):p:=h
theorem Jw(h:p:=by(cases ow with|block _ _ l=>exact l.1)):p:=h
theorem Jx(h:p:=by(first|(exact nB)|(refine P9 ?_;congr 1;omega))):p:=h
theorem Jy(h:p:=by(first|exact .none|exact .some _ ‹_›)):p:=h
theorem Jz(h:p:=by(have:=ai3;unfold Hid at this;omega)):p:=h
theorem JA(h:p:=by(have:=cz.1.len;omega)):p:=h
theorem JB(h:p:=by(have h9:=QO hx;simp[aP,aw,and_assoc]at h9⊢;exact h9)):p:=h
theorem ai4(h:p:=by(intro b g r h;cases h;exact lv.Jh)):p:=h
theorem JC(h:p:=by(intro b hb;simp only[List.mem_cons,List.not_mem_nil,or_false]at hb;rcases hb with rfl|rfl<;>exact zB)):p:=h
theorem ai5(h:p:=by(intro y hy;simp only[List.mem_singleton]at hy;subst hy;assumption)):p:=h
theorem ai6(h:p:=by(rw[ig];decide)):p:=h
theorem JD(h:p:=by(rw[g3];exact aK.refl fun x hx=>(hv.2.2 x hx).flat)):p:=h
theorem QP(h:p:=by(simp[aw,jx,aP,hd])):p:=h
theorem ai7(h:p:=by(simp only[ByteArray.size,List.size_toArray];omega)):p:=h
theorem JE(h:p:=by(simp only[ae,List.length_cons];omega)):p:=h
theorem JF(h:p:=by(simpa[aw]using B5)):p:=h
theorem JG(h:p:=by(simpa[aw]using hd)):p:=h
theorem JH(h:p:=by(simpa[ae]using sO)):p:=h
theorem QQ(h:p:=by(((repeat' (first|exact lO.refl|refine lO.put aJ ?_));first|done|fail))):p:=h
theorem ai8(h:p:=by((exact sB (Kj h0 (Kj h1 (Kj h0 h1)))))):p:=h
theorem ai9(h:p:=by((exact sB (Kj h0 (Kj h3 (Kj hS jN)))))):p:=h
theorem QR(h:p:=by((exact sB (Kj h0 (Kj h3 (Kj hv bW)))))):p:=h
theorem QS(h:p:=by((show _<((ae cj).length:Int));omega)):p:=h
theorem QG(h:p:=by((simp only[put];(repeat rw[if_neg ad])))):p:=h
theorem QU(h:p:=by(first|(have:=aq.1.len;omega)|(have:=hv.1.len;omega))):p:=h
theorem ajb(h:p:=by(first|(have Rb:=ajm fN ‹bits .andNot .i64 _ 11=0›;omega)|(have Rb:=an2 fN ‹bits .andNot .i64 _ 2=0›;(have Fc:=QF cH.1.len bO.1.len iJ.1.len ax;omega)))):p:=h
theorem ajc(h:p:=by(first|exact .inl rfl|exact .inr ⟨ad,ad⟩)):p:=h
theorem QV(h:p:=by(first|exact .inr (.inr (.inl ⟨rfl,ad⟩))|exact .inr (.inr (.inr ⟨rfl,ad,aje⟩)))):p:=h
theorem ajd(h:p:=by(first|omega|(rw[ig];decide))):p:=h
theorem aje(h:p:=by(first|rfl|(simpa using‹(!_)=true›)|assumption)):p:=h
theorem QW(h:p:=by(have:=xm.1.len;simp only[List.length_nil];omega)):p:=h
theorem ajf(h:p:=by(have:=hv.1.len;simp only[List.length_nil];omega)):p:=h
theorem ajg(h:p:=by(have:=cc.len;simp only[List.length_nil];omega)):p:=h
theorem QX(h:p:=by(have:=ij.len;simp only[List.length_cons,List.length_nil];omega)):p:=h
theorem QY(h:p:=by(have h9:=‹(ae fM)[((_:Nat):Int).toNat]?=some _›;simpa using h9)):p:=h
theorem Q0(h:p:=by(intro b g r h;cases h;rcases B6.1.1 with h|⟨_,h,_⟩<;>cases h)):p:=h
theorem ajh(h:p:=by(intro b g r h;cases h;rcases B7.1.1 with h|⟨_,h,_⟩<;>cases h)):p:=h
theorem Q1(h:p:=by(intro b g r h;cases h;rcases JJ.1.1 with h|⟨_,h,_⟩<;>cases h)):p:=h
theorem Q2(h:p:=by(intro b hb h2;simp only[List.mem_singleton]at h2;subst h2;rcases List.mem_cons.1 hb with hb|hb<;>first|exact absurd hb aJ|(have:=m4 _ hb;simp at this))):p:=h
theorem Q3(h:p:=by(intro b hb;simp only[List.mem_cons,List.not_mem_nil,or_false]at hb;rcases hb with rfl<;>exact cB)):p:=h
theorem Q4(h:p:=by(intro b hb;simp only[List.mem_cons,List.not_mem_nil,or_false]at hb;rcases hb with rfl|rfl|rfl<;>exact cB)):p:=h
theorem Q5(h:p:=by(obtain⟨n,rfl,_⟩:=xm.2.2 c hc;rfl)):p:=h
theorem aji(h:p:=by(refine cA ?_;exact aX.xn af (zB) rfl BW)):p:=h
theorem Q6(h:p:=by(refine cA ?_;exact aX.xn af (zB) rfl (by simp[aP,aw, *]))):p:=h
theorem Q7(h:p:=by(refine cA ?_;exact vu.frame (by intro b hb;simp only[List.mem_cons,List.not_mem_nil,or_false]at hb;rcases hb with rfl|rfl<;>(refine zA ?_;assumption)))):p:=h
theorem Q8(h:p:=by(refine cA ?_;exact aY.frame (by intro b hb;simp only[List.mem_singleton]at hb;subst hb;refine zA ?_;exact JI))):p:=h
theorem ajj(h:p:=by(refine P9 ?_;exact bI.frame (by intro b hb;simp only[List.mem_cons,List.not_mem_nil,or_false]at hb;rcases hb with rfl|rfl<;>exact nB))):p:=h
theorem ajk(h:p:=by(refine EL dN ?_;rw[wrap_i64 ad ad];rfl)):p:=h
theorem Q9(h:p:=by(rw[Int.one_mul];exact Int.pow_pos aJ)):p:=h
theorem Ra(h:p:=by(rw[e2,e3];exact aja ad ad)):p:=h
theorem ajl(h:p:=by(rw[k3];exact aK.refl fun x hx=>(hv.2.2 x hx).flat)):p:=h
theorem Rc(h:p:=by(rw[m3];exact aK.refl fun x hx=>(xm.2.2 x hx).flat)):p:=h
theorem Rd(h:p:=by(rw[show(17 - n2).toNat=0 by omega,Int.pow_zero,Int.mul_one])):p:=h
theorem Re(h:p:=by(rw[show(i+1).toNat=i.toNat+1 by omega,Int.pow_succ];grind)):p:=h
theorem Rf(h:p:=by(rw[show(n2 - 17).toNat=0 by omega,Int.pow_zero,Int.mul_one])):p:=h
theorem Rh(h:p:=by(rw[‹ae bf=[]›];exact .nil)):p:=h
theorem ajo(h:p:=by(rw[<-ou,<-tD,if_neg ad])):p:=h
theorem ajp(h:p:=by(rw[<-ou,<-tD,if_pos ad])):p:=h
theorem ajq(h:p:=by(simp only[Bool.and_eq_true,Bool.not_eq_true',List.contains_eq_mem,decide_eq_false_iff_not,List.all_eq_true];exact⟨fun h=>(by have:=mR _ h;simp at this),fun y hy=>(by have:=mR y hy;simp at this⊢;omega)⟩)):p:=h
theorem Rj(h:p:=by(simp only[Bool.and_eq_true,Bool.not_eq_true',List.contains_eq_mem,decide_eq_false_iff_not,List.all_eq_true];exact⟨fun h=>(by have:=Ri _ h;simp at this),fun y hy=>by have:=Ri y hy;simp at this⊢;omega⟩)):p:=h
theorem Rk(h:p:=by(simp only[Bool.and_eq_true,List.all_eq_true,implies_true,true_and];intro y hy;have:=mR y hy;simp at this⊢;omega)):p:=h
theorem akZ(h:p:=by(simp only[al.put,if_neg h1,if_neg h2])):p:=h
theorem ak1(h:p:=by(simp only[aP,ao.2.1,aq.2.1,aE.2.1,aD.2.1,au.2.1,Bool.and_true])):p:=h
theorem abl(h:p:=by(simpa using(fun h:0∈gi v'=>absurd (g4 0 h) af))):p:=h
theorem za0(h:p:=by first|((refine⟨_,_,_,_,_,_,_,_,_,rfl,BJ⟩))<;>exact bp|fail):p:=h
theorem Rl(h:p:=by first|(exact⟨_,rfl,ai6⟩)<;>exact bp|fail):p:=h
theorem za2(h:p:=by first|((refine⟨_,rfl,?_⟩;simp only[ByteArray.size_append,ig,List.length_cons,List.length_nil];omega))<;>exact bp|fail):p:=h
theorem Rm(h:p:=by first|(refine aO (Rn _) pP fe ?_;rintro _ ⟨bn,rfl,cU⟩;(refine aU aI ?_;exact bp))|fail):p:=h
theorem FF(h:p:=by first|((exfalso;omega))<;>exact bp|fail):p:=h
theorem za5(h:p:=by first|(refine next _ ?_ _ ⟨_,_,vj,vj,vj,wM,wM,wM,rfl⟩;exact wM)|fail):p:=h
theorem za6(h:p:=by first|(exact⟨_,rfl⟩)<;>exact bN|fail):p:=h
theorem za7(h:p:=by first|(refine aO (Ro _ eA ad ad) pP iK ?_;rintro _ ⟨r,n,rfl,pG,gj,r4,qR,iv,tE,o3⟩;(refine bx aI ?_;exact bN))|fail):p:=h
theorem za8(h:p:=by first|(refine aO (JK _) pP iK ?_;rintro _ ⟨zz,rfl,hz⟩;(refine bx aI ?_;exact bN))|fail):p:=h
theorem Rp(h:p:=by first|(exact jz.2 ((wW ad ad).2 (kQ.2 ⟨aJ,aJ⟩)))<;>exact bp|fail):p:=h
theorem Rq(h:p:=by first|(refine aO (r79 _) pP fe ?_;rintro _ rfl;(refine aU aI ?_;exact bp))|fail):p:=h
theorem ajy(h:p:=by first|(exact⟨_,rfl⟩)<;>exact bp|fail):p:=h
theorem Rr(h:p:=by first|(refine aO (c71 _) pP iK ?_;rintro _ ⟨zz,rfl,mR⟩;(refine bx aI ?_;exact bN))|fail):p:=h
theorem ajA(h:p:=by
 first
 |skip
  all_goals first
  |exact iZ
  |exact nD
  |fail
  done
 |fail):p:=h
theorem FG(h:p:=by first|(refine aO (Rs _ _ _) pP fe ?_;rintro _ rfl;(refine aU aI ?_;exact bp))|fail):p:=h
theorem FH(h:p:=by first|(refine aO (JL _) pP fe ?_;rintro _ rfl;(refine aU aI ?_;exact bp))|fail):p:=h
theorem ajB(h:p:=by first|(refine next _ ?_ _ ⟨_,_,zx,zx,zx,zx,zx,zx,wM,rfl⟩;exact wM)|fail):p:=h
theorem ajC(h:p:=by first|((refine⟨_,_,rfl,?_⟩;unfold FI;omega))<;>exact bN|fail):p:=h
theorem Rt(h:p:=by first|(refine gA (zY hs) lA ad ad gx fe (fun r cR fh dg fc gL hr=>?_);obtain⟨rfl,rfl,r,n,rfl,pG,gj,r4,qR,iv,tE,o3⟩:=hr;(refine aU aI ?_;exact bp))|fail):p:=h
theorem Ru(h:p:=by first|(refine aO (Rv _) pP fe ?_;rintro _ rfl;(refine aU aI ?_;exact bp))|fail):p:=h
theorem Rw(h:p:=by first|(refine gA (zY hs) ol ad ad gx iK (fun r cR fh dg fc gL hr=>?_);obtain⟨rfl,rfl,r,n,rfl,pG,gj,r4,qR,iv,tE,o3⟩:=hr;(refine bx aI ?_;exact bN))|fail):p:=h
theorem Rx(h:p:=by first|(refine o5 (FJ hs _ _) ol ad ad iK (fun r hr=>?_);obtain⟨b,rfl,hb,pZ⟩:=hr;cases b;all_goals (first|(have hb:=hb rfl)|clear hb);all_goals (refine bx aI ?_;exact bN))|fail):p:=h
theorem xo(h:p:=by first|(refine gA (FK _) ol ad ad gx iK (fun r cR fh dg fc gL hr=>?_);obtain⟨rfl,dG,fD⟩:=hr;(refine bx aI ?_;exact bN))|fail):p:=h
theorem JM(h:p:=by first|(refine aO (Rv _) pP iK ?_;rintro _ rfl;(refine bx aI ?_;exact bN))|fail):p:=h
theorem ajD(h:p:=by first|((refine⟨_,_,_,rfl,ad,ad,rfl,_,_,rfl⟩))<;>exact bN|fail):p:=h
theorem JN(h:p:=by first|(refine aO (Ry _ ad ad) pP iK ?_;rintro _ ⟨v,rfl,hv,lr,cc⟩;(refine bx aI ?_;exact bN))|fail):p:=h
theorem Rz(h:p:=by first|(refine o5 (FJ hs _ _) lA ad ad fe (fun r hr=>?_);obtain⟨b,rfl,hb,pZ⟩:=hr;cases b;all_goals (first|(have hb:=hb rfl)|clear hb);all_goals (refine aU aI ?_;exact bp))|fail):p:=h
theorem B8(h:p:=by first|(refine gA (FK _) lA ad ad gx fe (fun r cR fh dg fc gL hr=>?_);obtain⟨rfl,dG,fD⟩:=hr;(refine aU aI ?_;exact bp))|fail):p:=h
theorem RA(h:p:=by first|((refine pH rfl bS (zB) ?_;obtain⟨r,cells,hf,z,rfl,hz⟩:=B9 (X:=X) (G:=G) (vv.of (xs:=[[.int .i64 _],[.int .i64 _]]) af af);refine⟨_,_,hf,?_⟩;(have lD:z.size=2:=hz);refine zA ?_))<;>exact bp|fail):p:=h
theorem RB(h:p:=by first|(refine aO (RD _) pP fe ?_;rintro _ ⟨z,rfl,hz⟩;(refine aU aI ?_;exact bp))|fail):p:=h
theorem ajE(h:p:=by first|((refine⟨_,_,_,rfl,ad,ad,_,rfl⟩))<;>exact bN|fail):p:=h
theorem FL(h:p:=by first|(refine o5 (zZ eA _) lA ad ad fe (fun r hr=>?_);obtain⟨b,rfl,hb,pZ⟩:=hr;cases b;all_goals (first|(have hb:=hb rfl)|clear hb);all_goals (refine aU aI ?_;exact bp))|fail):p:=h
theorem FM(h:p:=by first|(refine gA (ajF eA _ _) lA ad ad gx fe (fun r cR fh dg fc gL hr=>?_);obtain⟨zz,rfl,mR,jW⟩:=hr;(refine aU aI ?_;exact bp))|fail):p:=h
theorem ajG(h:p:=by first|((refine⟨_,_,_,rfl,ad,ad,_,_,_,_,_,_,_,_,_,rfl,Fw⟩))<;>exact bN|fail):p:=h
theorem RE(h:p:=by first|(refine o5 (zZ eA _) ol ad ad iK (fun r hr=>?_);obtain⟨b,rfl,hb,pZ⟩:=hr;cases b;all_goals (first|(have hb:=hb rfl)|clear hb);all_goals (refine bx aI ?_;exact bN))|fail):p:=h
theorem JO(h:p:=by first|(refine gA (zY eA) ol ad ad gx iK (fun r cR fh dg fc gL hr=>?_);obtain⟨rfl,rfl,r,n,rfl,pG,gj,r4,qR,iv,tE,o3⟩:=hr;(refine bx aI ?_;exact bN))|fail):p:=h
theorem RF(h:p:=by first|(refine gA (ajH hs _) ol ad ad gx iK (fun r cR fh dg fc gL hr=>?_);obtain⟨z,a,b,rfl,hz⟩:=hr;(refine bx aI ?_;exact bN))|fail):p:=h
theorem RG(h:p:=by first|(refine aO (JK _) pP iK ?_;rintro _ ⟨z,rfl,hz⟩;(refine bx aI ?_;exact bN))|fail):p:=h
theorem RH(h:p:=by first|(refine o5 (RI eA _ ad) ol ad ad iK (fun r hr=>?_);obtain⟨b,rfl,hb,pZ⟩:=hr;cases b;all_goals (first|(have hb:=hb rfl)|clear hb);all_goals (refine bx aI ?_;exact bN))|fail):p:=h
theorem ajI(h:p:=by first|((refine⟨_,_,_,rfl,ad,ad,_,_,_,_,_,_,_,_,_,rfl,BJ⟩))<;>exact bp|fail):p:=h
theorem RJ(h:p:=by first|(refine aO (JP _ _ jW ad ad ad) pQ lT ?_;rintro gq ⟨N,hN⟩;have bP:=hN.deep;refine aU bP ?_;exact bp)|fail):p:=h
theorem RK(h:p:=by first|(refine aO (ajJ hN ad) pQ lT ?_;rintro _ ⟨z9,rfl,hz9⟩;have bP:=bP;refine aU bP ?_;exact bp)|fail):p:=h
theorem ja(h:p:=by first|(refine dw (RM _) cB dM hF ?_;rintro _ b1 ⟨rfl,dS⟩ lR hF;exact kB)|fail):p:=h
theorem xu(h:p:=by first|(refine dw (ih.e ‹EZ _ _›) cB dM hF ?_;exact fX)|fail):p:=h
theorem FN(h:p:=by first|(refine dw (RN ih ‹_›) cB dM hF ?_;exact E3)|fail):p:=h
theorem JQ(h:p:=by first|(refine dw (r23 _ _ _ aJ ih ‹_›) cB dM hF ?_;exact fX)|fail):p:=h
theorem RP(h:p:=by first|(refine qS (e:=e) 4001 rfl rfl hF (fun R t0 H0 aI eU hR=>cG.2 ?_) (fun c g n' b1 hF=>?_)<;>(try refine cA ?_)<;>exact az)|fail):p:=h
theorem JR(h:p:=by first|(refine dw (jt ‹FZ _ _› _) cB dM hF ?_;exact fX)|fail):p:=h
theorem Ca(h:p:=by first|((refine⟨_,rfl,?_,?_⟩;(first|exact hF|exact fun _=>trivial|exact fun h=>absurd h Bool.false_ne_true);(simp[jz,mz,wW,kQ,ma, *];first|done|fail)))<;>exact az|fail):p:=h
theorem vw(h:p:=by first|(refine dw (r48 B _) cB dM hF ?_;rintro _ b1 ⟨s,rfl,ajM⟩ lR hF;exact kB)|fail):p:=h
theorem JS(h:p:=by first|(refine aO (RQ (‹EZ _ _›:EZ _ _).1 (‹EZ _ _›:EZ _ _).le) pE dM ?_;rintro _ ⟨c,rfl⟩;exact kB)|fail):p:=h
theorem RR(h:p:=by first|(refine ajN (zB) ad ad aJ rfl (fun p s=>?_);refine cA ?_)<;>exact az|fail):p:=h
theorem RS(h:p:=by first|(refine aO (RT ‹Nd _›) pE dM ?_;rintro _ ⟨c,rfl⟩;exact kB)|fail):p:=h
theorem RU(h:p:=by first|(refine aO (B.JT ao) pE dM ?_;rintro _ ⟨s',rfl,eA⟩;exact kB)|fail):p:=h
theorem ajO(h:p:=by first|(refine aO (B.JU _ ad ad) pE dM ?_;rintro _ rfl;exact kB)|fail):p:=h
theorem ajP(h:p:=by first|((refine⟨_,rfl,?_,?_⟩;(first|exact hF|exact fun _=>trivial|exact fun h=>absurd h Bool.false_ne_true);exact jz.2 (jb (tF ⟨hS,dR,jN,lS⟩ (by have:=aq.1.len;omega) ad))))<;>exact az|fail):p:=h
theorem RW(h:p:=by first|(obtain⟨k0,x0,m0,n0,Cb,a0,rfl,tG⟩:=xv.open;have uX:=tG.1;have ajQ:=tG.2.1;refine cA ?_)<;>exact az|fail):p:=h
theorem RX(h:p:=by first|((refine⟨_,rfl,fun h=>absurd h Bool.false_ne_true,_,rfl,?_,fun h=>absurd h Bool.false_ne_true⟩;(simp[mz,kQ,ma, *];first|done|fail)))<;>exact az|fail):p:=h
theorem vy(h:p:=by first|(refine dw (RM _) cB dM hF ?_;rintro _ b1 ⟨rfl,dS⟩ lR hF;exact qL)|fail):p:=h
theorem JV(h:p:=by first|(refine dw (xw ‹BZ _ _›) cB dM hF ?_;rintro _ b1 ⟨_,rfl,xv,dU⟩ lR hF;exact qL)|fail):p:=h
theorem RY(h:p:=by first|(refine dw (RZ ‹IZ _ _›) cB dM hF ?_;rintro _ b1 ⟨_,rfl,xv,dU⟩ lR hF;exact qL)|fail):p:=h
theorem FO(h:p:=by first|(obtain⟨k0,x0,m0,n0,Cb,a0,rfl,tG⟩:=xv.open;have uX:=tG.1;have ajQ:=tG.2.1;refine cA ?_)<;>exact bu|fail):p:=h
theorem R0(h:p:=by first|(refine dw (ih.e ‹EZ _ _›) cB dM hF ?_;exact vb)|fail):p:=h
theorem JW(h:p:=by first|(refine dw (ih.s ‹SZ _ _›) cB dM hF ?_;exact fX)|fail):p:=h
theorem R2(h:p:=by first|(refine dw (R1 ih ‹_›) cB dM hF ?_;exact fX)|fail):p:=h
theorem ajR(h:p:=by first|((first|(obtain⟨n0,rfl⟩:=nE.i20 jc)|(obtain⟨n0,rfl⟩:=nE.i21 jc)|(obtain⟨n0,rfl⟩:=nE.i17 jc));clear jc;try (refine cA ?_))<;>exact az|fail):p:=h
theorem ajS(h:p:=by first|(refine dw (R4 B _ _ ax ax) cB dM hF ?_;exact vb)|fail):p:=h
theorem ajT(h:p:=by first|(refine aO (RQ (‹EZ _ _›:EZ _ _).1 (‹EZ _ _›:EZ _ _).le) pE dM ?_;rintro _ ⟨c,rfl⟩;exact qL)|fail):p:=h
theorem ajU(h:p:=by first|(refine aO (RT ‹Nd _›) pE dM ?_;rintro _ ⟨c,rfl⟩;exact qL)|fail):p:=h
theorem ajV(h:p:=by first|(refine vz (A:=[3008,9017]) (ys:=ys) (v:=v) (cB) (cB) (cB) (cB) (aY.frame vh) af af tB vr af fH aJ rX (fun t' H' n' v' tH tI bI hf=>?_);have z6:=hf 0 af af aJ;have JX:=hf 1 af af aJ;have z7:=hf 2 af af aJ;(try refine cA ?_))<;>exact bu|fail):p:=h
theorem ajW(h:p:=by
 first
 |skip
  all_goals first
   |(have next:=nx;unfold Hid at next;generalize ec:ys++_=zs at bI;refine next (n - 1) ad _ ⟨i+1,_,v',zs,so,ad,cB,cB,cB,cB,cB,cB,cB,gK,cB,cB,cB,cB,bI,?_,by rw[<-ec];simp[eY];omega,?_⟩)
   |(refine⟨?_,_,rfl,?_,?_⟩)
   |skip
  all_goals first
   |(intro y hy;rw[<-ec]at hy;rcases List.mem_append.1 hy with hy|hy;(focus exact dY y hy);(simp only[List.mem_cons,List.not_mem_nil,or_false]at hy;rcases hy with rfl|rfl<;>assumption))
   |skip
  all_goals first
   |exact fun h=>absurd h Bool.false_ne_true
   |exact fun h=>(show b=true->aZ=true from ej) (hF h)
   |(simpa using fun h:0∈gi v=>absurd (g4 0 h) af)
   |(have R3:Nd [.int .i64 108,.str (bs []),.str (bs []),.int .u64 0,gv v ys,.int .i64 0]:=jb ⟨g1,g2,pS,fun y hy=>dY y rS,fun h=>absurd h ad⟩ lU lU;simp[jz,R3];done)
   |(have R3:Nd [.int .i64 108,.str (bs []),.str (bs []),.int .u64 0,gv v ys,.int .i64 0]:=jb ⟨g1,g2,pS,fun y hy=>dY y rS,fun h=>absurd h ad⟩ lU lU;clear hE;refine jz.2 (jb (ma.2 ?_) lU lU);simp[*];done)
  done
 |fail):p:=h
theorem ajX(h:p:=by first|(refine dw (R4 B _ _ ht ao) cB dM hF ?_;exact fX)|fail):p:=h
theorem ajY(h:p:=by first|(refine dw (ih.s ax) cB dM hF ?_;exact vb)|fail):p:=h
theorem JY(h:p:=by first|(refine dw (xw ax) cB dM hF ?_;rintro _ b1 ⟨_,rfl,xv,dU⟩ lR hF;exact qL)|fail):p:=h
theorem R5(h:p:=by
 first
 |skip
  all_goals first
   |(have next:=nx;unfold Hid at next;refine next (n - 1) ad _ ⟨i+1,_,ad,cB,cB,cB,cB,cB,cB,cB,cB,gK,cB,cB,cB,fun h=>(show b=true->aZ=true from ej) (hF h)⟩)
   |skip
  done
 |fail):p:=h
theorem ajZ(h:p:=by first|(refine dw (ih.e ax) cB dM hF ?_;exact vb)|fail):p:=h
theorem aBh(h:p:=by
 first
 |skip
  skip;have B6:(ae pO).length<=1048576:=(‹aB (SZ m) pO›:aB (SZ m) pO).1.len;refine oz (A:=[34002,37007]) (ys:=[_]) (r:=r) (zB) hS dR (fun c hc=>(lS c hc).len) aji af fH (fun v2 H2 tr2 bI hf hn hz=>?_);obtain⟨z2,rfl,lD⟩:=hz _ _ rfl;have f0:=hf 0 af;have f2:=hf 2 af;have f7:=hf 29007 af;have f8:=hf 34004 af;have f9:=hf 29005 af;have f5:=hf 38005 af
  (try replace f0:=aaA (Kj e0 (Kj e2 e7)) f0);(try replace f2:=aaA (Kj e0 (Kj e2 e7)) f2);(try replace f7:=aaA (Kj e0 (Kj e2 e7)) f7);(try replace f8:=aaA (Kj e0 (Kj e2 e7)) f8);(try replace f9:=aaA (Kj e0 (Kj e2 e7)) f9);(try replace f5:=aaA (Kj e0 (Kj e2 e7)) f5)
  have mc:=hZ bI;have p6:=fun(n:Nat) (H':al) (q1:H' 34002=H2 34002) (q2:H' 37007=H2 37007)=>(aX.dF (n:=n) (bI.frame (H':=H') zT))
  obtain⟨q1,q2,q3,q4⟩:=bI.gv;generalize ec:[_]++ae r=cs at bI p6 q1 q2 q3 q4;have fC:∀y,y∈cs->Nd y:=by
   intro y hy;rw[<-ec]at hy;rcases List.mem_append.1 hy with hy|hy
   ·simp only[List.mem_singleton]at hy;subst hy;first|assumption|simp[mz,kQ]
   ·exact lS _ hy
  have ew:cs.length<=1048577:=by rw[<-ec];simp only[List.length_append,List.length_cons,List.length_nil];omega
  clear ec;have FP:Nd [.int .i64 28,.str (bs []),.str (bs []),.int .u64 0,gv v2 cs,.int .i64 0]:=jb ⟨q1,q2,by rw[q3];omega,fun y hy=>fC y (by rw[q3]at hy;exact hy),fun h=>absurd h ad⟩ lU lU;refine cA ?_;simp only[cG];refine cA ?_;refine(vz (A:=[29005,38005]) (ys:=ys) (v:=v) (cB) (cB) (cB) (cB) (aY.frame vh) af af ?_ ?_ af fH aJ rX (fun t' H' n' v' tH tI R6 JZ=>?_))
  rotate_right
  ·have ze:∀c,c≠38004->c≠34002->c≠37007->¬c∈38004::gi v2:=by
    intro c h1 h2 h3 h;rcases List.mem_cons.1 h with h|h
    ·exact h1 h
    ·have:=q4 c h;simp only[List.mem_cons,List.not_mem_nil,or_false]at this;rcases this with h|h
     ·exact h2 h
     ·exact h3 h
   have p0:=JZ 0 af (ze _ aJ aJ aJ) aJ;have p2:=JZ 2 af (ze _ aJ aJ aJ) aJ
   (try replace p0:=aaA (Kj f0 f2) p0);(try replace p2:=aaA (Kj f0 f2) p2)
   clear hE p6 hf JZ;refine cA ?_;simp only[cG];refine cA ?_;have next:=nx
   unfold Hid at next
   generalize ec:ys++_=zs at R6;refine next (n - 1) ad _ ⟨i+1,_,v',zs,so,ad,cB,cB,cB,cB,cB,gK,cB,cB,cB,R6,?_,qO,fun h=>(show b=true->aZ=true from ej) (hF h)⟩
   intro y hy;rw[<-ec]at hy;rcases List.mem_append.1 hy with hy|hy
   ·exact dY y hy
   ·simp only[List.mem_cons,List.not_mem_nil,or_false]at hy;subst hy;exact FP
  ·intro b hb;rcases List.mem_cons.1 hb with rfl|hb
   ·exact⟨af,aJ⟩
   ·have:=q4 b hb;simp only[List.mem_cons,List.not_mem_nil,or_false]at this;rcases this with rfl|rfl<;>exact⟨af,aJ⟩
  ·intro z hz;simp only[List.mem_cons,List.not_mem_nil,or_false]at hz;subst hz;exact⟨rfl,FP.deep⟩
  done
 |fail):p:=h
theorem R8(h:p:=by
 first
 |skip
  all_goals first
  |exact iZ
  |exact nD
  |exact R7
  |fail
  done
 |fail):p:=h
theorem aj0(h:p:=by
 first
 |skip
  refine⟨by simpa using fun h:0∈gi (t 4)=>absurd (g4 0 h) af,?_⟩;exact⟨_,ds,rfl,br.of g1 g2 g3 ad iP,aV.whole ad⟩;done
 |fail):p:=h
theorem FR(h:p:=by first|((exfalso;omega))<;>exact az|fail):p:=h
theorem xB(h:p:=by
 first
 |skip
  all_goals first
  |exact xz
  |exact xA
  |fail
  done
 |fail):p:=h
theorem aj1(h:p:=by first|(refine aO (i32 _) pE dM ?_;rintro _ rfl;exact kB)|fail):p:=h
theorem aj2(h:p:=by first|(refine aO (R9 _ bX) pE dM ?_;rintro _ rfl;exact kB)|fail):p:=h
theorem tJ(h:p:=by first|(refine aO (R9 _ bX) pE dM ?_;rintro _ rfl;exact qL)|fail):p:=h
theorem J0(h:p:=by first|((exact rfl))<;>exact az|fail):p:=h
theorem aj3(h:p:=by first|(simp only[eD,jX];refine cA ?_)<;>exact az|fail):p:=h
theorem Se(h:p:=by first|(simp only[eD,Cd];refine cA ?_)<;>exact az|fail):p:=h
theorem Sf(h:p:=by first|(refine dD (P:=Cc) Cc.len lc ad JE (fun v2 cC sO=>?_);have Sa:=cC.1;have Sb:=cC.2.1;have fW:=fun(n:Nat) (H:al)=>aH (n:=n) (H:=H) Sb;have jA:=fQ (Sa.imp id fun⟨xs,h,_⟩=>⟨xs,h⟩);have dI:=Fc.aj4 Sa Sb JH;refine cA ?_)<;>exact az|fail):p:=h
theorem Sg(h:p:=by first|((exfalso;omega))<;>exact bu|fail):p:=h
theorem aj7(h:p:=by first|(refine aO (Ce cu q4) jQ (cB) ?_;rintro _ ⟨w1,tK,rfl,cP,bL⟩;have qT:=cP.1.1;have qU:=cP.1.2.1;have J1:=fQ (qT.imp id fun⟨xs,h,_⟩=>⟨xs,h⟩);have J2:=fun(n:Nat) (H:al)=>aH (n:=n) (H:=H) qU;refine cA ?_)<;>exact az|fail):p:=h
theorem Sh(h:p:=by first|(refine aO (kE ‹aB (SZ _) _› q5) jQ (cB) ?_;rintro _ ⟨w2,tL,rfl,dI,aW⟩;have xC:=dI.1.1;have xD:=dI.1.2.1;have aj5:=fQ (xC.imp id fun⟨xs,h,_⟩=>⟨xs,h⟩);have aj6:=fun(n:Nat) (H:al)=>aH (n:=n) (H:=H) xD;refine cA ?_)<;>exact az|fail):p:=h
theorem Si(h:p:=by first|(refine aO (aj8 aD (show∀y,y∈ae parts->qV y from oA) (show dK X G m from ci)) jQ (cB) ?_;rintro _ ⟨w1,tK,rfl,cP,bL⟩;have qT:=cP.1.1;have qU:=cP.1.2.1;have J1:=fQ (qT.imp id fun⟨xs,h,_⟩=>⟨xs,h⟩);have J2:=fun(n:Nat) (H:al)=>aH (n:=n) (H:=H) qU;refine cA ?_)<;>exact az|fail):p:=h
theorem akb(h:p:=by first|(refine aO (aj9 _) pE iW ?_;rintro _ rfl;refine aU aI ?_;exact b7)|fail):p:=h
theorem ju(h:p:=by first|(refine aO (aka bY hm) pE iW ?_;rintro _ ⟨c,rfl,hc⟩;refine aU aI ?_;exact b7)|fail):p:=h
theorem akc(h:p:=by first|((generalize FloatKind.f64.format.sub nn nn=o;cases o<;>refine nA (Kj ao.1 (Kj ao.2.1 (Kj aq.1 (Kj aq.2.1 (Kj aE.1 (Kj aE.2.1 (Kj aD.1 (Kj aD.2.1 (Kj av.1 (Kj av.2.1 (Kj au.1 au.2.1))))))))))) ?_))<;>exact b7|fail):p:=h
theorem akd(h:p:=by first|exact⟨_,rfl,fun h=>absurd h Bool.false_ne_true⟩|fail):p:=h
theorem ake(h:p:=by first|((refine⟨_,rfl,fun hq=>?_⟩;(try simp only[decide_eq_true_eq]at hq);first|exact aiN|done|fail))<;>exact b7|fail):p:=h
theorem FU(h:p:=by first|((exact absurd ((‹(FloatKind.f64.format.order nn 4607182418800017408==some Ordering.eq)=true›).symm.trans ‹(FloatKind.f64.format.order nn 4607182418800017408==some Ordering.eq)=false›) aJ))<;>exact b7|fail):p:=h
theorem J3(h:p:=by first|((exact⟨_,_,_,rfl,fw,cy,bL⟩))<;>exact bu|fail):p:=h
theorem Sj(h:p:=by first|(refine aO (akf bX (Nat.le_refl _) mN hw) bS (cB) ?_;rintro _ rfl;refine cA ?_)<;>exact bu|fail):p:=h
theorem Sl(h:p:=by first|(refine aO (akg bX (Nat.le_refl _) mN) bS (cB) ?_;rintro _ rfl;refine cA ?_)<;>exact bu|fail):p:=h
theorem aki(h:p:=by first|(refine aO (akh bX (Nat.le_refl _) mN hw) bS (cB) ?_;rintro _ rfl;refine cA ?_)<;>exact bu|fail):p:=h
theorem FW(h:p:=by first|(refine aO (qH ee p2 p4 (show dK X G m from ci)) jQ (cB) ?_;rintro _ ⟨k2,tL,rfl,jL,en,xE,fV⟩;refine cA ?_)<;>exact bu|fail):p:=h
theorem So(h:p:=by first|(refine aO (FV _ Sm) bS (cB) ?_;rintro nm dU;have Cf:=J4 dU;have xF:=J5 dU;have Sn:=fun(n:Nat) (H:al)=>aH (n:=n) (H:=H) xF;refine cA ?_)<;>exact az|fail):p:=h
theorem akj(h:p:=by first|(simp only[eD,qW];refine cA ?_)<;>exact az|fail):p:=h
theorem akk(h:p:=by first|(simp only[eD,fw];refine cA ?_)<;>exact az|fail):p:=h
theorem akn(h:p:=by first|(refine aO (Sp iQ cv) bS (cB) ?_;rintro _ ⟨Cb,rfl,J6,FY,F0⟩;have aBj:=fun(n:Nat) (H:al)=>aH (n:=n) (H:=H) FY;refine cA ?_)<;>exact az|fail):p:=h
theorem ako(h:p:=by first|(refine aO (Sp nF cy) bS (cB) ?_;rintro _ ⟨kk1,rfl,aBl,akl,F1⟩;have aBm:=fun(n:Nat) (H:al)=>aH (n:=n) (H:=H) akl;refine cA ?_)<;>exact az|fail):p:=h
theorem akp(h:p:=by first|(simp only[eD,bY];refine cA ?_)<;>exact bu|fail):p:=h
theorem akq(h:p:=by
 first
 |skip
  refine ik (A:=[8006]) (ys:=[]) (zs:=[[b0,ab]]) (ids:=[8005]) (cB) gy af af iA af fH (fun v' H' z' bI hf=>?_);have f1:=hf 1 af af
  replace f1:=aaA e1 f1
  clear hE hf;simp only[push];refine cA ?_;simp only[cG];refine cA ?_;have next:=nx
  unfold Hid at next
  exact next 1 ad _ ⟨cB,cB,cB,cB,.inr (.inl ⟨rfl,cB,lV⟩)⟩
  done
 |fail):p:=h
theorem akr(h:p:=by first|(simp only[eD,gG];refine cA ?_)<;>exact bu|fail):p:=h
theorem aks(h:p:=by
 first
 |skip
  refine ik (A:=[8006]) (ys:=[[b0,ab]]) (zs:=[[b1,ab]]) (ids:=[8005]) (cB) gy af af iA af fH (fun v' H' z' bI hf=>?_);have f1:=hf 1 af af
  replace f1:=aaA e1 f1
  clear hE hf;simp only[push];refine cA ?_;simp only[cG];refine cA ?_;have next:=nx
  unfold Hid at next
  exact next 0 ad _ ⟨cB,cB,cB,cB,.inr (.inr ⟨rfl,cB,lV⟩)⟩
  done
 |fail):p:=h
theorem aku(h:p:=by first|(have jK:=(show∀y,y∈ae decls->mS y from fI) _ b6;obtain⟨_,_,_,_,_,p1,p2,p3⟩:=jK;have lr:(ae jq).length=0:=B1;refine aO ((show fj X G m from cM) ‹BZ _ _› p1) bS (cB) ?_;rintro _ ⟨u1,y1,Cg,rfl,nF,cy,bL⟩;refine cA ?_)<;>exact bu|fail):p:=h
theorem akv(h:p:=by
 first
 |skip
  refine ik (A:=[8006]) (ys:=[]) (zs:=[[b0,ab]]) (ids:=[8005]) (cB) gy af af iA af fH (fun v' H' z' bI hf=>?_);have f1:=hf 1 af af
  replace f1:=aaA e1 f1
  clear hE hf;simp only[push];refine cA ?_;simp only[cG];refine cA ?_;have next:=nx
  unfold Hid at next
  exact next 2 ad _ ⟨cB,cB,cB,cB,.inr (.inl ⟨rfl,cB,lV⟩)⟩
  done
 |fail):p:=h
theorem J7(h:p:=by
 first
 |skip
  refine ik (A:=[8006]) (ys:=[[b0,ab]]) (zs:=[[b1,ab]]) (ids:=[8005]) (cB) gy af af iA af fH (fun v' H' z' bI hf=>?_);have f1:=hf 1 af af
  replace f1:=aaA e1 f1
  clear hE hf;simp only[push];refine cA ?_;simp only[cG];refine cA ?_;have next:=nx
  unfold Hid at next
  exact next 1 ad _ ⟨cB,cB,cB,cB,.inr (.inr (.inl ⟨rfl,cB,lV⟩))⟩
  done
 |fail):p:=h
theorem Sq(h:p:=by
 first
 |skip
  refine ik (A:=[8006]) (ys:=[[b0,ab],[b1,ab]]) (zs:=[[b2,ab]]) (ids:=[8005]) (cB) gy af af iA af fH (fun v' H' z' bI hf=>?_);have f1:=hf 1 af af
  replace f1:=aaA e1 f1
  clear hE hf;simp only[push];refine cA ?_;simp only[cG];refine cA ?_;have next:=nx
  unfold Hid at next
  exact next 0 ad _ ⟨cB,cB,cB,cB,.inr (.inr (.inr ⟨rfl,cB,lV⟩))⟩
  done
 |fail):p:=h
theorem aky(h:p:=by first|(refine aO (akw bX (Nat.le_refl _) mN hw hu) bS (cB) ?_;rintro _ rfl;refine cA ?_)<;>exact bu|fail):p:=h
theorem akA(h:p:=by first|(refine aO (akx bX (Nat.le_refl _) mN hw hu) bS (cB) ?_;rintro _ rfl;refine cA ?_)<;>exact bu|fail):p:=h
theorem akB(h:p:=by first|(refine aO (akz ax ad) pQ lT ?_;rintro _ ⟨nb,rfl,aBn,aBo,QE,Sr⟩;have bP:=hd;refine aU bP ?_;exact bp)|fail):p:=h
theorem akC(h:p:=by first|(refine next _ ?_ _ ⟨_,_,zF,zF,zF,zO,zO,rfl⟩;(first|exact wM|exact pY.first Fb hM d1 b2 d2 BF QE BG rfl|(split<;>omega)|exact(cg.next sc hy bY rY).1|(have:=(cg.next sc hy bY rY).2;omega)))|fail):p:=h
theorem Ss(h:p:=by first|((refine⟨_,rfl,ad,ad,cg.jJ (q2:=q+1) hN hM sc hy bY rY ajp QM⟩))<;>exact bN|fail):p:=h
theorem akD(h:p:=by first|((refine⟨_,rfl,ad,ad,cg.jJ (q2:=q) hN hM sc hy bY rY ajo QM⟩))<;>exact bN|fail):p:=h
theorem J8(h:p:=by first|(refine aO (vB 1 hw ad ad ad) pQ mM ?_;rintro x2 me;have bP:=me.deep;refine bx bP ?_;exact bN)|fail):p:=h
theorem Sw(h:p:=by
 first
 |skip
  all_goals first
  |exact Su
  |exact Sv
  |fail
  done
 |fail):p:=h
theorem Sx(h:p:=by first|(refine aO (F2 1 ad ad) pQ lT ?_;rintro u hu;have bP:=hu.deep;refine aU bP ?_;exact bp)|fail):p:=h
theorem Ka(h:p:=by first|(refine aO (vB _ hx ad ad ad) pQ lT ?_;rintro x3 mT;have bP:=mT.deep;refine aU bP ?_;exact bp)|fail):p:=h
theorem Sz(h:p:=by first|((refine pH rfl bS (zB) ?_;obtain⟨x,cells,hf,hx⟩:=J9 (X:=X) (G:=G) q ad ad;have bP:=hx.deep;refine⟨_,_,hf,?_⟩;refine nA bP ?_))<;>exact bp|fail):p:=h
theorem F5(h:p:=by first|(exact⟨_,_,rfl,ad,ad,ad,ad⟩)<;>exact jO|fail):p:=h
theorem SA(h:p:=by first|(refine aO (F3 bX hB Kb ad ad ad) pQ tu ?_;rintro _ ⟨q,m,w,rfl,ou,tD,hw,hq9,akF⟩;rw[<-ou]at F4;have bP:=hw.deep;refine fO bP ?_;exact jO)|fail):p:=h
theorem F6(h:p:=by first|(refine aO (vB 1 hw ad ad ad) pQ tu ?_;rintro x2 me;have bP:=me.deep;refine fO bP ?_;exact jO)|fail):p:=h
theorem F7(h:p:=by first|(refine aO (xG me hB ad ad) pQ tu ?_;rintro _ ⟨c,rfl,hc⟩;rw[show(2:Int) ^ (1:Int).toNat=2 from rfl]at hc;have bP:=kD;refine fO bP ?_;exact jO)|fail):p:=h
theorem akI(h:p:=by first|(refine aO (akG _ _ ad ad ad ad) pP Qm ?_;rintro _ ⟨v,rfl,lr,cc,o2⟩;(refine fO aI ?_;exact jO))|fail):p:=h
theorem SC(h:p:=by first|(refine aO (akH _ _ _ ad ad ad ad) pP Qm ?_;rintro _ ⟨z,mm,rfl,kT,lD,r7,vC⟩;(refine fO aI ?_;exact jO))|fail):p:=h
theorem SD(h:p:=by first|(refine next _ ?_ _ ⟨_,rV,rV,rV,rV,rV,wM,wM,rfl⟩;exact wM)|fail):p:=h
theorem akJ(h:p:=by first|(refine aO (F3 hA bX Kb ad ad ad) pQ tu ?_;rintro _ ⟨q,m,w,rfl,ou,tD,hw,hq9,akF⟩;rw[<-ou]at F4;have bP:=hw.deep;refine fO bP ?_;exact jO)|fail):p:=h
theorem SF(h:p:=by first|(refine aO (xG me bX ad ad) pQ tu ?_;rintro _ ⟨c,rfl,hc⟩;rw[show(2:Int) ^ (1:Int).toNat=2 from rfl]at hc;have bP:=kD;refine fO bP ?_;exact jO)|fail):p:=h
theorem F8(h:p:=by
 first
 |skip
  all_goals exact rfl
  done
 |fail):p:=h
theorem xH(h:p:=by first|(refine aO h5 xh (cB) ?_;rintro _ rfl;refine cA ?_)<;>exact az|fail):p:=h
theorem SH(h:p:=by first|((refine⟨_,rfl,fun hq=>?_⟩;(try simp only[decide_eq_true_eq]at hq);first|exact hU.all ad|done|fail))<;>exact b7|fail):p:=h
theorem SJ(h:p:=by first|(refine aO (Kc _ _ _ _ ih ‹_›) pE iW ?_;exact lz)|fail):p:=h
theorem akK(h:p:=by first|(refine aO (SI _ _ _ ih ‹_›) pE iW ?_;exact lz)|fail):p:=h
theorem SL(h:p:=by first|(refine aO (ih.b ‹BZ _ _› _) pE iW ?_;exact lz)|fail):p:=h
theorem akM(h:p:=by first|(refine next (n - 1) ad _ ⟨i+1,ad,sA h1,sA h2,rQ,sA e1,dL.akL hU (fun y hy=>cy y (by simpa using hy))⟩)|fail):p:=h
theorem akN(h:p:=by first|((refine⟨_,rfl,fun hq=>?_⟩;(try simp only[decide_eq_true_eq]at hq);first|exact .mk _ _ _ _ QV (hU.all ad)|done|fail))<;>exact mb|fail):p:=h
theorem z8(h:p:=by first|(refine aO (SM _) pE iW ?_;rintro _ ⟨c,rfl,hc⟩;refine aU aI ?_;exact b7)|fail):p:=h
theorem akO(h:p:=by first|((refine⟨_,rfl,fun hq=>?_⟩;(try simp only[decide_eq_true_eq]at hq);first|exact .mk _ _ _ _ ad (qM ad)|done|fail))<;>exact b7|fail):p:=h
theorem SN(h:p:=by first|(refine aO (SM _) pE iW ?_;exact lz)|fail):p:=h
theorem akP(h:p:=by first|(refine next (n - 1) ad _ ⟨i+1,ad,sA h1,sA h2,sA h3,rQ,sA e1,dL.succ hU Fy (.mk _ _ _ _ _ ax ad ax)⟩)|fail):p:=h
theorem akQ(h:p:=by first|(refine aO (Kc _ _ _ _ ih ‹_›) pE u7 ?_;exact va)|fail):p:=h
theorem akR(h:p:=by first|(refine aO (ih.b ‹BZ _ _› _) pE u7 ?_;exact va)|fail):p:=h
theorem akS(h:p:=by first|(refine aO (F9 _ ih cz) pE u7 ?_;exact va)|fail):p:=h
theorem Kd(h:p:=by first|((refine⟨_,rfl,fun hq=>?_⟩;(try simp only[decide_eq_true_eq]at hq);first|exact FA|done|fail))<;>exact mb|fail):p:=h
theorem akT(h:p:=by first|((refine⟨_,rfl,fun hq=>?_⟩;(try simp only[decide_eq_true_eq]at hq);first|exact .mk _ _ _ _ _ ad ad ad (qM ad) ax|done|fail))<;>exact b7|fail):p:=h
theorem akU(h:p:=by first|(refine aO (F9 _ ih ‹_›) pE iW ?_;exact lz)|fail):p:=h
theorem akV(h:p:=by first|(refine next (n - 1) ad _ ⟨i+1,ad,sA h1,sA h2,rQ,sA e1,dL.succ hU QY (.mk _ _ _ _ _ _ ajb zS zS zS BU)⟩)|fail):p:=h
theorem akW(h:p:=by first|(refine aO (SI _ _ _ ih ‹_›) pE u7 ?_;exact va)|fail):p:=h
theorem akX(h:p:=by first|(refine aO (SO _ (‹EZ _ _›:EZ _ _).1 (‹EZ _ _›:EZ _ _).le) pE u7 ?_;exact va)|fail):p:=h
theorem akY(h:p:=by first|((refine⟨_,rfl,fun hq=>?_⟩;(try simp only[decide_eq_true_eq]at hq);first|exact .mk _ _ _ ajc ad ax (hU.all ad)|done|fail))<;>exact mb|fail):p:=h
theorem SP(h:p:=by first|((refine⟨_,rfl,fun hq=>?_⟩;(try simp only[decide_eq_true_eq]at hq);first|exact .mk _ _ _ (.inl rfl) ad ax ax|done|fail))<;>exact b7|fail):p:=h
theorem ak0(h:p:=by first|(refine next (n - 1) ad _ ⟨i+1,ad,sA h1,sA h2,sA h5,rQ,sA e1,dL.succ hU aiZ ⟨_,rfl⟩⟩)|fail):p:=h
theorem Ke(h:p:=by first|(refine aO (s35 _ _ _ ih ‹_›) pE iW ?_;exact lz)|fail):p:=h
theorem SR(h:p:=by first|((refine⟨_,rfl,fun hq=>?_⟩;(try simp only[decide_eq_true_eq]at hq);first|exact Fz|done|fail))<;>exact b7|fail):p:=h
theorem SU(h:p:=by first|(refine aO (SQ _ _ ih ‹_›) pE iW ?_;exact lz)|fail):p:=h
theorem ak3(h:p:=by first|(refine aO (s36 _ _ ih (‹FZ _ _›:FZ _ _).1 (‹FZ _ _›:FZ _ _).le) pE iW ?_;exact lz)|fail):p:=h
theorem ak5(h:p:=by first|(refine aO (s37 _ ih (‹CZ _ _›:CZ _ _).1 (‹CZ _ _›:CZ _ _).le) pE iW ?_;exact lz)|fail):p:=h
theorem ak7(h:p:=by first|(refine aO (s38 _ ih _ _ _ _ _ _ _ _ _ _ _ aq aL hx hm) pE iW ?_;exact lz)|fail):p:=h
theorem ak8(h:p:=by first|(refine aO (s39 _ ih ‹_›) pE iW ?_;exact lz)|fail):p:=h
theorem ak9(h:p:=by first|((refine⟨_,rfl,fun hq=>?_⟩;(try simp only[decide_eq_true_eq]at hq);first|exact .mk _ _ _ _ _ _ _ _ _ _ _ aiM ax ax E7 E7 Qq E7 Qq E7 lB|done|fail))<;>exact b7|fail):p:=h
theorem ala(h:p:=by
 first
 |skip
  refine⟨by simpa using fun h:0∈gi (t 4)=>absurd (g4 0 h) af,?_⟩;exact⟨_,rfl,o6 g1 g3 ad,g2,rU⟩;done
 |fail):p:=h
theorem Ga(h:p:=by first|(refine aO (Kf h hw hm) xh (cB) ?_;rintro _ ⟨v1,rfl,cc,cN,bL⟩;have jY:=cc.cells;have jZ:=fun(n:Nat) (H:al)=>aH (n:=n) (H:=H) cN;refine cA ?_)<;>exact az|fail):p:=h
theorem Ks(h:p:=by
 first
 |skip
  exact⟨_,rfl,cc,cN,bL⟩;done
 |fail):p:=h
theorem SV(h:p:=by first|(refine aO h0 bS (cB) ?_;rintro _ ⟨K0,Kg,Kh,Pe,Ki,nn0,abj,BE,Kk,pr0,pt0,Kl,oR,rfl,tM,tN,tO,tP,tQ,tR⟩;have Km:=fun(n:Nat) (H:al)=>aH (n:=n) (H:=H) tM;have Kn:=fun(n:Nat) (H:al)=>aH (n:=n) (H:=H) tN;have Ko:=fun(n:Nat) (H:al)=>aH (n:=n) (H:=H) tO;have Kp:=fun(n:Nat) (H:al)=>aH (n:=n) (H:=H) tP;have Kq:=fun(n:Nat) (H:al)=>aH (n:=n) (H:=H) tQ;have Kr:=fun(n:Nat) (H:al)=>aH (n:=n) (H:=H) tR;refine cA ?_)<;>exact az|fail):p:=h
theorem alj(h:p:=by first|(refine aO h1 bS (cB) ?_;rintro _ ⟨K1,vD,vE,Ku,vF,Kv,lW,Kw,vG,Kx,Ky,vH,qG,rfl,tS,tT,tU,tV,tW,tX⟩;have Kz:=fun(n:Nat) (H:al)=>aH (n:=n) (H:=H) tS;have KA:=fun(n:Nat) (H:al)=>aH (n:=n) (H:=H) tT;have KB:=fun(n:Nat) (H:al)=>aH (n:=n) (H:=H) tU;have KC:=fun(n:Nat) (H:al)=>aH (n:=n) (H:=H) tV;have KD:=fun(n:Nat) (H:al)=>aH (n:=n) (H:=H) tW;have KE:=fun(n:Nat) (H:al)=>aH (n:=n) (H:=H) tX;refine cA ?_)<;>exact az|fail):p:=h
theorem vI(h:p:=by first|(refine aO h2 bS (cB) ?_;rintro _ ⟨K2,KF,KG,ch2,KH,nn2,KI,tx2,KJ,pr2,pt2,KK,KL,rfl,tY,tZ,ua,ub,uc,ud⟩;have KM:=fun(n:Nat) (H:al)=>aH (n:=n) (H:=H) tY;have KN:=fun(n:Nat) (H:al)=>aH (n:=n) (H:=H) tZ;have KO:=fun(n:Nat) (H:al)=>aH (n:=n) (H:=H) ua;have KP:=fun(n:Nat) (H:al)=>aH (n:=n) (H:=H) ub;have KQ:=fun(n:Nat) (H:al)=>aH (n:=n) (H:=H) uc;have KR:=fun(n:Nat) (H:al)=>aH (n:=n) (H:=H) ud;refine cA ?_)<;>exact az|fail):p:=h
theorem alk(h:p:=by
 first
 |skip
  exact⟨_,_,_,_,_,_,_,_,_,_,_,_,_,rfl,rfl,rfl,rfl,rfl,rfl,rfl,XG nl nl nl nl nl rfl nl⟩;done
 |fail):p:=h
theorem SX(h:p:=by first|(refine aO (SW _ _) pE dM ?_;rintro _ rfl;exact kB)|fail):p:=h
theorem SY(h:p:=by
 first
 |skip
  exact⟨_,_,_,_,_,_,_,_,_,_,_,_,_,rfl,rfl,rfl,rfl,rfl,rfl,rfl,XG nl nl nl nl (cd.ru rfl|>fun h=>cd.trans nl h) rfl nl⟩;done
 |fail):p:=h
theorem alm(h:p:=by first|(refine aO (SW _ _) pE dM ?_;rintro _ rfl;exact qL)|fail):p:=h
theorem S2(h:p:=by first|(refine ka 75 bS (fun K hK=>?_);have hK:Hid _:=hK;refine cA ?_;refine kb (Aa (show bQ X G m from h) (vJ bA gB) (show∀y,y∈[dk]->SizeOf.sizeOf y<m from hm) rfl rfl rfl rfl rfl rfl) (fun r hr=>(show∀r ids,_ from hK) _ _ ?_);clear hK;obtain⟨v1,rfl,cc,cN,bL⟩:=hr;have jY:=cc.cells;have jZ:=fun(n:Nat) (H:al)=>aH (n:=n) (H:=H) cN;refine cA ?_)<;>exact az|fail):p:=h
theorem aln(h:p:=by
 first
 |skip
  all_goals exact⟨_,_,_,_,_,_,_,_,_,_,_,_,_,rfl,rfl,cN,rfl,rfl,rfl,rfl,XG nl (cd.sl cc bL) nl nl nl rfl nl⟩
  done
 |fail):p:=h
theorem alo(h:p:=by first|(refine ka 75 bS (fun K hK=>?_);have hK:Hid _:=hK;refine cA ?_;refine kb (Aa (show bQ X G m from h) (S3 bA jB gB oW) (show∀y,y∈[dk,dl]->SizeOf.sizeOf y<m from hm) rfl rfl rfl rfl rfl rfl) (fun r hr=>(show∀r ids,_ from hK) _ _ ?_);clear hK;obtain⟨v1,rfl,cc,cN,bL⟩:=hr;have jY:=cc.cells;have jZ:=fun(n:Nat) (H:al)=>aH (n:=n) (H:=H) cN;refine cA ?_)<;>exact az|fail):p:=h
theorem alp(h:p:=by
 first
 |skip
  exact⟨_,_,_,_,_,_,_,_,_,_,_,_,_,rfl,rfl,rfl,rfl,rfl,rfl,rfl⟩;done
 |fail):p:=h
theorem S4(h:p:=by first|((exact⟨_,_,_,_,_,_,_,_,_,_,_,_,_,rfl,rfl,rfl,rfl,rfl,rfl,rfl⟩))<;>exact az|fail):p:=h
theorem alr(h:p:=by first|(refine ka 75 bS (fun K hK=>?_);have hK:Hid _:=hK;refine cA ?_;refine kb (Aa (show bQ X G m from h) (alq bA hw g1 g2 g3 hb) (show∀y,y∈dk::ds->SizeOf.sizeOf y<m from hm) rfl rfl rfl rfl rfl rfl) (fun r hr=>(show∀r ids,_ from hK) _ _ ?_);clear hK;obtain⟨v1,rfl,cc,cN,bL⟩:=hr;have jY:=cc.cells;have jZ:=fun(n:Nat) (H:al)=>aH (n:=n) (H:=H) cN;refine cA ?_)<;>exact bu|fail):p:=h
theorem alB(h:p:=by
 first
 |skip
  exact⟨_,_,_,_,_,_,_,_,_,_,_,_,_,rfl,rfl,cN,rfl,rfl,rfl,rfl,XG nl (cd.sl cc bL) nl nl nl rfl nl⟩;done
 |fail):p:=h
theorem alC(h:p:=by first|(refine r8 (P:=CQ) (fun h=>zR) hw ad ad (fun c d hc gF jd jW=>?_);obtain⟨kq,vq,dkq,usq,txq,S5,alv,alw,hqt⟩:=hc;subst alw;have xm:=xI alv rfl (aly hqt);obtain⟨uq,xq,eq_⟩:=S5.ef;obtain rfl:kq= .aj uq xq:=(by injection eq_);have eX:=gF;simp[aP,aw]at eX;obtain⟨qq1,qq2⟩:=eX;have qz:=xm.1.cells;refine cA ?_)<;>exact KS|fail):p:=h
theorem alD(h:p:=by first|(refine ka 78 bS (fun K hK=>?_);have hK:Hid _:=hK;refine cA ?_;refine kb (Kf (show bQ X G m from h) (vJ S5 qq1) (fun y hy=>Nat.lt_trans (cK (v:= .sl [dkq]) af hy) ((show∀y,y∈qs->SizeOf.sizeOf y<m from hm) _ jd))) (fun r hr=>(show∀r ids,_ from hK) _ _ ?_);clear hK;obtain⟨v1,rfl,Ch,cN,bL⟩:=hr;have jY:=Ch.cells;have jZ:=fun(n:Nat) (H:al)=>aH (n:=n) (H:=H) cN;refine cA ?_)<;>exact KS|fail):p:=h
theorem KU(h:p:=by
 first
 |skip
  refine oz (A:=[18004,18007]) (ys:=[]) (r:=vq) (cB) (xm.1.imp id (fun⟨xs,h,_⟩=>⟨xs,h⟩)) xm.2.1 (fun c hc=>Q5) zy af QW (fun v2 H' fb bI hf fq hz=>?_);obtain⟨zz2,rfl,Ri⟩:=hz _ _ rfl;have f1:=hf 1 af;have f9:=hf 11023 af;have f5:=hf 11005 af;have Ab:=hf 11010 af;have Ci:=hf 14003 af;have JI:=hf 18012 af
  (try replace f1:=aaA (Kj e1 e9) f1);(try replace f9:=aaA (Kj e1 e9) f9);(try replace f5:=aaA (Kj e1 e9) f5);(try replace Ab:=aaA (Kj e1 e9) Ab);(try replace Ci:=aaA (Kj e1 e9) Ci);(try replace JI:=aaA (Kj e1 e9) JI)
  have mc:=hZ bI;rw[List.nil_append]at bI;have p6:=fun(n:Nat) (fJ:al) (q1:fJ 18004=H' 18004) (q2:fJ 18007=H' 18007)=>(aX.dF (n:=n) (bI.frame (H':=fJ) pR))
  obtain⟨m1,m2,m3,m4⟩:=bI.gv;clear S6 S7;refine cA ?_;refine ik (A:=[18012]) (ys:=ys) (zs:=[[v1,gv v2 (ae vq),.str txq]]) (ids:=18011::gi v2) (cB) Q8 af Q2 iA af fH (fun v3 H2 z2 Gb vK=>?_);have Gc:∀b:Nat,b<18000->b∉18011::gi v2:=fun b hb hh=>by
   rcases List.mem_cons.1 hh with hh|hh
   ·omega
   ·have:=m4 _ hh;simp at this;omega
  have S8:=vK 1 af (Gc _ aJ);have k9:=vK 11023 af (Gc _ aJ);have k5:=vK 11005 af (Gc _ aJ);have S9:=vK 11010 af (Gc _ aJ)
  (try replace S8:=aaA (Kj f1 (Kj f9 (Kj f5 Ab))) S8);(try replace k9:=aaA (Kj f1 (Kj f9 (Kj f5 Ab))) k9);(try replace k5:=aaA (Kj f1 (Kj f9 (Kj f5 Ab))) k5);(try replace S9:=aaA (Kj f1 (Kj f9 (Kj f5 Ab))) S9)
  have Cj:=hZ Gb;clear p6 hf vK;simp only[push];refine cA ?_;refine⟨Rj,?_⟩;simp only[cG];refine cA ?_;have next:=nx
  unfold Hid at next
  have gM:=jW;simp only[Int.toNat_natCast]at gM;exact next (n - 1) ad _ ⟨i+1,v3,_,so,ad,cB,cB,cB,gK,cB,cB,cB,cB,Q7,Gb.frame pU,jR,aV.qX gM (.cons (cd.sl Ch bL) rfl (.cons (cd.sl (o6 m1 m3 (by have:=xm.1.len;omega)) Rc) rfl (.same rfl .nil)))⟩
  done
 |fail):p:=h
theorem alF(h:p:=by
 first
 |skip
  all_goals first
  |exact alE
  |exact Ta
  |fail
  done
 |fail):p:=h
theorem Tb(h:p:=by first|(refine aO (o7 (show bQ X G m from h) fk q2 (fun y hy=>Nat.lt_trans (cK (v:= .sl dv) af hy) ((show∀d,d∈ds->SizeOf.sizeOf d<m from hm) _ jd))) bS (cB) ?_;rintro _ ⟨v3,rfl,mU,o9,lX⟩;have Cj:=mU.cells;have Gd:=fun(n:Nat) (H:al)=>aH (n:=n) (H:=H) o9;refine cA ?_)<;>exact bu|fail):p:=h
theorem Tc(h:p:=by
 first
 |skip
  refine⟨by simpa using fun h:0∈gi pv=>absurd (g4 0 h) af,?_⟩;exact⟨_,_,_,_,rfl,o6 g1 g3 ad,g2,.same rfl (.same rfl (.cons (cd.sl (o6 g1 g3 ad) rU) rfl (.same rfl .nil)))⟩;done
 |fail):p:=h
theorem Te(h:p:=by first|(refine aO ((show fE X G m from cU) bA q1 (Nat.lt_trans KV ((show∀d,d∈ds->SizeOf.sizeOf d<m from hm) _ jd))) bS (cB) ?_;rintro _ ⟨K1,n1,vL,vM,rfl,iH,e1,bL⟩;have dt:=fun(n:Nat) (H:al)=>aH (n:=n) (H:=H) e1;have Ge:=iH.cells;refine cA ?_)<;>exact bu|fail):p:=h
theorem Tf(h:p:=by first|(refine aO (Td Jy) bS (cB) ?_;rintro _ rfl;refine cA ?_)<;>exact az|fail):p:=h
theorem Tg(h:p:=by first|(refine aO (targs (show bQ X G m from h) (show fE X G m from cU) B7 (show∀y,y∈gs->SizeOf.sizeOf y<m from r7)) ajh (cB) ?_;rintro _ ⟨v1,rfl,cc,cN,bL⟩;have jY:=cc.cells;have jZ:=fun(n:Nat) (H:al)=>aH (n:=n) (H:=H) cN;refine cA ?_)<;>exact az|fail):p:=h
theorem Th(h:p:=by first|(refine aO ((show cJ X G m from bG) JJ (show∀y,y∈ss->SizeOf.sizeOf y<m from vC)) Q1 (cB) ?_;rintro _ ⟨v2,rfl,cC,en,aW⟩;have mc:=cC.cells;have nG:=fun(n:Nat) (H:al)=>aH (n:=n) (H:=H) en;refine cA ?_)<;>exact az|fail):p:=h
theorem alK(h:p:=by first|(refine aO (alG (show bQ X G m from h) (show cJ X G m from bG) vN q1 q2 q3 hm) bS (cB) ?_;rintro _ ⟨n1,xJ,ms1,rfl,e1,e2,bL⟩;have dt:=fun(n:Nat) (H:al)=>aH (n:=n) (H:=H) e1;have fW:=fun(n:Nat) (H:al)=>aH (n:=n) (H:=H) e2;refine cA ?_)<;>exact az|fail):p:=h
theorem alL(h:p:=by first|(refine aO (tfn (show bQ X G m from h) (show fE X G m from cU) (show cJ X G m from bG) ue q1 hm) bS (cB) ?_;rintro _ ⟨n1,f1,ar1,bd1,rfl,e1,e2,bL⟩;have dt:=fun(n:Nat) (H:al)=>aH (n:=n) (H:=H) e1;have fW:=fun(n:Nat) (H:al)=>aH (n:=n) (H:=H) e2;refine cA ?_)<;>exact az|fail):p:=h
theorem KW(h:p:=by
 first
 |skip
  all_goals exact⟨_,_,_,_,_,_,_,_,_,_,_,_,_,rfl,rfl,rfl,rfl,rfl,B2,rfl,XG nl nl nl nl (cd.sl Ck (aK.snoc .nil bL)) rfl nl⟩
  done
 |fail):p:=h
theorem Ti(h:p:=by
 first
 |skip
  all_goals exact⟨_,_,rfl,JG,hc⟩
  done
 |fail):p:=h
theorem alQ(h:p:=by first|(refine aO h0 bS (cB) ?_;rintro _ ⟨K0,Kg,Kh,Ki,abj,xK,Kk,dc0,oR,Kl,cl0,rfl,tM,tN,tO,tP,tQ,tR,Gf⟩;have Km:=fun(n:Nat) (H:al)=>aH (n:=n) (H:=H) tM;have Kn:=fun(n:Nat) (H:al)=>aH (n:=n) (H:=H) tN;have Ko:=fun(n:Nat) (H:al)=>aH (n:=n) (H:=H) tO;have Kp:=fun(n:Nat) (H:al)=>aH (n:=n) (H:=H) tP;have Kq:=fun(n:Nat) (H:al)=>aH (n:=n) (H:=H) tQ;have Kr:=fun(n:Nat) (H:al)=>aH (n:=n) (H:=H) tR;have alO:=fun(n:Nat) (H:al)=>aH (n:=n) (H:=H) Gf;refine cA ?_)<;>exact az|fail):p:=h
theorem alR(h:p:=by first|(refine aO h1 bS (cB) ?_;rintro _ ⟨K1,vD,vE,vF,lW,xJ,vG,Gg,qG,vH,Gh,rfl,tS,tT,tU,tV,tW,tX,Gi⟩;have Kz:=fun(n:Nat) (H:al)=>aH (n:=n) (H:=H) tS;have KA:=fun(n:Nat) (H:al)=>aH (n:=n) (H:=H) tT;have KB:=fun(n:Nat) (H:al)=>aH (n:=n) (H:=H) tU;have KC:=fun(n:Nat) (H:al)=>aH (n:=n) (H:=H) tV;have KD:=fun(n:Nat) (H:al)=>aH (n:=n) (H:=H) tW;have KE:=fun(n:Nat) (H:al)=>aH (n:=n) (H:=H) tX;have alP:=fun(n:Nat) (H:al)=>aH (n:=n) (H:=H) Gi;refine cA ?_)<;>exact az|fail):p:=h
theorem alS(h:p:=by
 first
 |skip
  exact⟨_,_,_,_,_,_,_,_,_,_,_,rfl,rfl,rfl,rfl,rfl,rfl,rfl,rfl⟩;done
 |fail):p:=h
theorem alT(h:p:=by
 first
 |skip
  all_goals exact⟨_,_,_,_,_,_,_,_,_,_,_,rfl,rfl,rfl,rfl,rfl,rfl,rfl,rfl,SG p7 rfl nl nl nl nl nl nl nl⟩
  done
 |fail):p:=h
theorem Tj(h:p:=by first|(refine ka 116 bS (fun K hK=>?_);have hK:Hid _:=hK;refine cA ?_;refine kb (KX (show bQ X G m from h) (vJ bA gB) (show∀y,y∈[dk]->SizeOf.sizeOf y<m from hm) rfl rfl rfl rfl rfl rfl rfl) (fun r hr=>(show∀r ids,_ from hK) _ _ ?_);clear hK;obtain⟨v1,rfl,cc,cN,bL⟩:=hr;have jY:=cc.cells;have jZ:=fun(n:Nat) (H:al)=>aH (n:=n) (H:=H) cN;refine cA ?_)<;>exact az|fail):p:=h
theorem alU(h:p:=by
 first
 |skip
  all_goals exact⟨_,_,_,_,_,_,_,_,_,_,_,rfl,rfl,cN,rfl,rfl,rfl,rfl,rfl,SG p7 rfl nl (cd.sl cc bL) nl nl nl nl nl⟩
  done
 |fail):p:=h
theorem alV(h:p:=by first|(refine ka 120 bS (fun K hK=>?_);have hK:Hid _:=hK;refine cA ?_;refine kb (KY (show bQ X G m from h) (show cJ X G m from bG) (vJ bA gB) (show∀y,y∈[dk]->SizeOf.sizeOf y<m from hm) (Cl eK bX jC xL) (show∀y,y∈[dx,dy]->SizeOf.sizeOf y<m from gC) rfl rfl rfl rfl rfl rfl rfl) (fun r hr=>(show∀r ids,_ from hK) _ _ ?_);clear hK;obtain⟨v1,v2,rfl,cc,cN,bL,cC,en,aW⟩:=hr;have jY:=cc.cells;have jZ:=fun(n:Nat) (H:al)=>aH (n:=n) (H:=H) cN;have mc:=cC.cells;have nG:=fun(n:Nat) (H:al)=>aH (n:=n) (H:=H) en;refine cA ?_)<;>exact az|fail):p:=h
theorem Tl(h:p:=by
 first
 |skip
  all_goals exact⟨_,_,_,_,_,_,_,_,_,_,_,rfl,rfl,cN,en,rfl,rfl,rfl,rfl,SG p7 rfl nl (cd.sl cc bL) (cd.sl cC aW) nl nl nl nl⟩
  done
 |fail):p:=h
theorem Tm(h:p:=by first|(refine ka 120 bS (fun K hK=>?_);have hK:Hid _:=hK;refine cA ?_;refine kb (KY (show bQ X G m from h) (show cJ X G m from bG) (vJ bA gB) (show∀y,y∈[dk]->SizeOf.sizeOf y<m from hm) (Tk eK bX) (show∀y,y∈[dx]->SizeOf.sizeOf y<m from gC) rfl rfl rfl rfl rfl rfl rfl) (fun r hr=>(show∀r ids,_ from hK) _ _ ?_);clear hK;obtain⟨v1,v2,rfl,cc,cN,bL,cC,en,aW⟩:=hr;have jY:=cc.cells;have jZ:=fun(n:Nat) (H:al)=>aH (n:=n) (H:=H) cN;have mc:=cC.cells;have nG:=fun(n:Nat) (H:al)=>aH (n:=n) (H:=H) en;refine cA ?_)<;>exact az|fail):p:=h
theorem Tn(h:p:=by
 first
 |skip
  all_goals exact⟨_,_,_,_,_,_,_,_,_,_,_,rfl,rfl,rfl,en,rfl,rfl,rfl,rfl,SG p7 rfl nl nl (cd.sl cC aW) nl nl nl nl⟩
  done
 |fail):p:=h
theorem alW(h:p:=by first|(refine aO ((show fE X G m from cU) bA gz Gj) bS (cB) ?_;rintro _ ⟨K1,n1,vL,vM,rfl,iH,e1,bL⟩;have dt:=fun(n:Nat) (H:al)=>aH (n:=n) (H:=H) e1;have Ge:=iH.cells;refine cA ?_)<;>exact bu|fail):p:=h
theorem alY(h:p:=by
 first
 |skip
  all_goals exact⟨_,_,_,_,_,_,_,_,_,_,_,rfl,rfl,rfl,en,Fh,rfl,rfl,rfl,SG p7 rfl nl nl (cd.sl cC aW) (cd.sl Ck (aK.snoc .nil (dE.append bL (.cons nl rfl .nil)))) nl nl nl⟩
  done
 |fail):p:=h
theorem alZ(h:p:=by first|(refine aO ht bS (cB) ?_;rintro _ ⟨K1,vD,vE,vF,lW,xJ,vG,Gg,qG,vH,Gh,rfl,e1,e2,e3,e4,e5,e6,e7,bL⟩;have dt:=fun(n:Nat) (H:al)=>aH (n:=n) (H:=H) e1;have fW:=fun(n:Nat) (H:al)=>aH (n:=n) (H:=H) e2;have K5:=fun(n:Nat) (H:al)=>aH (n:=n) (H:=H) e3;have K6:=fun(n:Nat) (H:al)=>aH (n:=n) (H:=H) e4;have K7:=fun(n:Nat) (H:al)=>aH (n:=n) (H:=H) e5;have K8:=fun(n:Nat) (H:al)=>aH (n:=n) (H:=H) e6;have hs7:=fun(n:Nat) (H:al)=>aH (n:=n) (H:=H) e7;refine cA ?_)<;>exact az|fail):p:=h
theorem amN(h:p:=by
 first
 |skip
  all_goals exact⟨_,_,_,_,_,_,_,_,_,_,_,rfl,e1,e2,e3,e4,e5,e6,e7,bL⟩
  done
 |fail):p:=h
theorem amO(h:p:=by
 first
 |skip
  exact⟨_,_,_,_,rfl,.inl rfl,rfl,.same rfl (.same rfl (.cons nl rfl (.same rfl .nil)))⟩;done
 |fail):p:=h
namespace Y1
theorem aU(x:a)(g:q)(h:a->q->p:=by(intro x g;exact nA (Kj x aI) g)):p:=h x g
end Y1
namespace Y2
theorem cr(h:p:=by
 first
 |exact za0
 |fail):p:=h
end Y2
namespace Y3
theorem aU(x:a)(g:q)(h:a->q->p:=by(intro x g;exact nA (Kj x (Kj To aI)) g)):p:=h x g
end Y3
namespace Y4
theorem cr(h:p:=by
 first
 |exact Rl
 |exact za2
 |fail):p:=h
end Y4
namespace Y5
theorem bx(x:a)(g:q)(h:a->q->p:=by(intro x g;exact nA (Kj x (Kj h0 (Kj h3 (Kj h4 aI)))) g)):p:=h x g
end Y5
namespace Y6
theorem gT(h:p:=by
 first
 |exact za5
 |fail):p:=h
end Y6
namespace Y7
theorem gw(h:p:=by
 first
 |exact za6
 |fail):p:=h
end Y7
namespace Y8
theorem cw(h:p:=by
 first
 |exact za7
 |exact za8
 |fail):p:=h
end Y8
namespace Y9
theorem cr(h:p:=by
 first
 |exact ajy
 |fail):p:=h
end Y9
namespace kU
theorem fu(h:p:=by
 first
 |exact ajA
 |fail):p:=h
end kU
namespace K9
theorem bw(h:p:=by
 first
 |exact FG
 |fail):p:=h
end K9
namespace Gk
theorem bx(x:a)(g:q)(h:a->q->p:=by(intro x g;exact nA (Kj x (Kj h0 (Kj h1 (Kj h7 (Kj h8 (Kj h9 (Kj dN aI))))))) g)):p:=h x g
end Gk
namespace Gl
theorem gT(h:p:=by
 first
 |exact ajB
 |fail):p:=h
end Gl
namespace Gm
theorem gw(h:p:=by
 first
 |exact ajC
 |fail):p:=h
end Gm
namespace La
theorem gw(h:p:=by
 first
 |exact ajD
 |fail):p:=h
end La
namespace Lb
theorem bx(x:a)(g:q)(h:a->q->p:=by(intro x g;exact nA (Kj x (Kj h0 (Kj h4 (Kj h5 (Kj e0 aI))))) g)):p:=h x g
end Lb
namespace Lc
theorem cr(h:p:=by
 first
 |(exact⟨_,rfl,ad⟩)<;>exact bp
 |fail):p:=h
end Lc
namespace Ld
theorem gw(h:p:=by
 first
 |exact ajE
 |fail):p:=h
end Ld
namespace Gn
theorem gw(h:p:=by
 first
 |exact ajG
 |fail):p:=h
end Gn
namespace Lf
theorem cr(h:p:=by
 first
 |exact ajI
 |fail):p:=h
end Lf
namespace Gp
theorem cr(h:p:=by
 first
 |(exact⟨_,rfl⟩)
 |exact kH
 |fail):p:=h
end Gp
namespace bi
theorem cr(h:p:=by
 first
 |exact s7
 |exact kH
 |fail):p:=h
end bi
namespace Lg
theorem cr(h:p:=by
 first
 |exact s7
 |exact kH
 |exact RP
 |fail):p:=h
end Lg
namespace Lh
theorem cr(h:p:=by
 first
 |exact Ca
 |exact ajP
 |exact kH
 |fail):p:=h
end Lh
namespace dO
theorem gw(h:p:=by
 first
 |exact s7
 |exact kH
 |fail):p:=h
end dO
namespace Li
theorem cw(h:p:=by
 first
 |exact vy
 |exact R0
 |exact ajS
 |exact ajT
 |exact ajU
 |(refine aO (Lj ‹Nd _›) pE dM ?_;exact aiG)
 |exact ajV
 |fail):p:=h
end Li
namespace Lk
theorem fu(h:p:=by
 first
 |exact ajW
 |fail):p:=h
end Lk
namespace Ll
theorem bw(h:p:=by
 first
 |exact ja
 |exact ajX
 |fail):p:=h
end Ll
namespace Gq
theorem cw(h:p:=by
 first
 |exact vy
 |exact ajY
 |exact JY
 |exact FO
 |fail):p:=h
end Gq
namespace Gr
theorem fu(h:p:=by
 first
 |exact R5
 |fail):p:=h
end Gr
namespace Lm
theorem bw(h:p:=by
 first
 |exact ja
 |fail):p:=h
end Lm
namespace Gs
theorem fu(h:p:=by
 first
 |exact R8
 |fail):p:=h
end Gs
namespace Ac
theorem nD(h:p:=by
 first
 |exact aj0
 |fail):p:=h
end Ac
namespace qY
theorem cr(h:p:=by
 first
 |exact FR
 |exact kH
 |fail):p:=h
end qY
namespace Gt
theorem bj(h:p:=by
 first
 |exact xB
 |fail):p:=h
end Gt
namespace pc
theorem bw(h:p:=by
 first
 |exact aj1
 |exact aj2
 |fail):p:=h
end pc
namespace Gu
theorem cw(h:p:=by
 first
 |exact tJ
 |fail):p:=h
end Gu
namespace vO
theorem cr(h:p:=by
 first
 |exact J0
 |exact kH
 |fail):p:=h
end vO
namespace Ad
theorem bw(h:p:=by
 first
 |exact aj2
 |exact aj3
 |fail):p:=h
end Ad
namespace Ln
theorem bw(h:p:=by
 first
 |exact aj2
 |exact aj3
 |exact Se
 |fail):p:=h
end Ln
namespace Gv
theorem bw(h:p:=by
 first
 |exact aj2
 |exact aj3
 |exact Sf
 |fail):p:=h
end Gv
namespace Lo
theorem R7(h:p:=by
 first
 |exact aj0
 |fail):p:=h
end Lo
namespace xM
theorem gw(h:p:=by
 first
 |exact Sg
 |exact kH
 |fail):p:=h
end xM
namespace Cm
theorem bw(h:p:=by
 first
 |exact aj1
 |fail):p:=h
end Cm
namespace Gw
theorem bw(h:p:=by
 first
 |exact aj2
 |exact aj1
 |exact aj3
 |fail):p:=h
end Gw
namespace Lp
theorem bw(h:p:=by
 first
 |exact aj2
 |exact aj1
 |fail):p:=h
end Lp
namespace Lq
theorem BC(h:p:=by
 first
 |((exfalso;omega))<;>exact iX
 |exact kH
 |fail):p:=h
end Lq
namespace Lr
theorem rO(h:p:=by
 first
 |(simp only[eD,Ls];refine cA ?_)<;>exact iX
 |fail):p:=h
end Lr
namespace Lt
theorem bw(h:p:=by
 first
 |exact Si
 |fail):p:=h
end Lt
namespace jD
theorem aU(x:a)(g:q)(h:a->q->p:=by(intro x g;exact nA (Kj x (Kj ao.1 (Kj ao.2.1 (Kj aq.1 (Kj aq.2.1 (Kj aE.1 (Kj aE.2.1 (Kj aD.1 (Kj aD.2.1 (Kj av.1 (Kj av.2.1 (Kj au.1 (Kj au.2.1 (Kj aI eU)))))))))))))) g)):p:=h x g
end jD
namespace lY
theorem bw(h:p:=by
 first
 |exact akb
 |exact ju
 |exact akc
 |exact akd
 |exact ake
 |exact FU
 |fail):p:=h
end lY
namespace sa
theorem gw(h:p:=by
 first
 |exact J3
 |exact kH
 |fail):p:=h
end sa
namespace Cn
theorem bw(h:p:=by
 first
 |exact aj3
 |fail):p:=h
end Cn
namespace Lu
theorem bw(h:p:=by
 first
 |exact So
 |fail):p:=h
end Lu
namespace Lv
theorem bw(h:p:=by
 first
 |exact aj3
 |exact Se
 |exact akj
 |exact akk
 |exact akn
 |exact ako
 |fail):p:=h
end Lv
namespace Co
theorem bw(h:p:=by
 first
 |exact aj3
 |exact akj
 |exact akk
 |fail):p:=h
end Co
namespace Cp
theorem bw(h:p:=by
 first
 |exact aj3
 |exact akj
 |fail):p:=h
end Cp
namespace Ae
theorem cw(h:p:=by
 first
 |exact akp
 |fail):p:=h
end Ae
namespace Gx
theorem fu(h:p:=by
 first
 |exact akq
 |fail):p:=h
end Gx
namespace Af
theorem cw(h:p:=by
 first
 |exact akr
 |fail):p:=h
end Af
namespace Gy
theorem fu(h:p:=by
 first
 |exact aks
 |fail):p:=h
end Gy
namespace Ag
theorem cw(h:p:=by
 first
 |exact aku
 |fail):p:=h
end Ag
namespace Lw
theorem fu(h:p:=by
 first
 |exact akv
 |fail):p:=h
end Lw
namespace Lx
theorem fu(h:p:=by
 first
 |exact J7
 |fail):p:=h
end Lx
namespace Ly
theorem cw(h:p:=by
 first
 |(simp only[eD,me];refine cA ?_)<;>exact bu
 |fail):p:=h
end Ly
namespace Lz
theorem fu(h:p:=by
 first
 |exact Sq
 |fail):p:=h
end Lz
namespace Cq
theorem aU(x:a)(g:q)(h:a->q->p:=by(intro x g;exact nA (Kj x (Kj hv (Kj hd (Kj bW aI)))) g)):p:=h x g
end Cq
namespace LA
theorem aU(x:a)(g:q)(h:a->q->p:=by(intro x g;exact nA (Kj x (Kj hd aI)) g)):p:=h x g
end LA
namespace LB
theorem aU(x:a)(g:q)(h:a->q->p:=by(intro x g;exact nA (Kj x (Kj hv (Kj hd (Kj bW (Kj gv (Kj gd (Kj jV aI))))))) g)):p:=h x g
end LB
namespace LC
theorem bw(h:p:=by
 first
 |exact akB
 |fail):p:=h
end LC
namespace LD
theorem bx(x:a)(g:q)(h:a->q->p:=by(intro x g;exact nA (Kj x (Kj h0 (Kj h1 (Kj h5 (Kj hd (Kj gd (Kj LF (Kj al0 (Kj @Int.zero_sub aI))))))))) g)):p:=h x g
end LD
namespace LG
theorem gT(h:p:=by
 first
 |exact akC
 |fail):p:=h
end LG
namespace LH
theorem gw(h:p:=by
 first
 |exact Ss
 |exact akD
 |fail):p:=h
end LH
namespace LI
theorem rP(h:p:=by
 first
 |exact Sw
 |fail):p:=h
end LI
namespace LJ
theorem aU(x:a)(g:q)(h:a->q->p:=by(intro x g;exact nA (Kj x (Kj @Int.zero_sub aI)) g)):p:=h x g
end LJ
namespace LK
theorem fO(x:a)(g:q)(h:a->q->p:=by(intro x g;exact nA (Kj x (Kj h0 (Kj h4 (Kj h5 (Kj h6 (Kj h7 (Kj h0 (Kj h4 (Kj h5 (Kj h6 (Kj kD (Kj ib (Kj kD (Kj ib (Kj @Int.neg_sub aI))))))))))))))) g)):p:=h x g
end LK
namespace LL
theorem fO(x:a)(g:q)(h:a->q->p:=by(intro x g;exact nA (Kj x (Kj h0 (Kj h4 (Kj h5 (Kj h6 (Kj h7 (Kj h0 (Kj h4 (Kj h5 (Kj h6 (Kj kD (Kj ib (Kj kD (Kj ib aI)))))))))))))) g)):p:=h x g
end LL
namespace LM
theorem Jm(h:p:=by
 first
 |exact SD
 |fail):p:=h
end LM
namespace LN
theorem E6(h:p:=by
 first
 |exact F5
 |fail):p:=h
end LN
namespace Gz
theorem bj(h:p:=by
 first
 |exact F8
 |fail):p:=h
end Gz
namespace LO
theorem cr(h:p:=by
 first
 |(exact rfl)
 |exact FR
 |exact kH
 |fail):p:=h
end LO
namespace GA
theorem cr(h:p:=by
 first
 |exact kR1
 |fail):p:=h
end GA
namespace GB
theorem aU(x:a)(g:q)(h:a->q->p:=by(intro x g;exact nA (Kj x (Kj lv.1 (Kj lv.2.1 (Kj aI eU)))) g)):p:=h x g
end GB
namespace LP
theorem aU(x:a)(g:q)(h:a->q->p:=by(intro x g;exact nA (Kj x (Kj h0 (Kj h1 (Kj hI (Kj lv.1 (Kj aI eU)))))) g)):p:=h x g
end LP
namespace GC
theorem aU(x:a)(g:q)(h:a->q->p:=by(intro x g;exact nA (Kj x (Kj dh.1 (Kj dh.2.1 (Kj aI eU)))) g)):p:=h x g
end GC
namespace LQ
theorem bx(x:a)(g:q)(h:a->q->p:=by(intro x g;exact nA (Kj x (Kj h1 (Kj h2 (Kj hI (Kj e1 (Kj dh.1 (Kj dh.2.1 (Kj aI eU)))))))) g)):p:=h x g
end LQ
namespace LR
theorem gw(h:p:=by
 first
 |exact akM
 |fail):p:=h
end LR
namespace LS
theorem bw(h:p:=by
 first
 |exact z8
 |exact akd
 |exact akO
 |fail):p:=h
end LS
namespace Cr
theorem bx(x:a)(g:q)(h:a->q->p:=by(intro x g;exact nA (Kj x (Kj h1 (Kj h2 (Kj h3 (Kj hI (Kj e1 (Kj cu.1 (Kj cu.2.1 (Kj cz.1 (Kj cz.2.1 (Kj g8 (Kj aI eU)))))))))))) g)):p:=h x g
end Cr
namespace Cs
theorem gw(h:p:=by
 first
 |exact akP
 |fail):p:=h
end Cs
namespace Ct
theorem cw(h:p:=by
 first
 |exact akQ
 |exact akR
 |exact akS
 |exact akd
 |exact Kd
 |fail):p:=h
end Ct
namespace Cu
theorem aU(x:a)(g:q)(h:a->q->p:=by(intro x g;exact nA (Kj x (Kj cu.1 (Kj cu.2.1 (Kj cz.1 (Kj cz.2.1 (Kj g8 (Kj aI eU))))))) g)):p:=h x g
end Cu
namespace vP
theorem bw(h:p:=by
 first
 |exact SN
 |exact akd
 |exact akT
 |fail):p:=h
end vP
namespace LU
theorem aU(x:a)(g:q)(h:a->q->p:=by(intro x g;exact nA (Kj x (Kj cu.1 (Kj cu.2.1 (Kj cz.1 (Kj cz.2.1 (Kj gj (Kj g8 (Kj aI eU)))))))) g)):p:=h x g
end LU
namespace LV
theorem bx(x:a)(g:q)(h:a->q->p:=by(intro x g;exact nA (Kj x (Kj h1 (Kj h2 (Kj hI (Kj e1 (Kj fR.1 (Kj fR.2.1 (Kj fz.1 (Kj fz.2.1 (Kj aI eU)))))))))) g)):p:=h x g
end LV
namespace LW
theorem gw(h:p:=by
 first
 |exact akV
 |fail):p:=h
end LW
namespace LX
theorem cw(h:p:=by
 first
 |exact akQ
 |exact akW
 |(refine aO (F9 _ ih ‹_›) pE u7 ?_;exact va)
 |exact akX
 |exact akd
 |exact akY
 |fail):p:=h
end LX
namespace LY
theorem bw(h:p:=by
 first
 |exact SN
 |exact SJ
 |exact akd
 |exact SP
 |fail):p:=h
end LY
namespace Cv
theorem aU(x:a)(g:q)(h:a->q->p:=by(intro x g;exact nA (Kj x (Kj h1 (Kj h2 (Kj h5 (Kj hI (Kj e1 (Kj ao.1 (Kj ao.2.1 (Kj aN.1 (Kj aN.2.1 (Kj aq.1 (Kj aq.2.1 (Kj aL.1 (Kj aL.2.1 (Kj aM.1 (Kj aM.2.1 (Kj av.1 (Kj av.2.1 (Kj au.1 (Kj au.2.1 (Kj c4 (Kj c8 (Kj aI eU))))))))))))))))))))))) g)):p:=h x g
end Cv
namespace Cw
theorem cr(h:p:=by
 first
 |exact ak0
 |fail):p:=h
end Cw
namespace Cx
theorem bw(h:p:=by
 first
 |exact Ke
 |exact akd
 |exact SR
 |fail):p:=h
end Cx
namespace ke
theorem aU(x:a)(g:q)(h:a->q->p:=by(intro x g;exact nA (Kj x (Kj ao.1 (Kj ao.2.1 (Kj aN.1 (Kj aN.2.1 (Kj aq.1 (Kj aq.2.1 (Kj aL.1 (Kj aL.2.1 (Kj aM.1 (Kj aM.2.1 (Kj av.1 (Kj av.2.1 (Kj au.1 (Kj au.2.1 (Kj aI eU)))))))))))))))) g)):p:=h x g
end ke
namespace kg
theorem bw(h:p:=by
 first
 |exact SN
 |exact SU
 |exact akU
 |exact Ke
 |exact ak3
 |exact ak5
 |exact ak7
 |exact ak8
 |exact akd
 |exact ak9
 |fail):p:=h
end kg
namespace Ah
theorem nD(h:p:=by
 first
 |exact ala
 |fail):p:=h
end Ah
namespace LZ
theorem bw(h:p:=by
 first
 |exact Ga
 |fail):p:=h
end LZ
namespace Cy
theorem bj(h:p:=by
 first
 |exact Ks
 |fail):p:=h
end Cy
namespace mV
theorem bj(h:p:=by
 first
 |exact alk
 |fail):p:=h
end mV
namespace sb
theorem bw(h:p:=by
 first
 |exact SX
 |fail):p:=h
end sb
namespace L0
theorem bj(h:p:=by
 first
 |exact SY
 |fail):p:=h
end L0
namespace GD
theorem cw(h:p:=by
 first
 |exact alm
 |fail):p:=h
end GD
namespace L1
theorem bw(h:p:=by
 first
 |exact S2
 |fail):p:=h
end L1
namespace uf
theorem bj(h:p:=by
 first
 |exact aln
 |fail):p:=h
end uf
namespace GF
theorem bw(h:p:=by
 first
 |exact SX
 |exact S2
 |fail):p:=h
end GF
namespace Cz
theorem bj(h:p:=by
 first
 |exact alp
 |fail):p:=h
end Cz
namespace L3
theorem cr(h:p:=by
 first
 |exact FR
 |exact S4
 |exact kH
 |fail):p:=h
end L3
namespace L4
theorem cw(h:p:=by
 first
 |exact alr
 |fail):p:=h
end L4
namespace L5
theorem fu(h:p:=by
 first
 |exact alB
 |fail):p:=h
end L5
namespace L6
theorem E6(h:p:=by
 first
 |exact s7
 |exact kH
 |fail):p:=h
end L6
namespace L7
theorem BD(h:p:=by
 first
 |exact alC
 |exact alD
 |fail):p:=h
end L7
namespace L8
theorem alE(h:p:=by
 first
 |exact KU
 |fail):p:=h
end L8
namespace L9
theorem Qn(h:p:=by
 first
 |exact alF
 |fail):p:=h
end L9
namespace xN
theorem BC(h:p:=by
 first
 |exact s7
 |exact kH
 |fail):p:=h
end xN
namespace Ma
theorem nD(h:p:=by
 first
 |exact Tc
 |fail):p:=h
end Ma
namespace Mb
theorem bj(h:p:=by
 first
 |exact KW
 |fail):p:=h
end Mb
namespace Mc
theorem bj(h:p:=by
 first
 |exact Ti
 |fail):p:=h
end Mc
namespace GG
theorem bj(h:p:=by
 first
 |exact alS
 |fail):p:=h
end GG
namespace GH
theorem bj(h:p:=by
 first
 |exact alT
 |fail):p:=h
end GH
namespace Md
theorem bw(h:p:=by
 first
 |exact Tf
 |fail):p:=h
end Md
namespace GI
theorem bw(h:p:=by
 first
 |exact Tj
 |fail):p:=h
end GI
namespace GJ
theorem bj(h:p:=by
 first
 |exact alU
 |fail):p:=h
end GJ
namespace Me
theorem bw(h:p:=by
 first
 |exact alV
 |fail):p:=h
end Me
namespace sd
theorem bj(h:p:=by
 first
 |exact Tl
 |fail):p:=h
end sd
namespace Mf
theorem bw(h:p:=by
 first
 |exact SX
 |exact alV
 |fail):p:=h
end Mf
namespace CL
theorem bw(h:p:=by
 first
 |exact Tm
 |fail):p:=h
end CL
namespace Mg
theorem fu(h:p:=by
 first
 |exact Tn
 |fail):p:=h
end Mg
namespace Ai
theorem bw(h:p:=by
 first
 |exact alZ
 |fail):p:=h
end Ai
namespace Aj
theorem bj(h:p:=by
 first
 |exact amN
 |fail):p:=h
end Aj
namespace Mh
theorem bj(h:p:=by
 first
 |exact amO
 |fail):p:=h
end Mh
end Go.Pi
end
