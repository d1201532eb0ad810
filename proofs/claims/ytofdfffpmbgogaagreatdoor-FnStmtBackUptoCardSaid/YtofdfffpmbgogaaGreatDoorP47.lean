import Derived.Test.YtofdfffpmbgogaaGreatDoorP18
import Derived.Test.YtofdfffpmbgogaaGreatDoorP46
/- Part of the proof. -/
set_option linter.all false
set_option maxHeartbeats 0
set_option maxRecDepth 100000
section
open Go Go.Pi
namespace Go.Pi
variable{p q a:Prop}
section
variable{X:aS}{G:Nat->PV}
namespace acL
theorem cw(h:p:=by
 first
 |(refine r8 (P:=CD) (fun h=>Fg) hw ad ad (fun c d hc gF jd jW=>?_);obtain⟨k2,v2,d0,d1,d2,d3,dv,bA,fk,AJ⟩:=hc;have eX:=gF;simp[aP,aw]at eX;obtain⟨q1,q2⟩:=eX;refine cA ?_)<;>exact bu
 |exact Te
 |exact Tb
 |fail):p:=h
theorem iZ(h:p:=by
 first
 |skip
  refine ik (A:=[12007]) (ys:=ys) (zs:=[[.int .i64 K1,.int .i64 n1,vL,.bool vM,v3]]) (ids:=[12006]) (cB) gy af af iA af fH (fun v' H' z' bI hf=>?_);have f2:=hf 1 af af;have f7:=hf 4012 af af
  (try replace f2:=aaA (Kj e2 e7) f2);(try replace f7:=aaA (Kj e2 e7) f7)
  have ND:=hZ bI;clear hE hf;simp only[push];refine cA ?_;simp only[cG];refine cA ?_;have gM:=jW;simp only[Int.toNat_natCast]at gM;have next:=nx
  unfold Hid at next
  exact next (n - 1) ad _ ⟨i+1,v',_,so,ad,cB,cB,cB,cB,gK,cB,cB,bI.frame pU,jR,aV.qX gM (dE.append bL (.cons (cd.sl mU lX) rfl .nil))⟩
  done
 |fail):p:=h
theorem nD(h:p:=by
 first
 |skip
  refine⟨by simpa using fun h:0∈gi pv=>absurd (g4 0 h) af,?_⟩;exact⟨_,_,_,_,_,_,_,_,_,_,_,rfl,rfl,rfl,rfl,g2,rfl,rfl,rfl,SG p7 rfl nl nl nl (cd.sl (o6 g1 g3 ad) rU) nl nl nl⟩;done
 |fail):p:=h
end acL
namespace acM
theorem bj(h:p:=by
 first
 |skip
  refine b5 (fun n s'=>∃(i:Nat)(pv:PV)(ys:List (List PV))(so:Nat),i+n=(ae v).length/\s'.t 2= .ptr 1 1 0/\s'.t 5= .ptr 4012 so 0/\s'.t 36=v/\s'.t 37= .int .i64 (ae v).length/\s'.t 38= .int .i64 i/\
   s'.H 1=some ⟨55,1,[.int .i64 0,.int .i64 0,.int .i64 0,.int .i64 0,.ah,.ah,.ah,.ah,.ah,.ah,.ah],0⟩/\s'.H 4012=some ⟨55,so,[.int .i64 4,.int .i64 op,.int .i64 0,.int .i64 0,.ah,.ah,.ah,pv,.ah,.ah,.ah],0⟩/\aX [12007] s'.H 51 5 pv ys/\ys.length=i/\aK ys (ds.take i)) ?_ (n:=(ae v).length)
   ⟨0,_,[],_,af,nB,nB,nB,nB,nB,nB,nB,aX.nil,rfl,kS⟩
  rintro n ⟨t,H,k⟩ ⟨i,pv,ys,so,hi,h2,h4,gD,jg,l6,e2,e7,aY,eY,aV⟩ next
  simp only at h2 h4 gD jg l6 e2 e7 aY;have hE:=fun(n:Nat) (H':al) (q1:H' 12007=H 12007)=>(aX.dF (n:=n) (aY.frame (H':=H') iY))
  have nj:=hZ aY;obtain⟨g1,g2,g3,g4⟩:=aY.gv;refine nA (Kj h2 (Kj h4 (Kj gD (Kj jg (Kj l6 (Kj e2 e7)))))) ?_;have nx:Hid _:=next
  clear next
  open acL dO kU in exact bu
  done
 |fail):p:=h
end acM
theorem ayO{m:Nat}(h:bQ X G m)(cU:fE X G m){v:PV}{ds:List (List PV)}(hw:br CD v ds)(op:Int)(ho:0<=op/\op<=2)(hm:∀d,d∈ds->SizeOf.sizeOf d<m):Pure ai X G 71 [.aj 331 (.fp [v,.int .u8 op,b0,b0])] (TS (Sd 4 op dV 0 e0 e0 e0 (.sl ds) e0 e0 e0)):=by
 have ij:=hw.1.1;have sI:=hw.1.2.1;have nT:=hw.1.2.2.symm;have oS:=ij.cells;have hB:=ij.len;have h:Hid (bQ X G m):=h;have hm:Hid (∀d,d∈ds->SizeOf.sizeOf d<m):=hm;have cU:Hid (fE X G m):=cU;have lE:=wrap_i64 (n:=op) ad ad;have f0:∀k,fg false k=0:=fun k=>rfl
 refine ay GO af ?_;refine cA ?_;open acM bi sb in exact az
namespace acN
theorem bw(h:p:=by
 first
 |exact SX
 |exact alL
 |fail):p:=h
theorem bj(h:p:=by
 first
 |skip
  all_goals exact⟨_,_,_,_,_,_,_,_,_,_,_,rfl,rfl,rfl,rfl,rfl,rfl,B2,rfl,SG p7 rfl nl nl nl nl nl (cd.sl Ck (aK.snoc .nil bL)) nl⟩
  done
 |fail):p:=h
end acN
theorem ayP{m:Nat}(h:bQ X G m)(cU:fE X G m)(bG:cJ X G m){nm ar bd:PV}{r1 r2:Int}{b1 b2 b3:Bool}{df:List PV}(ue:CF [nm,ar,bd,ab,ab,.int .u32 r1,.int .u32 r2,ab,.bool b1,.bool b2,.bool b3,b0,b0,b0] df)(hd:aP [nm,ar,bd,ab,ab,.int .u32 r1,.int .u32 r2,ab,.bool b1,.bool b2,.bool b3,b0,b0,b0]=true)(hm:SizeOf.sizeOf df<=m):Pure ai X G 71 [.aj 337 (.fp [nm,ar,bd,ab,ab,.int .u32 r1,.int .u32 r2,ab,.bool b1,.bool b2,.bool b3,b0,b0,b0,b0])] (TS (Sd 5 0 dV 0 e0 e0 e0 e0 e0 (.sl [df]) e0)):=by
 obtain⟨q1,q2,q3⟩:aw nm=true/\aw ar=true/\aw bd=true:=by simpa[aP,aw,and_assoc]using hd
 have h:Hid (bQ X G m):=h;have cU:Hid (fE X G m):=cU;have bG:Hid (cJ X G m):=bG;have f0:∀k,fg false k=0:=fun k=>rfl
 refine ay GO af ?_;refine cA ?_;open acN bi in exact az
namespace acO
theorem bw(h:p:=by
 first
 |exact SX
 |exact alK
 |fail):p:=h
theorem bj(h:p:=by
 first
 |skip
  all_goals exact⟨_,_,_,_,_,_,_,_,_,_,_,rfl,rfl,rfl,rfl,rfl,rfl,rfl,B2,SG p7 rfl nl nl nl nl nl nl (cd.sl Ck (aK.snoc .nil bL))⟩
  done
 |fail):p:=h
end acO
theorem ayQ{m:Nat}(h:bQ X G m)(bG:cJ X G m){nm k v:PV}{dc:List PV}(vN:CC [.ah,nm,k,ab,v,ab,ab,ab,ab,b0,.bool true] dc)(hd:aP [.ah,nm,k,ab,v,ab,ab,ab,ab,b0,.bool true]=true)(hm:SizeOf.sizeOf dc<=m):Pure ai X G 71 [.aj 342 (.fp [.ah,nm,k,ab,v,ab,ab,ab,ab,b0,.bool true,b0])] (TS (Sd 6 0 dV 0 e0 e0 e0 e0 e0 e0 (.sl [dc]))):=by
 obtain⟨q1,q2,q3⟩:aw nm=true/\aw k=true/\aw v=true:=by simpa[aP,aw,and_assoc]using hd
 have h:Hid (bQ X G m):=h;have bG:Hid (cJ X G m):=bG;have f0:∀k,fg false k=0:=fun k=>rfl
 refine ay GO af ?_;refine cA ?_;open acO bi in exact az
namespace acP
theorem cw(h:p:=by
 first
 |(refine r8 (P:=CK) (fun h=>Fg) hw ad ad (fun c d hc gF jd jW=>?_);obtain⟨k2,bd2,dk2,ss2,ayT,gO,l5,AJ⟩:=hc;have B6:br CS bd2 ss2:=⟨gO,l5⟩;have yI:=gO.1;have NE:=gO.2.1;have mJ:=yI.cells;have eX:=gF;simp[aP,aw]at eX;obtain⟨q1,q2⟩:=eX;refine cA ?_)<;>exact bu
 |(refine aO (o7 (show bQ X G m from h) ayT q1 (fun y hy=>Nat.lt_trans (cK (v:= .sl dk2) af hy) ((show∀d,d∈ds->SizeOf.sizeOf d<m from hm) _ jd))) bS (cB) ?_;rintro _ ⟨v3,rfl,mU,o9,lX⟩;have Cj:=mU.cells;have Gd:=fun(n:Nat) (H:al)=>aH (n:=n) (H:=H) o9;refine cA ?_)<;>exact bu
 |(refine aO ((show cJ X G m from bG) B6 (fun y hy=>Nat.lt_trans (cK (v:= .sl ss2) af hy) ((show∀d,d∈ds->SizeOf.sizeOf d<m from hm) _ jd))) Q0 (cB) ?_;rintro _ ⟨v4,rfl,vZ,vV,rb⟩;have ab3:=vZ.cells;have ab4:=fun(n:Nat) (H:al)=>aH (n:=n) (H:=H) vV;refine cA ?_)<;>exact bu
 |fail):p:=h
theorem iZ(h:p:=by
 first
 |skip
  refine ik (A:=[29007]) (ys:=ys) (zs:=[[v3,v4]]) (ids:=[29006]) (cB) gy af af iA af fH (fun v' H' z' bI hf=>?_);have f2:=hf 1 af af;have f7:=hf 21011 af af
  (try replace f2:=aaA (Kj e2 e7) f2);(try replace f7:=aaA (Kj e2 e7) f7)
  have ND:=hZ bI;clear hE hf;simp only[push];refine cA ?_;simp only[cG];refine cA ?_;have gM:=jW;simp only[Int.toNat_natCast]at gM;have next:=nx
  unfold Hid at next
  exact next (n - 1) ad _ ⟨i+1,v',_,so,ad,cB,cB,cB,cB,gK,cB,cB,cB,bI.frame pU,jR,aV.qX gM (.sl mU lX (.sl vZ rb .nil))⟩
  done
 |fail):p:=h
theorem nD(h:p:=by
 first
 |skip
  refine⟨by simpa using fun h:0∈gi pv=>absurd (g4 0 h) af,?_⟩;exact⟨_,_,_,_,_,_,_,_,_,_,_,rfl,rfl,AH,rfl,rfl,g2,rfl,rfl,SG p7 rfl nl (cd.sl sT hlx) nl nl (cd.sl (o6 g1 g3 ad) rU) nl nl⟩;done
 |fail):p:=h
end acP
namespace acR
theorem bw(h:p:=by
 first
 |(refine ka 116 bS (fun K hK=>?_);have hK:Hid _:=hK;refine cA ?_;refine kb (KX (show bQ X G m from h) (vJ bA gB) (show∀y,y∈[dk]->SizeOf.sizeOf y<m from yH) rfl rfl rfl rfl rfl rfl rfl) (fun r hr=>(show∀r ids,_ from hK) _ _ ?_);clear hK;obtain⟨vx,rfl,sT,AH,hlx⟩:=hr;have aC6:=sT.cells;have aC7:=fun(n:Nat) (H:al)=>aH (n:=n) (H:=H) AH;refine cA ?_)<;>exact az
 |fail):p:=h
theorem bj(h:p:=by
 first
 |skip
  refine b5 (fun n s'=>∃(i:Nat)(pv:PV)(ys:List (List PV))(so:Nat),i+n=(ae v).length/\s'.t 2= .ptr 1 1 0/\s'.t 10= .ptr 21011 so 0/\s'.t 130=v/\s'.t 131= .int .i64 (ae v).length/\s'.t 132= .int .i64 i/\s'.t 11= .bool true/\
   s'.H 1=some ⟨55,1,[.int .i64 0,.int .i64 0,.int .i64 0,.int .i64 0,.ah,.ah,.ah,.ah,.ah,.ah,.ah],0⟩/\s'.H 21011=some ⟨55,so,[.int .i64 16,.int .i64 0,.int .i64 0,.int .i64 0,.ah,vx,.ah,.ah,pv,.ah,.ah],0⟩/\aX [29007] s'.H 298 2 pv ys/\ys.length=i/\aK ys (ds.take i)) ?_ (n:=(ae v).length)
   ⟨0,_,[],_,af,nB,nB,nB,nB,nB,nB,nB,nB,aX.nil,rfl,kS⟩
  rintro n ⟨t,H,k⟩ ⟨i,pv,ys,so,hi,h2,h4,gD,jg,l6,cp,e2,e7,aY,eY,aV⟩ next
  simp only at h2 h4 gD jg l6 cp e2 e7 aY;have hE:=fun(n:Nat) (H':al) (q1:H' 29007=H 29007)=>(aX.dF (n:=n) (aY.frame (H':=H') iY))
  have nj:=hZ aY;obtain⟨g1,g2,g3,g4⟩:=aY.gv;refine nA (Kj h2 (Kj h4 (Kj gD (Kj jg (Kj l6 (Kj cp (Kj e2 e7))))))) ?_;have nx:Hid _:=next
  clear next
  open acP dO kU in exact bu
  done
 |fail):p:=h
end acR
theorem ayV{m:Nat}(h:bQ X G m)(bG:cJ X G m){k:PV}{dk:List PV}(bA:CE [k,ab] dk)(gz:aw k=true){v:PV}{ds:List (List PV)}(hw:br CK v ds)(yH:∀y,y∈[dk]->SizeOf.sizeOf y<m)(hm:∀d,d∈ds->SizeOf.sizeOf d<m):Pure ai X G 73 [.aj 375 (.fp [k,ab,v,ab,ab])] (TS (Sd 16 0 dV 0 e0 (.sl [dk]) e0 e0 (.sl ds) e0 e0)):=by
 obtain⟨uk,xk,ek⟩:=bA.ef;obtain rfl:k= .aj uk xk:=by injection ek
 have gB:aw xk=true:=jS;have ij:=hw.1.1;have sI:=hw.1.2.1;have nT:=hw.1.2.2.symm;have oS:=ij.cells;have hB:=ij.len;have h:Hid (bQ X G m):=h;have hm:Hid (∀d,d∈ds->SizeOf.sizeOf d<m):=hm;have bG:Hid (cJ X G m):=bG;have yH:Hid (∀y,y∈[dk]->SizeOf.sizeOf y<m):=yH;refine ay qZ af ?_;refine cA ?_;open acR bi in exact az
end
end Go.Pi
end
section
open Go Go.Pi
namespace Go.Pi
variable{p q a:Prop}
section
variable{T:Nat->Option FX}{X:aS}{G:Nat->PV}{Q:Ex->St->Prop}{w:List Wk}
theorem yP{i len id n e s b c st l:Nat}{tr:er}{d:Option Nat}{os:List XO}{t:Nat->PV}{H:al}{y x:bK}{cells:List PV}{zs:List (List PV)}{ids:List Nat}
 (hs:Go.Pi.settle depth H (ev G t x)=some (.sl zs,ids))(hv:ev G t y= .row c st l)(hH:H c=some ⟨e,st,cells,s⟩)(hl:cells.length=l*s)(qE:c∉ids)(hz:∀z,z∈zs->z.length=s)(dW:zs≠[])(hB:(l+zs.length)*b<=140737488355328)
 (h:∀H' z,H' c=some ⟨e,n+i,cells++zs.flatten,s⟩->(∀a,a≠c->a∉ids->H' a=H a)->M T X G (.ops (i+1) os len (push tr z)::w) ⟨put t d (.row c (n+i) (l+zs.length)),H',n⟩ Q):M T X G (.ops i (⟨d,none,id,.app e s b y x⟩::os) len tr::w) ⟨t,H,n⟩ Q:=by
 have ji:gE (H.drop ids) s (.sl zs)=some (zs.length,zs.flatten):=by
  simp only[gE];rw[if_pos];simp only[List.all_eq_true,beq_iff_eq];exact hz
 have iv:zs.length≠0:=fun h0=>dW (List.length_eq_zero_iff.1 h0)
 rw[EB];have hd:(H.drop ids) c=some ⟨e,st,cells,s⟩:=by simp only[al.drop,if_neg qE,hH]
 have e1:cells.take (l*s)=cells:=List.take_of_length_le ad;have ha:iU (H.drop ids) id (n+i) e s b (ev G t y) (.sl zs)=some (.row c (n+i) (l+zs.length),some (c,⟨e,n+i,cells++zs.flatten,s⟩)):=by
  simp only[iU,ji,if_neg iv,hv,hd,e1];rw[if_pos (by refine⟨?_,?_,?_,?_⟩<;>first|trivial|omega)]
 simp only[runK,hs,ha,Option.map_some,kp];refine h _ _ (by simp[al.fK,al.fT]) (fun a ha hi=>?_);simp only[al.fK];rw[al.gh _ _ ha];simp only[al.drop,if_neg hi]
end
section
variable{X:aS}{G:Nat->PV}
namespace acS
theorem cw(h:p:=by
 first
 |(refine ka 123 bS (fun K hK=>?_);have hK:Hid _:=hK;refine cA ?_;refine kb (sJ (show cJ X G m from bG) (Cl iO pu js uI) (show∀y,y∈[dp,dq]->SizeOf.sizeOf y<m from hm) rfl rfl rfl rfl rfl rfl rfl) (fun r hr=>(show∀r ids,_ from hK) _ _ ?_);clear hK;obtain⟨v2,rfl,cC,en,aW⟩:=hr;have mc:=cC.cells;have nG:=fun(n:Nat) (H:al)=>aH (n:=n) (H:=H) en;refine cA ?_)<;>exact bu
 |fail):p:=h
end acS
namespace acT
theorem bj(h:p:=by
 first
 |skip
  refine yP (c:=1010) (zs:=[[.aj 362 (.fp [q,ab]),ab]]) (ids:=[5014,5011]) (cB) (cB) (cB) rfl af af af af (fun Hq zq yQ l7=>?_);have yR:=l7 1 af af;have yS:=l7 2002 af af;have yT:=l7 1007 af af
  (try simp only[*,go_sem,Nat.reduceEqDiff,Nat.reduceAdd,Nat.reduceLeDiff,Nat.reduceLT,Nat.reduceMul,Nat.reduceSub,reduceIte,reduceCtorEq,Int.reduceEq,Int.reduceLT,Int.reduceLE,Nat.reduceBEq,Int.reduceToNat,cV]at yR)
  (try simp only[*,go_sem,Nat.reduceEqDiff,Nat.reduceAdd,Nat.reduceLeDiff,Nat.reduceLT,Nat.reduceMul,Nat.reduceSub,reduceIte,reduceCtorEq,Int.reduceEq,Int.reduceLT,Int.reduceLE,Nat.reduceBEq,Int.reduceToNat,cV]at yS)
  (try simp only[*,go_sem,Nat.reduceEqDiff,Nat.reduceAdd,Nat.reduceLeDiff,Nat.reduceLT,Nat.reduceMul,Nat.reduceSub,reduceIte,reduceCtorEq,Int.reduceEq,Int.reduceLT,Int.reduceLE,Nat.reduceBEq,Int.reduceToNat,cV]at yT)
  clear l7;simp only[push]
  (try simp only[List.flatten_cons,List.flatten_nil,List.cons_append,List.nil_append,List.length_cons,List.length_nil]at yQ)
  refine cA ?_;open acS dO Mg in exact bu
  done
 |fail):p:=h
end acT
theorem ayW{m:Nat}(cU:fE X G m)(bG:cJ X G m){p:PV}{dp:List PV}(iO:CS [.aj 362 (.fp [p,ab]),ab] dp)(mX:aw p=true){q:PV}{dq:List PV}(js:CS [.aj 362 (.fp [q,ab]),ab] dq)(rr:aw q=true)(hm:∀y,y∈[dp,dq]->SizeOf.sizeOf y<m):Pure ai X G 124 [.fp [.fp [.aF,ab,q,ab,ab,ab],.bF,p,ab,ab]] (TS (Sd 15 0 dV 4 e0 e0 (.sl [dp,dq]) e0 e0 e0 e0)):=by
 have pu:aw (.fp [p,ab])=true:=by simp[aw,aP,mX]
 have uJ:aQ p:=BS;have nj:=uJ.cells;have HM:=fun(n:Nat) (H:al)=>aH (n:=n) (H:=H) mX
 have uI:aw (.fp [q,ab])=true:=by simp[aw,aP,rr]
 have yU:aQ q:=Fv;have qz:=yU.cells;have NJ:=fun(n:Nat) (H:al)=>aH (n:=n) (H:=H) rr
 have cU:Hid (fE X G m):=cU;have bG:Hid (cJ X G m):=bG;have hm:Hid (∀y,y∈[dp,dq]->SizeOf.sizeOf y<m):=hm;have o4:bits .or .i64 0 4=4:=by decide
 have o8:bits .or .i64 0 8=8:=by decide
 have HN:bits .or .i64 4 8=12:=by decide
 refine ay CY af ?_;refine cA ?_;open acT bi in exact az
namespace acU
theorem cw(h:p:=by
 first
 |exact alW
 |(refine ka 123 bS (fun K hK=>?_);have hK:Hid _:=hK;refine cA ?_;refine kb (sJ (show cJ X G m from bG) (Cl iO pu js uI) (show∀y,y∈[dp,dq]->SizeOf.sizeOf y<m from hm) rfl rfl rfl Fh rfl rfl rfl) (fun r hr=>(show∀r ids,_ from hK) _ _ ?_);clear hK;obtain⟨v2,rfl,cC,en,aW⟩:=hr;have mc:=cC.cells;have nG:=fun(n:Nat) (H:al)=>aH (n:=n) (H:=H) en;refine cA ?_)<;>exact bu
 |fail):p:=h
theorem fu(h:p:=by
 first
 |exact alY
 |fail):p:=h
end acU
namespace acV
theorem bj(h:p:=by
 first
 |skip
  refine yP (c:=1010) (zs:=[[.aj 362 (.fp [q,ab]),ab]]) (ids:=[5014,5011]) (cB) (cB) (cB) rfl af af af af (fun Hq zq yQ l7=>?_);have yR:=l7 1 af af;have yS:=l7 2002 af af;have yT:=l7 1007 af af
  (try simp only[*,go_sem,Nat.reduceEqDiff,Nat.reduceAdd,Nat.reduceLeDiff,Nat.reduceLT,Nat.reduceMul,Nat.reduceSub,reduceIte,reduceCtorEq,Int.reduceEq,Int.reduceLT,Int.reduceLE,Nat.reduceBEq,Int.reduceToNat,cV]at yR)
  (try simp only[*,go_sem,Nat.reduceEqDiff,Nat.reduceAdd,Nat.reduceLeDiff,Nat.reduceLT,Nat.reduceMul,Nat.reduceSub,reduceIte,reduceCtorEq,Int.reduceEq,Int.reduceLT,Int.reduceLE,Nat.reduceBEq,Int.reduceToNat,cV]at yS)
  (try simp only[*,go_sem,Nat.reduceEqDiff,Nat.reduceAdd,Nat.reduceLeDiff,Nat.reduceLT,Nat.reduceMul,Nat.reduceSub,reduceIte,reduceCtorEq,Int.reduceEq,Int.reduceLT,Int.reduceLE,Nat.reduceBEq,Int.reduceToNat,cV]at yT)
  clear l7;simp only[push]
  (try simp only[List.flatten_cons,List.flatten_nil,List.cons_append,List.nil_append,List.length_cons,List.length_nil]at yQ)
  refine cA ?_;open acU dO in exact bu
  done
 |fail):p:=h
end acV
theorem ayX{m:Nat}(cU:fE X G m)(bG:cJ X G m){k d0 d1 d2 d3:PV}(bA:CB [k,ab] [d0,d1,d2,d3])(gz:aw k=true)(Gj:SizeOf.sizeOf [d0,d1,d2,d3]<m){p:PV}{dp:List PV}(iO:CS [.aj 362 (.fp [p,ab]),ab] dp)(mX:aw p=true){q:PV}{dq:List PV}(js:CS [.aj 362 (.fp [q,ab]),ab] dq)(rr:aw q=true)(hm:∀y,y∈[dp,dq]->SizeOf.sizeOf y<m):Pure ai X G 124 [.fp [.fp [k,ab,q,ab,ab,ab],.bF,p,ab,ab]] (TS (Sd 15 0 dV 4 e0 e0 (.sl [dp,dq]) (.sl [[d0,d1,d2,d3,e0]]) e0 e0 e0)):=by
 have xZ:=fun(n:Nat) (H:al)=>aH (n:=n) (H:=H) gz
 obtain⟨uk,xk,rfl⟩:∃u x,k= .aj u x:=by cases bA<;>exact⟨_,_,rfl⟩
 have hdk:aw xk=true:=by simpa[aw]using gz
 have pu:aw (.fp [p,ab])=true:=by simp[aw,aP,mX]
 have uJ:aQ p:=BS;have nj:=uJ.cells;have HM:=fun(n:Nat) (H:al)=>aH (n:=n) (H:=H) mX
 have uI:aw (.fp [q,ab])=true:=by simp[aw,aP,rr]
 have yU:aQ q:=Fv;have qz:=yU.cells;have NJ:=fun(n:Nat) (H:al)=>aH (n:=n) (H:=H) rr
 have cU:Hid (fE X G m):=cU;have bG:Hid (cJ X G m):=bG;have hm:Hid (∀y,y∈[dp,dq]->SizeOf.sizeOf y<m):=hm;have o4:bits .or .i64 0 4=4:=by decide
 have o8:bits .or .i64 0 8=8:=by decide
 have HN:bits .or .i64 4 8=12:=by decide
 refine ay CY af ?_;refine cA ?_;open acV bi in exact az
namespace acW
theorem cw(h:p:=by
 first
 |(refine ka 123 bS (fun K hK=>?_);have hK:Hid _:=hK;refine cA ?_;refine kb (sJ (show cJ X G m from bG) (Cl iO pu ow sY) (show∀y,y∈[dp,dr]->SizeOf.sizeOf y<m from hm) rfl rfl rfl rfl rfl rfl rfl) (fun r hr=>(show∀r ids,_ from hK) _ _ ?_);clear hK;obtain⟨v2,rfl,cC,en,aW⟩:=hr;have mc:=cC.cells;have nG:=fun(n:Nat) (H:al)=>aH (n:=n) (H:=H) en;refine cA ?_)<;>exact bu
 |fail):p:=h
end acW
namespace acX
theorem bj(h:p:=by
 first
 |skip
  refine yP (c:=1010) (zs:=[[.aj 362 (.fp [r,ab]),ab]]) (ids:=[13014,13011]) (cB) (cB) (cB) rfl af af af af (fun Hr zr DM eF=>?_);have DN:=eF 1 af af;have DO:=eF 2002 af af;have DP:=eF 1007 af af
  (try simp only[*,go_sem,Nat.reduceEqDiff,Nat.reduceAdd,Nat.reduceLeDiff,Nat.reduceLT,Nat.reduceMul,Nat.reduceSub,reduceIte,reduceCtorEq,Int.reduceEq,Int.reduceLT,Int.reduceLE,Nat.reduceBEq,Int.reduceToNat,cV]at DN)
  (try simp only[*,go_sem,Nat.reduceEqDiff,Nat.reduceAdd,Nat.reduceLeDiff,Nat.reduceLT,Nat.reduceMul,Nat.reduceSub,reduceIte,reduceCtorEq,Int.reduceEq,Int.reduceLT,Int.reduceLE,Nat.reduceBEq,Int.reduceToNat,cV]at DO)
  (try simp only[*,go_sem,Nat.reduceEqDiff,Nat.reduceAdd,Nat.reduceLeDiff,Nat.reduceLT,Nat.reduceMul,Nat.reduceSub,reduceIte,reduceCtorEq,Int.reduceEq,Int.reduceLT,Int.reduceLE,Nat.reduceBEq,Int.reduceToNat,cV]at DP)
  clear eF;simp only[push]
  (try simp only[List.flatten_cons,List.flatten_nil,List.cons_append,List.nil_append,List.length_cons,List.length_nil]at DM)
  refine cA ?_;open acW dO Mg in exact bu
  done
 |fail):p:=h
end acX
theorem ayZ{m:Nat}(cU:fE X G m)(bG:cJ X G m){p:PV}{dp:List PV}(iO:CS [.aj 362 (.fp [p,ab]),ab] dp)(mX:aw p=true){r:PV}{dr:List PV}(ow:CS [.aj 362 (.fp [r,ab]),ab] dr)(v7:aw r=true)(hm:∀y,y∈[dp,dr]->SizeOf.sizeOf y<m):Pure ai X G 124 [.fp [.bF,.fp [r,ab,ab],p,ab,ab]] (TS (Sd 15 0 dV 8 e0 e0 (.sl [dp,dr]) e0 e0 e0 e0)):=by
 have pu:aw (.fp [p,ab])=true:=by simp[aw,aP,mX]
 have uJ:aQ p:=BS;have nj:=uJ.cells;have HM:=fun(n:Nat) (H:al)=>aH (n:=n) (H:=H) mX
 have sY:aw (.fp [r,ab])=true:=by simp[aw,aP,v7]
 have DQ:aQ r:=Jw;have zu:=DQ.cells;have acY:=fun(n:Nat) (H:al)=>aH (n:=n) (H:=H) v7
 have cU:Hid (fE X G m):=cU;have bG:Hid (cJ X G m):=bG;have hm:Hid (∀y,y∈[dp,dr]->SizeOf.sizeOf y<m):=hm;have o4:bits .or .i64 0 4=4:=by decide
 have o8:bits .or .i64 0 8=8:=by decide
 have HN:bits .or .i64 4 8=12:=by decide
 refine ay CY af ?_;refine cA ?_;open acX bi in exact az
namespace acZ
theorem rO(h:p:=by
 first
 |(refine ka 123 bS (fun K hK=>?_);have hK:Hid _:=hK;refine cA ?_;refine kb (sJ (show cJ X G m from bG) (HK iO pu js uI ow sY) (show∀y,y∈[dp,dq,dr]->SizeOf.sizeOf y<m from hm) rfl rfl rfl rfl rfl rfl rfl) (fun r hr=>(show∀r ids,_ from hK) _ _ ?_);clear hK;obtain⟨v2,rfl,cC,en,aW⟩:=hr;have mc:=cC.cells;have nG:=fun(n:Nat) (H:al)=>aH (n:=n) (H:=H) en;refine cA ?_)<;>exact iX
 |fail):p:=h
theorem rP(h:p:=by
 first
 |exact Tn
 |fail):p:=h
end acZ
namespace ac0
theorem cw(h:p:=by
 first
 |(refine ka 123 bS (fun K hK=>?_);have hK:Hid _:=hK;refine cA ?_;refine kb (sJ (show cJ X G m from bG) (HK iO pu js uI ow sY) (show∀y,y∈[dp,dq,dr]->SizeOf.sizeOf y<m from hm) rfl rfl rfl rfl rfl rfl rfl) (fun r hr=>(show∀r ids,_ from hK) _ _ ?_);clear hK;obtain⟨v2,rfl,cC,en,aW⟩:=hr;have mc:=cC.cells;have nG:=fun(n:Nat) (H:al)=>aH (n:=n) (H:=H) en;refine cA ?_)<;>exact bu
 |fail):p:=h
theorem fu(h:p:=by
 first
 |skip
  refine yP (c:=1010) (zs:=[[.aj 362 (.fp [r,ab]),ab]]) (ids:=[13014,13011]) (cB) (cB) (cB) rfl af af af af (fun Hr zr DM eF=>?_);have DN:=eF 1 af af;have DO:=eF 2002 af af;have DP:=eF 1007 af af
  (try simp only[*,go_sem,Nat.reduceEqDiff,Nat.reduceAdd,Nat.reduceLeDiff,Nat.reduceLT,Nat.reduceMul,Nat.reduceSub,reduceIte,reduceCtorEq,Int.reduceEq,Int.reduceLT,Int.reduceLE,Nat.reduceBEq,Int.reduceToNat,cV]at DN)
  (try simp only[*,go_sem,Nat.reduceEqDiff,Nat.reduceAdd,Nat.reduceLeDiff,Nat.reduceLT,Nat.reduceMul,Nat.reduceSub,reduceIte,reduceCtorEq,Int.reduceEq,Int.reduceLT,Int.reduceLE,Nat.reduceBEq,Int.reduceToNat,cV]at DO)
  (try simp only[*,go_sem,Nat.reduceEqDiff,Nat.reduceAdd,Nat.reduceLeDiff,Nat.reduceLT,Nat.reduceMul,Nat.reduceSub,reduceIte,reduceCtorEq,Int.reduceEq,Int.reduceLT,Int.reduceLE,Nat.reduceBEq,Int.reduceToNat,cV]at DP)
  clear eF;simp only[push]
  (try simp only[List.flatten_cons,List.flatten_nil,List.cons_append,List.nil_append,List.length_cons,List.length_nil]at DM)
  refine cA ?_;open acZ xN in exact iX
  done
 |fail):p:=h
end ac0
namespace ac1
theorem bj(h:p:=by
 first
 |skip
  refine yP (c:=1010) (zs:=[[.aj 362 (.fp [q,ab]),ab]]) (ids:=[5014,5011]) (cB) (cB) (cB) rfl af af af af (fun Hq zq yQ l7=>?_);have yR:=l7 1 af af;have yS:=l7 2002 af af;have yT:=l7 1007 af af
  (try simp only[*,go_sem,Nat.reduceEqDiff,Nat.reduceAdd,Nat.reduceLeDiff,Nat.reduceLT,Nat.reduceMul,Nat.reduceSub,reduceIte,reduceCtorEq,Int.reduceEq,Int.reduceLT,Int.reduceLE,Nat.reduceBEq,Int.reduceToNat,cV]at yR)
  (try simp only[*,go_sem,Nat.reduceEqDiff,Nat.reduceAdd,Nat.reduceLeDiff,Nat.reduceLT,Nat.reduceMul,Nat.reduceSub,reduceIte,reduceCtorEq,Int.reduceEq,Int.reduceLT,Int.reduceLE,Nat.reduceBEq,Int.reduceToNat,cV]at yS)
  (try simp only[*,go_sem,Nat.reduceEqDiff,Nat.reduceAdd,Nat.reduceLeDiff,Nat.reduceLT,Nat.reduceMul,Nat.reduceSub,reduceIte,reduceCtorEq,Int.reduceEq,Int.reduceLT,Int.reduceLE,Nat.reduceBEq,Int.reduceToNat,cV]at yT)
  clear l7;simp only[push]
  (try simp only[List.flatten_cons,List.flatten_nil,List.cons_append,List.nil_append,List.length_cons,List.length_nil]at yQ)
  refine cA ?_;open ac0 dO in exact bu
  done
 |fail):p:=h
end ac1
theorem ay0{m:Nat}(cU:fE X G m)(bG:cJ X G m){p:PV}{dp:List PV}(iO:CS [.aj 362 (.fp [p,ab]),ab] dp)(mX:aw p=true){q:PV}{dq:List PV}(js:CS [.aj 362 (.fp [q,ab]),ab] dq)(rr:aw q=true){r:PV}{dr:List PV}(ow:CS [.aj 362 (.fp [r,ab]),ab] dr)(v7:aw r=true)(hm:∀y,y∈[dp,dq,dr]->SizeOf.sizeOf y<m):Pure ai X G 124 [.fp [.fp [.aF,ab,q,ab,ab,ab],.fp [r,ab,ab],p,ab,ab]] (TS (Sd 15 0 dV 12 e0 e0 (.sl [dp,dq,dr]) e0 e0 e0 e0)):=by
 have pu:aw (.fp [p,ab])=true:=by simp[aw,aP,mX]
 have uJ:aQ p:=BS;have nj:=uJ.cells;have HM:=fun(n:Nat) (H:al)=>aH (n:=n) (H:=H) mX
 have uI:aw (.fp [q,ab])=true:=by simp[aw,aP,rr]
 have yU:aQ q:=Fv;have qz:=yU.cells;have NJ:=fun(n:Nat) (H:al)=>aH (n:=n) (H:=H) rr
 have sY:aw (.fp [r,ab])=true:=by simp[aw,aP,v7]
 have DQ:aQ r:=Jw;have zu:=DQ.cells;have acY:=fun(n:Nat) (H:al)=>aH (n:=n) (H:=H) v7
 have cU:Hid (fE X G m):=cU;have bG:Hid (cJ X G m):=bG;have hm:Hid (∀y,y∈[dp,dq,dr]->SizeOf.sizeOf y<m):=hm;have o4:bits .or .i64 0 4=4:=by decide
 have o8:bits .or .i64 0 8=8:=by decide
 have HN:bits .or .i64 4 8=12:=by decide
 refine ay CY af ?_;refine cA ?_;open ac1 bi in exact az
namespace ac2
theorem rO(h:p:=by
 first
 |(refine aO ((show fE X G m from cU) bA gz Gj) bS (cB) ?_;rintro _ ⟨K1,n1,vL,vM,rfl,iH,e1,bL⟩;have dt:=fun(n:Nat) (H:al)=>aH (n:=n) (H:=H) e1;have Ge:=iH.cells;refine cA ?_)<;>exact iX
 |(refine ka 123 bS (fun K hK=>?_);have hK:Hid _:=hK;refine cA ?_;refine kb (sJ (show cJ X G m from bG) (HK iO pu js uI ow sY) (show∀y,y∈[dp,dq,dr]->SizeOf.sizeOf y<m from hm) rfl rfl rfl Fh rfl rfl rfl) (fun r hr=>(show∀r ids,_ from hK) _ _ ?_);clear hK;obtain⟨v2,rfl,cC,en,aW⟩:=hr;have mc:=cC.cells;have nG:=fun(n:Nat) (H:al)=>aH (n:=n) (H:=H) en;refine cA ?_)<;>exact iX
 |fail):p:=h
theorem rP(h:p:=by
 first
 |exact alY
 |fail):p:=h
end ac2
namespace ac3
theorem cw(h:p:=by
 first
 |exact alW
 |(refine ka 123 bS (fun K hK=>?_);have hK:Hid _:=hK;refine cA ?_;refine kb (sJ (show cJ X G m from bG) (HK iO pu js uI ow sY) (show∀y,y∈[dp,dq,dr]->SizeOf.sizeOf y<m from hm) rfl rfl rfl Fh rfl rfl rfl) (fun r hr=>(show∀r ids,_ from hK) _ _ ?_);clear hK;obtain⟨v2,rfl,cC,en,aW⟩:=hr;have mc:=cC.cells;have nG:=fun(n:Nat) (H:al)=>aH (n:=n) (H:=H) en;refine cA ?_)<;>exact bu
 |fail):p:=h
theorem fu(h:p:=by
 first
 |skip
  refine yP (c:=1010) (zs:=[[.aj 362 (.fp [r,ab]),ab]]) (ids:=[13014,13011]) (cB) (cB) (cB) rfl af af af af (fun Hr zr DM eF=>?_);have DN:=eF 1 af af;have DO:=eF 2002 af af;have DP:=eF 1007 af af;have f9r:=eF 10003 af af
  (try simp only[*,go_sem,Nat.reduceEqDiff,Nat.reduceAdd,Nat.reduceLeDiff,Nat.reduceLT,Nat.reduceMul,Nat.reduceSub,reduceIte,reduceCtorEq,Int.reduceEq,Int.reduceLT,Int.reduceLE,Nat.reduceBEq,Int.reduceToNat,cV]at DN)
  (try simp only[*,go_sem,Nat.reduceEqDiff,Nat.reduceAdd,Nat.reduceLeDiff,Nat.reduceLT,Nat.reduceMul,Nat.reduceSub,reduceIte,reduceCtorEq,Int.reduceEq,Int.reduceLT,Int.reduceLE,Nat.reduceBEq,Int.reduceToNat,cV]at DO)
  (try simp only[*,go_sem,Nat.reduceEqDiff,Nat.reduceAdd,Nat.reduceLeDiff,Nat.reduceLT,Nat.reduceMul,Nat.reduceSub,reduceIte,reduceCtorEq,Int.reduceEq,Int.reduceLT,Int.reduceLE,Nat.reduceBEq,Int.reduceToNat,cV]at DP)
  (try simp only[*,go_sem,Nat.reduceEqDiff,Nat.reduceAdd,Nat.reduceLeDiff,Nat.reduceLT,Nat.reduceMul,Nat.reduceSub,reduceIte,reduceCtorEq,Int.reduceEq,Int.reduceLT,Int.reduceLE,Nat.reduceBEq,Int.reduceToNat,cV]at f9r)
  clear eF;simp only[push]
  (try simp only[List.flatten_cons,List.flatten_nil,List.cons_append,List.nil_append,List.length_cons,List.length_nil]at DM)
  refine cA ?_;open ac2 xN in exact iX
  done
 |fail):p:=h
end ac3
namespace ac4
theorem bj(h:p:=by
 first
 |skip
  refine yP (c:=1010) (zs:=[[.aj 362 (.fp [q,ab]),ab]]) (ids:=[5014,5011]) (cB) (cB) (cB) rfl af af af af (fun Hq zq yQ l7=>?_);have yR:=l7 1 af af;have yS:=l7 2002 af af;have yT:=l7 1007 af af
  (try simp only[*,go_sem,Nat.reduceEqDiff,Nat.reduceAdd,Nat.reduceLeDiff,Nat.reduceLT,Nat.reduceMul,Nat.reduceSub,reduceIte,reduceCtorEq,Int.reduceEq,Int.reduceLT,Int.reduceLE,Nat.reduceBEq,Int.reduceToNat,cV]at yR)
  (try simp only[*,go_sem,Nat.reduceEqDiff,Nat.reduceAdd,Nat.reduceLeDiff,Nat.reduceLT,Nat.reduceMul,Nat.reduceSub,reduceIte,reduceCtorEq,Int.reduceEq,Int.reduceLT,Int.reduceLE,Nat.reduceBEq,Int.reduceToNat,cV]at yS)
  (try simp only[*,go_sem,Nat.reduceEqDiff,Nat.reduceAdd,Nat.reduceLeDiff,Nat.reduceLT,Nat.reduceMul,Nat.reduceSub,reduceIte,reduceCtorEq,Int.reduceEq,Int.reduceLT,Int.reduceLE,Nat.reduceBEq,Int.reduceToNat,cV]at yT)
  clear l7;simp only[push]
  (try simp only[List.flatten_cons,List.flatten_nil,List.cons_append,List.nil_append,List.length_cons,List.length_nil]at yQ)
  refine cA ?_;open ac3 dO in exact bu
  done
 |fail):p:=h
end ac4
theorem ay2{m:Nat}(cU:fE X G m)(bG:cJ X G m){k d0 d1 d2 d3:PV}(bA:CB [k,ab] [d0,d1,d2,d3])(gz:aw k=true)(Gj:SizeOf.sizeOf [d0,d1,d2,d3]<m){p:PV}{dp:List PV}(iO:CS [.aj 362 (.fp [p,ab]),ab] dp)(mX:aw p=true){q:PV}{dq:List PV}(js:CS [.aj 362 (.fp [q,ab]),ab] dq)(rr:aw q=true){r:PV}{dr:List PV}(ow:CS [.aj 362 (.fp [r,ab]),ab] dr)(v7:aw r=true)(hm:∀y,y∈[dp,dq,dr]->SizeOf.sizeOf y<m):Pure ai X G 124 [.fp [.fp [k,ab,q,ab,ab,ab],.fp [r,ab,ab],p,ab,ab]] (TS (Sd 15 0 dV 12 e0 e0 (.sl [dp,dq,dr]) (.sl [[d0,d1,d2,d3,e0]]) e0 e0 e0)):=by
 have xZ:=fun(n:Nat) (H:al)=>aH (n:=n) (H:=H) gz
 obtain⟨uk,xk,rfl⟩:∃u x,k= .aj u x:=by cases bA<;>exact⟨_,_,rfl⟩
 have hdk:aw xk=true:=by simpa[aw]using gz
 have pu:aw (.fp [p,ab])=true:=by simp[aw,aP,mX]
 have uJ:aQ p:=BS;have nj:=uJ.cells;have HM:=fun(n:Nat) (H:al)=>aH (n:=n) (H:=H) mX
 have uI:aw (.fp [q,ab])=true:=by simp[aw,aP,rr]
 have yU:aQ q:=Fv;have qz:=yU.cells;have NJ:=fun(n:Nat) (H:al)=>aH (n:=n) (H:=H) rr
 have sY:aw (.fp [r,ab])=true:=by simp[aw,aP,v7]
 have DQ:aQ r:=Jw;have zu:=DQ.cells;have acY:=fun(n:Nat) (H:al)=>aH (n:=n) (H:=H) v7
 have cU:Hid (fE X G m):=cU;have bG:Hid (cJ X G m):=bG;have hm:Hid (∀y,y∈[dp,dq,dr]->SizeOf.sizeOf y<m):=hm;have o4:bits .or .i64 0 4=4:=by decide
 have o8:bits .or .i64 0 8=8:=by decide
 have HN:bits .or .i64 4 8=12:=by decide
 refine ay CY af ?_;refine cA ?_;open ac4 bi in exact az
end
end Go.Pi
end
section
open Go Go.Pi
namespace Go.Pi
variable{p q a:Prop}
section
variable{X:aS}{G:Nat->PV}
theorem ay3{p q:PV}{dp dq:List PV}(ht:Pure ai X G 124 [.fp [.fp [.aF,ab,q,ab,ab,ab],.bF,p,ab,ab]] (TS (Sd 15 0 dV 4 e0 e0 (.sl [dp,dq]) e0 e0 e0 e0)))(hd:aw (.fp [.fp [.aF,ab,q,ab,ab,ab],.bF,p,ab,ab])=true):Pure ai X G 73 [.aj 391 (.fp [.fp [.aF,ab,q,ab,ab,ab],.bF,p,ab,ab])] (TS (Sd 15 0 dV 4 e0 e0 (.sl [dp,dq]) e0 e0 e0 e0)):=by
 have uK:=hd;simp[aw,aP,and_assoc]at uK;refine ay qZ af ?_;refine cA ?_;open bi Ai Aj in exact az
theorem ay4{k p q d0 d1 d2 d3:PV}{dp dq:List PV}(ht:Pure ai X G 124 [.fp [.fp [k,ab,q,ab,ab,ab],.bF,p,ab,ab]] (TS (Sd 15 0 dV 4 e0 e0 (.sl [dp,dq]) (.sl [[d0,d1,d2,d3,e0]]) e0 e0 e0)))(hd:aw (.fp [.fp [k,ab,q,ab,ab,ab],.bF,p,ab,ab])=true):Pure ai X G 73 [.aj 391 (.fp [.fp [k,ab,q,ab,ab,ab],.bF,p,ab,ab])] (TS (Sd 15 0 dV 4 e0 e0 (.sl [dp,dq]) (.sl [[d0,d1,d2,d3,e0]]) e0 e0 e0)):=by
 have uK:=hd;simp[aw,aP,and_assoc]at uK;refine ay qZ af ?_;refine cA ?_;open bi Ai Aj in exact az
theorem ay5{p q:PV}{dp dq:List PV}(ht:Pure ai X G 124 [.fp [.bF,.fp [q,ab,ab],p,ab,ab]] (TS (Sd 15 0 dV 8 e0 e0 (.sl [dp,dq]) e0 e0 e0 e0)))(hd:aw (.fp [.bF,.fp [q,ab,ab],p,ab,ab])=true):Pure ai X G 73 [.aj 391 (.fp [.bF,.fp [q,ab,ab],p,ab,ab])] (TS (Sd 15 0 dV 8 e0 e0 (.sl [dp,dq]) e0 e0 e0 e0)):=by
 have uK:=hd;simp[aw,aP,and_assoc]at uK;refine ay qZ af ?_;refine cA ?_;open bi Ai Aj in exact az
theorem ay6{p q r:PV}{dp dq dr:List PV}(ht:Pure ai X G 124 [.fp [.fp [.aF,ab,q,ab,ab,ab],.fp [r,ab,ab],p,ab,ab]] (TS (Sd 15 0 dV 12 e0 e0 (.sl [dp,dq,dr]) e0 e0 e0 e0)))(hd:aw (.fp [.fp [.aF,ab,q,ab,ab,ab],.fp [r,ab,ab],p,ab,ab])=true):Pure ai X G 73 [.aj 391 (.fp [.fp [.aF,ab,q,ab,ab,ab],.fp [r,ab,ab],p,ab,ab])] (TS (Sd 15 0 dV 12 e0 e0 (.sl [dp,dq,dr]) e0 e0 e0 e0)):=by
 have uK:=hd;simp[aw,aP,and_assoc]at uK;refine ay qZ af ?_;refine cA ?_;open bi Ai Aj in exact az
theorem ay7{k p q r d0 d1 d2 d3:PV}{dp dq dr:List PV}(ht:Pure ai X G 124 [.fp [.fp [k,ab,q,ab,ab,ab],.fp [r,ab,ab],p,ab,ab]] (TS (Sd 15 0 dV 12 e0 e0 (.sl [dp,dq,dr]) (.sl [[d0,d1,d2,d3,e0]]) e0 e0 e0)))(hd:aw (.fp [.fp [k,ab,q,ab,ab,ab],.fp [r,ab,ab],p,ab,ab])=true):Pure ai X G 73 [.aj 391 (.fp [.fp [k,ab,q,ab,ab,ab],.fp [r,ab,ab],p,ab,ab])] (TS (Sd 15 0 dV 12 e0 e0 (.sl [dp,dq,dr]) (.sl [[d0,d1,d2,d3,e0]]) e0 e0 e0)):=by
 have uK:=hd;simp[aw,aP,and_assoc]at uK;refine ay qZ af ?_;refine cA ?_;open bi Ai Aj in exact az
theorem ay8{K op fl:Int}{aA ex kd dc cs fs cl:PV}{us:List (List PV)}(h:R.bH (Sd K op aA fl (.sl us) ex kd dc cs fs cl)):pI (.sl us):=by cases h;assumption
theorem ay9{m:Nat}(h:bQ X G m)(cU:fE X G m)(bG:cJ X G m){c d:List PV}(hc:CS c d)(hd:aP c=true)(hm:SizeOf.sizeOf d<=m):Pure ai X G 28 [.agg c] (TS d):=by
 cases hc with
 |empty ht=>
  have hx:=dA hd;exact uH hx (ayu)
 |Ud ht=>
  have hx:=dA hd;exact uH hx (ayv)
 |directive v us fF oD ht=>
  have hx:=dA hd;exact uH hx (ayC v us (xI fF oD (ay8 ht)) oD)
 |expr k dk bA ht=>
  have hx:=dA hd;have hp:=hx;simp[aw,aP,and_assoc]at hp;exact uH hx (ayz h bA hp (fun y hy=>Nat.lt_of_lt_of_le (cK (v:= .sl [dk]) af hy) hm))
 |Ue v ds op ho fF fk ht=>
  have hx:=dA hd;exact NI hx (lH hx aJ) (ayO h cU ⟨fF,fk⟩ op ho (fun y hy=>Nat.lt_of_lt_of_le (cK (v:= .sl ds) af hy) hm))
 |fn nm ar bd r1 r2 b1 b2 b3 df ue ht=>
  have hx:=dA hd;exact NI hx (lH hx aJ) (ayP h cU bG ue JB (Nat.le_of_lt (Nat.lt_of_lt_of_le (cK (v:= .sl [df]) af (List.mem_singleton_self _)) hm)))
 |je nm k v dc vN ht=>
  have hx:=dA hd;exact NI hx (lH hx aJ) (ayQ h bG vN JB (Nat.le_of_lt (Nat.lt_of_lt_of_le (cK (v:= .sl [dc]) af (List.mem_singleton_self _)) hm)))
 |block bd ss gO l5 ht=>
  have hx:=dA hd;exact rp hx (lH hx aJ) (mH hx aJ) (rq hx aJ) (ayM bG ⟨gO,l5⟩ (fun y hy=>Nat.lt_of_lt_of_le (cK (v:= .sl ss) af hy) hm))
 |Uf k x dk dx bA eK ht=>
  have hx:=dA hd;have hp:=hx;simp[aw,aP,and_assoc]at hp;obtain⟨p1,p2⟩:=hp;exact rp hx (lH hx aJ) (mH hx aJ) (rq hx aJ) (ayJ h bG bA p1 eK p2 (fun y hy=>Nat.lt_of_lt_of_le (cK (v:= .sl [dk]) af hy) hm) (fun y hy=>Nat.lt_of_lt_of_le (cK (v:= .sl [dx]) af hy) hm))
 |Ug k x y dk dx dy bA eK jC ht=>
  have hx:=dA hd;have hp:=hx;simp[aw,aP,and_assoc]at hp;obtain⟨p1,p2,p3⟩:=hp;exact rp hx (lH hx aJ) (mH hx aJ) (rq hx aJ) (ayK h bG bA p1 eK p2 jC p3 (fun y hy=>Nat.lt_of_lt_of_le (cK (v:= .sl [dk]) af hy) hm) (fun y hy=>Nat.lt_of_lt_of_le (cK (v:= .sl [dx,dy]) af hy) hm))
 |for_ x k l y dx dk dl dy GZ bA jB jC ht=>
  have hx:=dA hd;have hp:=hx;simp[aw,aP,and_assoc]at hp;obtain⟨p1,p2,p3,p4⟩:=hp;exact AL hx (lH hx aJ) (mH hx aJ) (ayL h bG GZ p1 bA p2 jB p3 jC p4 (fun y hy=>Nat.lt_of_lt_of_le (cK (v:= .sl [dk,dl]) af hy) hm) (fun y hy=>Nat.lt_of_lt_of_le (cK (v:= .sl [dx,dy]) af hy) hm))
 |forIn x k y dx dk dy eK bA jC ht=>
  have hx:=dA hd;have hp:=hx;simp[aw,aP,and_assoc]at hp;obtain⟨p1,p2,p3⟩:=hp;exact AL hx (lH hx aJ) (mH hx aJ) (ayD h bG bA p2 eK p1 jC p3 (fun y hy=>Nat.lt_of_lt_of_le (cK (v:= .sl [dk]) af hy) hm) (fun y hy=>Nat.lt_of_lt_of_le (cK (v:= .sl [dx,dy]) af hy) hm))
 |Mw x k y dx dk dy b eK bA jC ht=>
  have hx:=dA hd;cases b
  ·have hp:=hx;simp[aw,aP,and_assoc]at hp;obtain⟨p1,p2,p3⟩:=hp;exact AL hx (lH hx aJ) (mH hx aJ) (ayE h bG bA p2 eK p1 jC p3 (fun y hy=>Nat.lt_of_lt_of_le (cK (v:= .sl [dk]) af hy) hm) (fun y hy=>Nat.lt_of_lt_of_le (cK (v:= .sl [dx,dy]) af hy) hm))
  ·have hp:=hx;simp[aw,aP,and_assoc]at hp;obtain⟨p1,p2,p3⟩:=hp;exact AL hx (lH hx aJ) (mH hx aJ) (ayF h bG bA p2 eK p1 jC p3 (fun y hy=>Nat.lt_of_lt_of_le (cK (v:= .sl [dk]) af hy) hm) (fun y hy=>Nat.lt_of_lt_of_le (cK (v:= .sl [dx,dy]) af hy) hm))
 |Uh x k dx dk eK bA ht=>
  have hx:=dA hd;have hp:=hx;simp[aw,aP,and_assoc]at hp;obtain⟨p1,p2⟩:=hp;exact AL hx (lH hx aJ) (mH hx aJ) (ayG h bG bA p2 eK p1 (fun y hy=>Nat.lt_of_lt_of_le (cK (v:= .sl [dk]) af hy) hm) (fun y hy=>Nat.lt_of_lt_of_le (cK (v:= .sl [dx]) af hy) hm))
 |Ui x k dx dk eK bA ht=>
  have hx:=dA hd;have hp:=hx;simp[aw,aP,and_assoc]at hp;obtain⟨p1,p2⟩:=hp;exact AL hx (lH hx aJ) (mH hx aJ) (ayH h bG bA p1 eK p2 (fun y hy=>Nat.lt_of_lt_of_le (cK (v:= .sl [dk]) af hy) hm) (fun y hy=>Nat.lt_of_lt_of_le (cK (v:= .sl [dx]) af hy) hm))
 |Uj x k dx dk eK bA ht=>
  have hx:=dA hd;have hp:=hx;simp[aw,aP,and_assoc]at hp;obtain⟨p1,p2⟩:=hp;exact rp hx (lH hx aJ) (mH hx aJ) (rq hx aJ) (ayI h bG bA p1 eK p2 (fun y hy=>Nat.lt_of_lt_of_le (cK (v:= .sl [dk]) af hy) hm) (fun y hy=>Nat.lt_of_lt_of_le (cK (v:= .sl [dx]) af hy) hm))
 |Uk k p q d0 d1 d2 d3 dp dq bA iO js ht=>
  have hx:=dA hd;have hp:=hx;simp[aw,aP,and_assoc]at hp;obtain⟨p1,p2,p3⟩:=hp;exact rp hx (lH hx aJ) (mH hx aJ) (rq hx aJ) (ay4 (ayX cU bG bA p1 (Nat.lt_trans KV (Nat.lt_of_lt_of_le (cK (v:= .sl [[d0,d1,d2,d3,e0]]) af (List.mem_singleton_self _)) hm)) iO p3 js p2 (fun y hy=>Nat.lt_of_lt_of_le (cK (v:= .sl [dp,dq]) af hy) hm)) hx)
 |Ul p q dp dq iO js ht=>
  have hx:=dA hd;have hp:=hx;simp[aw,aP,and_assoc]at hp;obtain⟨p1,p2⟩:=hp;exact rp hx (lH hx aJ) (mH hx aJ) (rq hx aJ) (ay3 (ayW cU bG iO p2 js p1 (fun y hy=>Nat.lt_of_lt_of_le (cK (v:= .sl [dp,dq]) af hy) hm)) hx)
 |Um p q dp dq iO js ht=>
  have hx:=dA hd;have hp:=hx;simp[aw,aP,and_assoc]at hp;obtain⟨p1,p2⟩:=hp;exact rp hx (lH hx aJ) (mH hx aJ) (rq hx aJ) (ay5 (ayZ cU bG iO p2 js p1 (fun y hy=>Nat.lt_of_lt_of_le (cK (v:= .sl [dp,dq]) af hy) hm)) hx)
 |Uo k p q r d0 d1 d2 d3 dp dq dr bA iO js ow ht=>
  have hx:=dA hd;have hp:=hx;simp[aw,aP,and_assoc]at hp;obtain⟨p1,p2,p3,p4⟩:=hp;exact rp hx (lH hx aJ) (mH hx aJ) (rq hx aJ) (ay7 (ay2 cU bG bA p1 (Nat.lt_trans KV (Nat.lt_of_lt_of_le (cK (v:= .sl [[d0,d1,d2,d3,e0]]) af (List.mem_singleton_self _)) hm)) iO p4 js p2 ow p3 (fun y hy=>Nat.lt_of_lt_of_le (cK (v:= .sl [dp,dq,dr]) af hy) hm)) hx)
 |Up p q r dp dq dr iO js ow ht=>
  have hx:=dA hd;have hp:=hx;simp[aw,aP,and_assoc]at hp;obtain⟨p1,p2,p3⟩:=hp;exact rp hx (lH hx aJ) (mH hx aJ) (rq hx aJ) (ay6 (ay0 cU bG iO p3 js p1 ow p2 (fun y hy=>Nat.lt_of_lt_of_le (cK (v:= .sl [dp,dq,dr]) af hy) hm)) hx)
 |switch k v dk ds bA fF fk ht=>
  have hx:=dA hd;have hp:=hx;simp[aw,aP,and_assoc]at hp;obtain⟨p1,p2⟩:=hp;exact rp hx (lH hx aJ) (mH hx aJ) (rq hx aJ) (ayV h bG bA p1 ⟨fF,fk⟩ (fun y hy=>Nat.lt_of_lt_of_le (cK (v:= .sl [dk]) af hy) hm) (fun y hy=>Nat.lt_of_lt_of_le (cK (v:= .sl ds) af hy) hm))
 |label x dx n hn eK ht=>
  have hx:=dA hd;have hp:=hx;simp[aw,aP,and_assoc]at hp;exact rp hx (lH hx aJ) (mH hx aJ) (rq hx aJ) (ayN bG eK hp n hn (fun y hy=>Nat.lt_of_lt_of_le (cK (v:= .sl [dx]) af hy) hm))
 |Uq ht=>
  have hx:=dA hd;exact uH hx (ayw)
 |Ur k dk bA ht=>
  have hx:=dA hd;have hp:=hx;simp[aw,aP,and_assoc]at hp;exact uH hx (ayA h bA hp (fun y hy=>Nat.lt_of_lt_of_le (cK (v:= .sl [dk]) af hy) hm))
 |throw k dk bA ht=>
  have hx:=dA hd;have hp:=hx;simp[aw,aP,and_assoc]at hp;exact uH hx (ayB h bA hp (fun y hy=>Nat.lt_of_lt_of_le (cK (v:= .sl [dk]) af hy) hm))
 |Us nm n xW ht=>
  have hx:=dA hd;exact uH hx (ayx xW)
 |Ut nm n xW ht=>
  have hx:=dA hd;exact uH hx (ayy xW)
theorem aza:Pure ai X G 118 [.agg [.aj 95 (.fp [.int .u8 0]),ab]] (TB [.int .i64 0,.int .i64 0,e0,b0]):=by
 refine ay GR af ?_;refine zA ?_;open bi Mh in exact az
theorem azb(n:Int)(hn:0<=n/\n<1000):Pure ai X G 118 [.agg [.aj 98 (.fp [.int .u32 0,.int .u32 n]),ab]] (TB [.int .i64 1,.int .i64 n,e0,b0]):=by
 have hw:=wrap_i64 (n:=n) ad ad;refine ay GR af ?_;refine nA hw ?_;open bi Mh in exact az
theorem azc{m:Nat}(h:bQ X G m)(cU:fE X G m){k:PV}{d:List PV}(hc:CB [k,ab] d)(hm:SizeOf.sizeOf d<=m):Pure ai X G 118 [.agg [k,ab]] (TB d):=by
 cases hc with
 |sq ht=>exact aza
 |name n hn ht=>exact azb n hn
 |array v ds b fF fk ht=>exact ax5 h cU b ⟨fF,fk⟩ (fun y hy=>Nat.lt_of_lt_of_le (cK (v:= .sl ds) af hy) hm)
 |C3 v ds fF fk ht=>exact ax6 h cU ⟨fF,fk⟩ (fun y hy=>Nat.lt_of_lt_of_le (cK (v:= .sl ds) af hy) hm)
theorem azd:∀m:Nat,bQ X G m/\fE X G m/\HJ X G m:=by
 intro m
 induction m with
 |zero=>exact⟨fun _ _ h=>absurd h (Nat.not_lt_zero _),fun _ _ h=>absurd h (Nat.not_lt_zero _),fun _ _ h=>absurd h (Nat.not_lt_zero _)⟩
 |succ m ih=>
  obtain⟨h1,h2,h3⟩:=ih;have h4:cJ X G m:=fun hw hm=>acn h3 hw hm
  exact⟨fun hc hd hm=>ayl h1 h2 h4 hc hd (Nat.le_of_lt_succ hm),fun hc hd hm=>azc h1 h2 hc (Nat.le_of_lt_succ hm),fun hc hd hm=>ay9 h1 h2 h4 hc hd (Nat.le_of_lt_succ hm)⟩
theorem aze{w:PV}{ds:List (List PV)}(hw:br CS w ds):Pure ai X G 19 [w] (TL ds):=
 acn (azd (SizeOf.sizeOf (PV.sl ds))).2.2 hw fun d hd=>by
  have:=List.sizeOf_lt_of_mem hd;simp only[PV.sl.sizeOf_spec];omega
end
end Go.Pi
end
