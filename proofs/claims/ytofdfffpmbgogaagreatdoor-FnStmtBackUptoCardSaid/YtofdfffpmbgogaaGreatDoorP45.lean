import Derived.Test.YtofdfffpmbgogaaGreatDoorP09
import Derived.Test.YtofdfffpmbgogaaGreatDoorP10
import Derived.Test.YtofdfffpmbgogaaGreatDoorP11
import Derived.Test.YtofdfffpmbgogaaGreatDoorP12
import Derived.Test.YtofdfffpmbgogaaGreatDoorP13
import Derived.Test.YtofdfffpmbgogaaGreatDoorP18
import Derived.Test.YtofdfffpmbgogaaGreatDoorP19
import Derived.Test.YtofdfffpmbgogaaGreatDoorP29
import Derived.Test.YtofdfffpmbgogaaGreatDoorP34
/- Part of the proof. -/
set_option linter.all false
set_option maxHeartbeats 0
set_option maxRecDepth 100000
section
open Go Go.Pi
namespace Go.Pi
variable{p q a:Prop}
def TE(d:List PV)(r:PV):Prop:=∃(K op rf ch fl:Int)(nn:Nat)(str:PV)(tx:ByteArray)(kd pr pt fs cs:PV),r= .bZ [.agg [.int .i64 K,.int .i64 op,.int .i64 rf,.int .i64 ch,.int .i64 fl,.bR .f64 nn,str,.str tx,kd,pr,pt,fs,cs],.bool true]/\aw str=true/\aw kd=true/\aw pr=true/\aw pt=true/\aw fs=true/\aw cs=true/\dE [.int .i64 K,.int .i64 op,.int .i64 rf,.int .i64 ch,.int .i64 fl,.bR .f64 nn,str,.str tx,kd,pr,pt,fs,cs] d
def TN(r:PV):Prop:=∃(K op rf ch fl:Int)(nn:Nat)(str:PV)(tx:ByteArray)(kd pr pt fs cs:PV),r= .bZ [.agg [.int .i64 K,.int .i64 op,.int .i64 rf,.int .i64 ch,.int .i64 fl,.bR .f64 nn,str,.str tx,kd,pr,pt,fs,cs],.bool false]/\aw str=true/\aw kd=true/\aw pr=true/\aw pt=true/\aw fs=true/\aw cs=true
def TL(ds:List (List PV))(r:PV):Prop:=∃v,r= .bZ [v,.bool true]/\aQ v/\aw v=true/\aK (ae v) ds
def TW(rest:PV->List PV)(ds:List (List PV))(r:PV):Prop:=∃v,r= .bZ [.agg (rest v),.bool true]/\aQ v/\aw v=true/\aK (ae v) ds
abbrev bQ(X:aS)(G:Nat->PV)(m:Nat):Prop:=∀{c d:List PV},CE c d->aP c=true->SizeOf.sizeOf d<m->Pure ai X G 21 [.agg c] (TE d)
theorem aK.qX{ys ds:List (List PV)}{i:Nat}{y d:List PV}(h:aK ys (ds.take i))(hd:ds[i]?=some d)(hp:dE y d):aK (ys++[y]) (ds.take (i+1)):=by
 rw[List.take_add_one,hd];exact aK.snoc h hp
theorem aK.fin{ys ds:List (List PV)}{i:Nat}(h:aK ys (ds.take i))(hi:ds.length<=i):aK ys ds:=by
 rwa [List.take_of_length_le hi]at h
theorem o6{w:PV}{ys:List (List PV)}(h:mA w)(e:ae w=ys)(hl:ys.length<=1048576):aQ w:=by
 refine h.imp id fun⟨xs,h⟩=>⟨xs,h,?_⟩
 subst h;simp only[ae]at e;rw[e];exact hl
theorem br.get'{P:List PV->List PV->Prop}{w:PV}{ds:List (List PV)}{c:List PV}{i:Nat}(h:br P w ds)(hc:(ae w)[i]?=some c):∃d,ds[i]?=some d/\P c d:=by
 have hi:=(List.getElem?_eq_some_iff.1 hc).1;have hl:=h.1.2.2;exact⟨ds[i],ai1,h.2 i c _ hc ai1⟩
theorem axi{w:PV}{c:List PV}(h:aw w=true)(hc:c∈ae w):aP c=true:=by
 cases w<;>simp only[ae,List.not_mem_nil]at hc;simp only[aw]at h;exact zg h _ hc
theorem CE.ef{c d:List PV}(h:CE c d):∃u x,c=[.aj u x,ab]:=by cases h<;>exact⟨_,_,rfl⟩
section
variable{T:Nat->Option FX}{X:aS}{G:Nat->PV}{Q:Ex->St->Prop}{w:List Wk}
variable{i len id n:Nat}{tr:er}{d:Option Nat}{os:List XO}{t:Nat->PV}{H:al}
theorem r8{P:List PV->List PV->Prop}{s:Nat}{v:PV}{ds:List (List PV)}{m:Int}(hs:∀{c d},P c d->c.length=s)(h:br P v ds)(h0:0<=m)(cE:m<(ae v).length)
 (k:∀c e,P c e->aP c=true->e∈ds->ds[m.toNat]?=some e->M T X G (.ops i os len tr::w) ⟨put t d (.fp c),H,n⟩ Q):eD T X G s v (.int .i64 m) d i os len tr w t H n Q:=by
 refine cO (P:=fun y=>aP y=true/\∃e,P y e) (fun⟨_,_,h⟩=>hs h) ⟨h.1.1,h.1.2.1,fun y hy=>⟨axi h.1.2.1 hy,?_⟩⟩ h0 cE fun y hP b6 hg=>?_
 ·obtain⟨j,hj,rfl⟩:=List.getElem_of_mem hy;obtain⟨e,_,he⟩:=h.get' (i:=j) (c:=(ae v)[j]) (by simp[hj]);exact⟨e,he⟩
 ·obtain⟨e,h1,h2⟩:=h.get' hg;exact k y e h2 hP.1 (List.mem_of_getElem? h1) h1
end
section
variable{T:Nat->Option FX}{X:aS}{G:Nat->PV}{Q:Ex->St->Prop}{w:List Wk}
def MCs(T:Nat->Option FX)(X:aS)(G:Nat->PV)(f:Nat)(o:Option (List PV×List Nat))(K:PV->List Nat->Prop):Prop:=∃ys ids,o=some (ys,ids)/\∃r cells,Fn T X G f ys none r cells/\K r ids
theorem ka(f:Nat){i len n:Nat}{tr:er}{d:Option Nat}{os:List XO}{t:Nat->PV}{H:al}{args:List PV}(dW:∀b g rest,args≠ .ptr b g 0::rest)
 (k:∀K:PV->List Nat->Prop,(∀r ids,M T X G (.ops i os len tr::w) ⟨put t d r,H.drop ids,n⟩ Q->K r ids)->MCs T X G f (eh (settle depth H) args) K)(eT:lj f=false:=by rfl):MC T X G f args d i os len tr w t H n Q:=by
 obtain⟨ys,ids,hs,r,cells,h1,h2⟩:=k (fun r ids=>M T X G (.ops i os len tr::w) ⟨put t d r,H.drop ids,n⟩ Q) (fun _ _ h=>h);exact pH eT dW hs ⟨r,cells,h1,h2⟩
theorem kb{f:Nat}{ys:List PV}{ids:List Nat}{R:PV->Prop}{K:PV->List Nat->Prop}(hM:Pure T X G f ys R)(k:∀r,R r->K r ids):MCs T X G f (some (ys,ids)) K:=by
 obtain⟨r,cells,h1,h2⟩:=hM;exact⟨ys,ids,rfl,r,cells,h1,k r h2⟩
theorem aa7{H:al}{a b:Nat}{l:List Nat}:H.drop (a::l) b=if b=a then none else H.drop l b:=by
 simp only[al.drop,List.mem_cons];by_cases h:b=a<;>simp[h]
theorem drop_nil{H:al}{b:Nat}:H.drop [] b=H b:=by simp[al.drop]
attribute [go_sem] aa7 drop_nil
end
theorem vJ{u:Nat}{x:PV}{d:List PV}(h:CE [.aj u x,ab] d)(hd:aw x=true):br CE (.sl [[.aj u x,ab]]) [d]:=
 ⟨⟨.sl af,QP,rfl⟩,fun i c e h1 h2=>by
  match i with
  |0=>simp[ae]at h1 h2;subst h1 h2;exact h
  |i+1=>simp[ae]at h1⟩
theorem S3{u v:Nat}{x y:PV}{d e:List PV}(h:CE [.aj u x,ab] d)(k:CE [.aj v y,ab] e)(hd:aw x=true)(he:aw y=true):br CE (.sl [[.aj u x,ab],[.aj v y,ab]]) [d,e]:=
 ⟨⟨.sl af,by simp[aw,jx,aP,hd,he],rfl⟩,fun i c e h1 h2=>by
  match i with
  |0=>simp[ae]at h1 h2;subst h1 h2;exact h
  |1=>simp[ae]at h1 h2;subst h1 h2;exact k
  |i+2=>simp[ae]at h1⟩
theorem axj{u v w:Nat}{x y z:PV}{d e f:List PV}(h:CE [.aj u x,ab] d)(k:CE [.aj v y,ab] e)(l:CE [.aj w z,ab] f)(hd:aw x=true)(he:aw y=true)(hf:aw z=true):br CE (.sl [[.aj u x,ab],[.aj v y,ab],[.aj w z,ab]]) [d,e,f]:=
 ⟨⟨.sl af,by simp[aw,jx,aP,hd,he,hf],rfl⟩,fun i c e h1 h2=>by
  match i with
  |0=>simp[ae]at h1 h2;subst h1 h2;exact h
  |1=>simp[ae]at h1 h2;subst h1 h2;exact k
  |2=>simp[ae]at h1 h2;subst h1 h2;exact l
  |i+3=>simp[ae]at h1⟩
theorem nl:cd .ah (.sl []):= .e0 (.inl rfl) rfl
section
variable{K op rf ch fl:Int}{nn:Nat}{tx:ByteArray}{str kd pr pt fs cs fd:PV}{us dk dp dq dc:List (List PV)}
theorem XG(h1:cd str (.sl us))(h2:cd kd (.sl dk))(h3:cd pr (.sl dp))(h4:cd pt (.sl dq))(h5:cd fs fd)(h6:fd.flat=true)(h7:cd cs (.sl dc)):dE [.int .i64 K,.int .i64 op,.int .i64 rf,.int .i64 ch,.int .i64 fl,.bR .f64 nn,str,.str tx,kd,pr,pt,fs,cs] (Xd K op rf ch fl nn (.sl us) tx (.sl dk) (.sl dp) (.sl dq) fd (.sl dc)):=
 .same rfl (.same rfl (.same rfl (.same rfl (.same rfl (.same rfl (.cons h1 rfl (.same rfl (.cons h2 rfl (.cons h3 rfl (.cons h4 rfl (.cons h5 h6 (.cons h7 rfl .nil))))))))))))
end
theorem aQ.cells{v:PV}(h:aQ v):cellsOf v=some [v]:=fQ (h.imp id fun⟨xs,h,_⟩=>⟨xs,h⟩)
section
variable{X:aS}{G:Nat->PV}
namespace aa8
theorem cw(h:p:=by
 first
 |(refine r8 (P:=CE) (fun h=>zR) hw ad ad (fun c d hc gF jd jW=>?_);obtain⟨u,x,rfl⟩:=hc.ef;have AH:aw x=true:=(by simpa[aP,aw]using gF);refine cA ?_)<;>exact bu
 |(refine aO ((show bQ X G m from h) hc gF (hm _ jd)) bS (cB) ?_;rintro _ ⟨K1,vD,vE,Ku,vF,Kv,lW,Kw,vG,Kx,Ky,vH,qG,rfl,e1,e2,e3,e4,e5,e6,bL⟩;have dt:=fun(n:Nat) (H:al)=>aH (n:=n) (H:=H) e1;have fW:=fun(n:Nat) (H:al)=>aH (n:=n) (H:=H) e2;have K5:=fun(n:Nat) (H:al)=>aH (n:=n) (H:=H) e3;have K6:=fun(n:Nat) (H:al)=>aH (n:=n) (H:=H) e4;have K7:=fun(n:Nat) (H:al)=>aH (n:=n) (H:=H) e5;have K8:=fun(n:Nat) (H:al)=>aH (n:=n) (H:=H) e6;refine cA ?_)<;>exact bu
 |fail):p:=h
theorem iZ(h:p:=by
 first
 |skip
  refine ik (A:=[8004]) (ys:=ys) (zs:=[[.int .i64 K1,.int .i64 vD,.int .i64 vE,.int .i64 Ku,.int .i64 vF,.bR .f64 Kv,lW,.str Kw,vG,Kx,Ky,vH,qG]]) (ids:=[8003]) (cB) gy af af iA af fH (fun v' H' z' bI hf=>?_);clear hE hf;simp only[push];refine cA ?_;simp only[cG];refine cA ?_;have next:=nx
  unfold Hid at next
  have gM:=jW;simp only[Int.toNat_natCast]at gM;exact next (n - 1) ad _ ⟨i+1,_,ad,cB,cB,gK,lV,jR,aV.qX gM (bL)⟩
  done
 |fail):p:=h
end aa8
namespace aa9
theorem bj(h:p:=by
 first
 |skip
  refine b5 (fun n s'=>∃(i:Nat)(ys:List (List PV)),i+n=(ae v0).length/\s'.t 9=v0/\s'.t 10= .int .i64 (ae v0).length/\s'.t 11= .int .i64 i/\aX [8004] s'.H 47 13 (s'.t 4) ys/\ys.length=i/\aK ys (ds.take i)) ?_ (n:=(ae v0).length)
   ⟨0,[],af,nB,nB,nB,aiL,rfl,kS⟩
  rintro n ⟨t,H,k⟩ ⟨i,ys,hi,cp,cI,cS,aY,eY,aV⟩ next
  simp only at cp cI cS aY;have hE:=fun(n:Nat) (H':al) (q1:H' 8004=H 8004)=>(aX.dF (n:=n) (aY.frame (H':=H') iY))
  obtain⟨g1,g2,g3,g4⟩:=aY.gv;refine nA (Kj cp (Kj cI cS)) ?_;have nx:Hid _:=next
  clear next
  open aa8 dO Ah kU in exact bu
  done
 |fail):p:=h
end aa9
theorem Kf{m:Nat}{v0:PV}{ds:List (List PV)}(h:bQ X G m)(hw:br CE v0 ds)(hm:∀d,d∈ds->SizeOf.sizeOf d<m):Pure ai X G 78 [v0] (TL ds):=by
 have hv:=hw.1.1;have eo:=hw.1.2.1;have o3:=hw.1.2.2.symm;have hB:=hv.len;have h:Hid (bQ X G m):=h;refine ay T78 af ?_;refine nA hv ?_;open aa9 bi in exact az
theorem Aa{m:Nat}{v0:PV}{ds:List (List PV)}{K op rf ch fl:Int}{nn:Nat}{str:PV}{tx:ByteArray}{kd pr pt fs cs:PV}(h:bQ X G m)(hw:br CE v0 ds)(hm:∀d,d∈ds->SizeOf.sizeOf d<m)(e1:aw str=true)(e3:aw pr=true)(e4:aw pt=true)(e5:aw fs=true)(e6:aw cs=true)(e2:aw kd=true):
 Pure ai X G 75 [.agg [.int .i64 K,.int .i64 op,.int .i64 rf,.int .i64 ch,.int .i64 fl,.bR .f64 nn,str,.str tx,kd,pr,pt,fs,cs],v0] (TW (fun kd=>[.int .i64 K,.int .i64 op,.int .i64 rf,.int .i64 ch,.int .i64 fl,.bR .f64 nn,str,.str tx,kd,pr,pt,fs,cs]) ds):=by
 have hv:=hw.1.1;have eo:=hw.1.2.1;have dt:=fun(n:Nat) (H:al)=>aH (n:=n) (H:=H) e1
 have fW:=fun(n:Nat) (H:al)=>aH (n:=n) (H:=H) e2
 have K5:=fun(n:Nat) (H:al)=>aH (n:=n) (H:=H) e3
 have K6:=fun(n:Nat) (H:al)=>aH (n:=n) (H:=H) e4
 have K7:=fun(n:Nat) (H:al)=>aH (n:=n) (H:=H) e5
 have K8:=fun(n:Nat) (H:al)=>aH (n:=n) (H:=H) e6
 refine ay T75 af ?_;refine nA (Kj hv eo) ?_;open bi LZ Cy in exact az
namespace aba
theorem bj(h:p:=by
 first
 |skip
  exact⟨_,rfl,.inl rfl,rfl,.nil⟩;done
 |fail):p:=h
end aba
namespace abb
theorem bw(h:p:=by
 first
 |(refine ka 78 bS (fun K hK=>?_);have hK:Hid _:=hK;refine cA ?_;refine kb (Kf h hL hm) (fun r hr=>(show∀r ids,_ from hK) _ _ ?_);clear hK;obtain⟨v1,rfl,cc,cN,bL⟩:=hr;have jY:=cc.cells;have jZ:=fun(n:Nat) (H:al)=>aH (n:=n) (H:=H) cN;refine cA ?_)<;>exact az
 |fail):p:=h
end abb
theorem o7{m:Nat}{k:PV}{ds:List (List PV)}(h:bQ X G m)(hc:CO [k,ab] ds)(hd:aw k=true)(hm:∀d,d∈ds->SizeOf.sizeOf d<m):Pure ai X G 119 [.agg [k,ab]] (TL ds):=by
 cases hc with
 |none=>
  refine ay TG af ?_;refine zA ?_;open aba bi in exact az
 |some _ d hc=>
  obtain⟨u,x,e⟩:=hc.ef;cases e;have xZ:=fun(n:Nat) (H:al)=>aH (n:=n) (H:=H) hd
  have AH:aw x=true:=JG;have hL:=vJ hc AH;refine ay TG af ?_;refine nA hd ?_;open abb bi Cy in exact az
end
end Go.Pi
end
section
open Go Go.Pi
namespace Go.Pi
variable{p q a:Prop}
section
variable{X:aS}{G:Nat->PV}
namespace abc
theorem bj(h:p:=by
 first
 |skip
  exact rfl;done
 |fail):p:=h
end abc
theorem SW(b:Bool)(n:Int):Pure ai X G 74 [.bool b,.int .i64 n] (fun r=>r= .int .i64 (fg b n)):=by
 cases b;all_goals
  refine ay T74 af ?_;refine zA ?_;open abc bi in exact az
theorem abd:FloatKind.nearest .f64 1=GU:=by decide+kernel
theorem abe:FloatKind.nearest .f64 0=0:=by decide+kernel
theorem yA:bits .or .i64 0 0=0:=by decide
namespace abf
theorem bw(h:p:=by
 first
 |(refine aO h0 bS (cB) ?_;rintro _ ⟨K0,Kg,Kh,Pe,Ki,nn0,abj,BE,Kk,pr0,pt0,Kl,oR,rfl,tM,tN,tO,tP,tQ,tR,DI⟩;have Km:=fun(n:Nat) (H:al)=>aH (n:=n) (H:=H) tM;have Kn:=fun(n:Nat) (H:al)=>aH (n:=n) (H:=H) tN;have Ko:=fun(n:Nat) (H:al)=>aH (n:=n) (H:=H) tO;have Kp:=fun(n:Nat) (H:al)=>aH (n:=n) (H:=H) tP;have Kq:=fun(n:Nat) (H:al)=>aH (n:=n) (H:=H) tQ;have Kr:=fun(n:Nat) (H:al)=>aH (n:=n) (H:=H) tR;refine cA ?_)<;>exact az
 |fail):p:=h
theorem bj(h:p:=by
 first
 |skip
  exact⟨_,_,_,_,_,_,_,_,_,_,_,_,_,rfl,tM,tN,tO,tP,tQ,tR,DI⟩;done
 |fail):p:=h
end abf
theorem nQ{u:Nat}{x:PV}{d:List PV}(hd:aw x=true)(h0:Pure ai X G 31 [.aj u x] (TE d)):Pure ai X G 21 [.agg [.aj u x,ab]] (TE d):=by
 refine ay CR af ?_;refine nA hd ?_;open abf bi in exact az
namespace abg
theorem bw(h:p:=by
 first
 |exact SV
 |(refine aO h1 bS (cB) ?_;rintro _ ⟨K1,vD,vE,Ku,vF,Kv,lW,Kw,vG,Kx,Ky,vH,qG,rfl,tS,tT,tU,tV,tW,tX,bL⟩;have Kz:=fun(n:Nat) (H:al)=>aH (n:=n) (H:=H) tS;have KA:=fun(n:Nat) (H:al)=>aH (n:=n) (H:=H) tT;have KB:=fun(n:Nat) (H:al)=>aH (n:=n) (H:=H) tU;have KC:=fun(n:Nat) (H:al)=>aH (n:=n) (H:=H) tV;have KD:=fun(n:Nat) (H:al)=>aH (n:=n) (H:=H) tW;have KE:=fun(n:Nat) (H:al)=>aH (n:=n) (H:=H) tX;refine cA ?_)<;>exact az
 |fail):p:=h
theorem bj(h:p:=by
 first
 |skip
  exact⟨_,_,_,_,_,_,_,_,_,_,_,_,_,rfl,tS,tT,tU,tV,tW,tX,bL⟩;done
 |fail):p:=h
end abg
theorem HF{u:Nat}{x:PV}{d:List PV}(hd:aw x=true)(h0:Pure ai X G 31 [.aj u x] TN)(h1:Pure ai X G 32 [.aj u x] (TE d)):Pure ai X G 21 [.agg [.aj u x,ab]] (TE d):=by
 refine ay CR af ?_;refine nA hd ?_;open abg bi in exact az
namespace abh
theorem bw(h:p:=by
 first
 |exact SV
 |exact alj
 |(refine aO h2 bS (cB) ?_;rintro _ ⟨K2,KF,KG,ch2,KH,nn2,KI,tx2,KJ,pr2,pt2,KK,KL,rfl,tY,tZ,ua,ub,uc,ud,aW⟩;have KM:=fun(n:Nat) (H:al)=>aH (n:=n) (H:=H) tY;have KN:=fun(n:Nat) (H:al)=>aH (n:=n) (H:=H) tZ;have KO:=fun(n:Nat) (H:al)=>aH (n:=n) (H:=H) ua;have KP:=fun(n:Nat) (H:al)=>aH (n:=n) (H:=H) ub;have KQ:=fun(n:Nat) (H:al)=>aH (n:=n) (H:=H) uc;have KR:=fun(n:Nat) (H:al)=>aH (n:=n) (H:=H) ud;refine cA ?_)<;>exact az
 |fail):p:=h
theorem bj(h:p:=by
 first
 |skip
  exact⟨_,_,_,_,_,_,_,_,_,_,_,_,_,rfl,tY,tZ,ua,ub,uc,ud,aW⟩;done
 |fail):p:=h
end abh
theorem HG{u:Nat}{x:PV}{d:List PV}(hd:aw x=true)(h0:Pure ai X G 31 [.aj u x] TN)(h1:Pure ai X G 32 [.aj u x] TN)(h2:Pure ai X G 33 [.aj u x] (TE d)):Pure ai X G 21 [.agg [.aj u x,ab]] (TE d):=by
 refine ay CR af ?_;refine nA hd ?_;open abh bi in exact az
namespace abi
theorem bw(h:p:=by
 first
 |exact SV
 |exact alj
 |exact vI
 |(refine aO h3 bS (cB) ?_;rintro _ ⟨K3,op3,rf3,ch3,fl3,nn3,abm,tx3,kd3,pr3,pt3,fs3,cs3,rfl,yB,yC,yD,yE,yF,yG,lX⟩;have abq:=fun(n:Nat) (H:al)=>aH (n:=n) (H:=H) yB;have abr:=fun(n:Nat) (H:al)=>aH (n:=n) (H:=H) yC;have abt:=fun(n:Nat) (H:al)=>aH (n:=n) (H:=H) yD;have abu:=fun(n:Nat) (H:al)=>aH (n:=n) (H:=H) yE;have abv:=fun(n:Nat) (H:al)=>aH (n:=n) (H:=H) yF;have abw:=fun(n:Nat) (H:al)=>aH (n:=n) (H:=H) yG;refine cA ?_)<;>exact az
 |fail):p:=h
theorem bj(h:p:=by
 first
 |skip
  exact⟨_,_,_,_,_,_,_,_,_,_,_,_,_,rfl,yB,yC,yD,yE,yF,yG,lX⟩;done
 |fail):p:=h
end abi
theorem HH{u:Nat}{x:PV}{d:List PV}(hd:aw x=true)(h0:Pure ai X G 31 [.aj u x] TN)(h1:Pure ai X G 32 [.aj u x] TN)(h2:Pure ai X G 33 [.aj u x] TN)(h3:Pure ai X G 34 [.aj u x] (TE d)):Pure ai X G 21 [.agg [.aj u x,ab]] (TE d):=by
 refine ay CR af ?_;refine nA hd ?_;open abi bi in exact az
namespace abx
theorem bw(h:p:=by
 first
 |exact SV
 |exact alj
 |exact vI
 |(refine aO h3 bS (cB) ?_;rintro _ ⟨K3,op3,rf3,ch3,fl3,nn3,abm,tx3,kd3,pr3,pt3,fs3,cs3,rfl,yB,yC,yD,yE,yF,yG⟩;have abq:=fun(n:Nat) (H:al)=>aH (n:=n) (H:=H) yB;have abr:=fun(n:Nat) (H:al)=>aH (n:=n) (H:=H) yC;have abt:=fun(n:Nat) (H:al)=>aH (n:=n) (H:=H) yD;have abu:=fun(n:Nat) (H:al)=>aH (n:=n) (H:=H) yE;have abv:=fun(n:Nat) (H:al)=>aH (n:=n) (H:=H) yF;have abw:=fun(n:Nat) (H:al)=>aH (n:=n) (H:=H) yG;refine cA ?_)<;>exact az
 |(refine aO h4 bS (cB) ?_;rintro _ ⟨K4,op4,rf4,ch4,fl4,nn4,aCF,tx4,kd4,pr4,pt4,fs4,cs4,rfl,aby,abz,abA,abB,abC,abD,rb⟩;have aCM:=fun(n:Nat) (H:al)=>aH (n:=n) (H:=H) aby;have aCN:=fun(n:Nat) (H:al)=>aH (n:=n) (H:=H) abz;have aCO:=fun(n:Nat) (H:al)=>aH (n:=n) (H:=H) abA;have aCP:=fun(n:Nat) (H:al)=>aH (n:=n) (H:=H) abB;have aCQ:=fun(n:Nat) (H:al)=>aH (n:=n) (H:=H) abC;have aCR:=fun(n:Nat) (H:al)=>aH (n:=n) (H:=H) abD;refine cA ?_)<;>exact az
 |fail):p:=h
theorem bj(h:p:=by
 first
 |skip
  exact⟨_,_,_,_,_,_,_,_,_,_,_,_,_,rfl,aby,abz,abA,abB,abC,abD,rb⟩;done
 |fail):p:=h
end abx
theorem vX{u:Nat}{x:PV}{d:List PV}(hd:aw x=true)(h0:Pure ai X G 31 [.aj u x] TN)(h1:Pure ai X G 32 [.aj u x] TN)(h2:Pure ai X G 33 [.aj u x] TN)(h3:Pure ai X G 34 [.aj u x] TN)(h4:Pure ai X G 35 [.aj u x] (TE d)):Pure ai X G 21 [.agg [.aj u x,ab]] (TE d):=by
 refine ay CR af ?_;refine nA hd ?_;open abx bi in exact az
end
end Go.Pi
end
section
open Go Go.Pi
namespace Go.Pi
variable{p q a:Prop}
section
variable{X:aS}{G:Nat->PV}
theorem axp:Pure ai X G 31 [.aj 176 (.fp [.int .u8 0])] (TE (Xk 0 0 0 0 cq [])):=by
 refine ay mf af ?_;refine cA ?_;open bi mV in exact az
theorem axq:Pure ai X G 31 [.aj 177 (.fp [.int .u8 0])] (TE (Xk 1 0 0 0 cq [])):=by
 refine ay mf af ?_;refine cA ?_;open bi mV in exact az
theorem axr:Pure ai X G 31 [.aj 193 (.fp [.int .u8 0])] (TE (Xk 7 0 0 0 cq [])):=by
 refine ay mf af ?_;refine cA ?_;open bi mV in exact az
theorem axs:Pure ai X G 31 [.aj 123 (.fp [.int .u8 0])] (TE (Xk 9 0 0 0 cq [])):=by
 refine ay mf af ?_;refine cA ?_;open bi mV in exact az
theorem axt:Pure ai X G 31 [.aj 208 (.fp [ab,ab])] (TE (Xk 25 0 0 0 cq [])):=by
 refine ay mf af ?_;refine cA ?_;open bi mV in exact az
theorem axu:Pure ai X G 31 [.aj 209 (.fp [ab])] (TE (Xk 26 0 0 0 cq [])):=by
 refine ay mf af ?_;refine cA ?_;open bi mV in exact az
theorem axv:Pure ai X G 31 [.aj 178 (.fp [.bool true])] (TE (Xd 2 0 0 0 0 (nb true) e0 cq e0 e0 e0 e0 e0)):=by
 have n1:=abd;have n0:=abe;have f1:fg true 1=1:=rfl;have f0:fg false 1=0:=rfl;refine ay mf af ?_;refine cA ?_;open bi sb mV in exact az
theorem axw:Pure ai X G 31 [.aj 178 (.fp [.bool false])] (TE (Xd 2 0 0 0 0 (nb false) e0 cq e0 e0 e0 e0 e0)):=by
 have n1:=abd;have n0:=abe;have f1:fg true 1=1:=rfl;have f0:fg false 1=0:=rfl;refine ay mf af ?_;refine cA ?_;open bi sb mV in exact az
theorem axx(nn:Nat):Pure ai X G 31 [.aj 182 (.fp [.bR .f64 nn])] (TE (Xd 3 0 0 0 0 nn e0 cq e0 e0 e0 e0 e0)):=by
 refine ay mf af ?_;refine cA ?_;open bi mV in exact az
theorem axy(tx:ByteArray):Pure ai X G 31 [.aj 188 (.fp [.str tx])] (TE (Xk 5 0 0 0 tx [])):=by
 refine ay mf af ?_;refine cA ?_;open bi mV in exact az
theorem axz(tx:ByteArray):Pure ai X G 31 [.aj 191 (.fp [.str tx])] (TE (Xk 6 0 0 0 tx [])):=by
 refine ay mf af ?_;refine cA ?_;open bi mV in exact az
theorem axA(n:Int)(hn:0<=n/\n<1000):Pure ai X G 31 [.aj 125 (.fp [.int .u32 0,.int .u32 n,b0,b0,b0])] (TE (Xd 8 0 n 0 0 0 e0 cq e0 e0 e0 e0 e0)):=by
 have hw:=wrap_i64 (n:=n) ad ad;have f0:∀k,fg false k=0:=fun k=>rfl
 have oo:=yA;refine ay mf af ?_;refine cA ?_;open bi sb mV in exact az
theorem axB{ar bd:PV}{r1 r2:Int}{b3:Bool}(la:fS ar 0)(lb:fS bd 0):Pure ai X G 31 [.aj 194 (.fp [.bF,ar,bd,ab,ab,.int .u32 r1,.int .u32 r2,ab,b0,b0,.bool b3,b0,b0,b0,b0])] (TE (Xd 21 0 0 0 0 0 e0 cq e0 e0 e0 oC e0)):=by
 obtain⟨Nv,Nw,la3⟩:=la;obtain⟨Ny,Nz,lb3⟩:=lb;refine ay mf af ?_;refine cA ?_;open bi L0 in exact az
theorem axE{ar bd:PV}{b3 b4:Bool}(la:fS ar 0)(lb:fS bd 0):Pure ai X G 31 [.aj 205 (.fp [ar,bd,ab,ab,b0,.bool b3,.bool b4,b0,b0])] (TE (Xd 22 0 0 0 0 0 e0 cq e0 e0 e0 oC e0)):=by
 obtain⟨Nv,Nw,la3⟩:=la;obtain⟨Ny,Nz,lb3⟩:=lb;refine ay mf af ?_;refine cA ?_;open bi L0 in exact az
end
end Go.Pi
end
section
open Go Go.Pi
namespace Go.Pi
variable{p q a:Prop}
section
variable{X:aS}{G:Nat->PV}
namespace abE
theorem fu(h:p:=by
 first
 |skip
  exact⟨af,by simpa using fun h:0∈gi v'=>absurd (g4 0 h) af,_,_,_,_,_,_,_,_,_,_,_,_,_,rfl,g2,rfl,rfl,rfl,rfl,rfl,XG (cd.sl (o6 g1 g3 BX) JD) nl nl nl nl rfl nl⟩;done
 |fail):p:=h
end abE
namespace abF
theorem bj(h:p:=by
 first
 |skip
  refine oz (A:=[16001,16006]) (ys:=[]) (r:=v) (zB) (hv.1.imp id (fun⟨xs,h,_⟩=>⟨xs,h⟩)) hv.2.1 (fun c hc=>QL) zy af ajf (fun v' H' fb bI hf fq hz=>?_);have um:=hZ bI;have hE:=fun(n:Nat) (fJ:al) (q0:fJ 16001=H' 16001) (q1:fJ 16006=H' 16006)=>(aX.dF (n:=n) (bI.frame (H':=fJ) pR))
  obtain⟨g1,g2,g3,g4⟩:=bI.gv;rw[List.nil_append]at g1 g2 g3;obtain⟨zz,rfl,mR⟩:=hz _ _ rfl;have e1:=hf 1 af
  replace e1:=aaD e1
  refine cA ?_;open abE dO GD in exact bu
  done
 |fail):p:=h
end abF
theorem axF(v:PV)(us:List (List PV))(hv:aB Un v)(e:ae v=us):Pure ai X G 31 [.aj 185 (.fp [v,ab,b0,b0,b0])] (TE (Xd 4 0 0 0 0 0 (.sl us) cq e0 e0 e0 e0 e0)):=by
 subst e;have cc:=hv.1;have cC:=hv.2.1;have jw:=cc.cells;have f0:∀k,fg false k=0:=fun k=>rfl
 refine ay mf af ?_;refine cA ?_;open abF bi sb in exact az
end
end Go.Pi
end
section
open Go Go.Pi
namespace Go.Pi
variable{p q a:Prop}
section
variable{X:aS}{G:Nat->PV}
theorem axG{m:Nat}(h:bQ X G m){k:PV}{dk:List PV}(bA:CE [k,ab] dk)(gz:aw k=true)(hm:∀y,y∈[dk]->SizeOf.sizeOf y<m):Pure ai X G 32 [.aj 129 (.fp [k,ab])] (TE (Xk 10 0 0 0 cq [dk])):=by
 obtain⟨uk,xk,ek⟩:=bA.ef;obtain rfl:k= .aj uk xk:=by injection ek
 have gB:aw xk=true:=jS;have h:Hid (bQ X G m):=h;have hm:Hid (∀y,y∈[dk]->SizeOf.sizeOf y<m):=hm;refine ay CU af ?_;refine cA ?_;open bi L1 uf in exact az
theorem orf(b1 b2:Bool)(h:b1=false\/b2=false):bits .or .i64 (fg b1 16) (fg b2 32)=fg b1 16+fg b2 32:=by
 cases b1<;>cases b2<;>first|decide|(rcases h with h|h<;>cases h)
theorem axI{m:Nat}(h:bQ X G m){k:PV}{dk:List PV}(bA:CE [k,ab] dk)(gz:aw k=true)(op:Int)(b1 b2:Bool)(ho:0<=op/\op<=10)(hb:b1=false\/b2=false)(hm:∀y,y∈[dk]->SizeOf.sizeOf y<m):Pure ai X G 32 [.aj 211 (.fp [k,ab,.int .u8 op,.bool b1,.bool b2])] (TE (Xk 13 op 0 (fg b1 16+fg b2 32) cq [dk])):=by
 obtain⟨uk,xk,ek⟩:=bA.ef;obtain rfl:k= .aj uk xk:=by injection ek
 have gB:aw xk=true:=jS;have hw:=wrap_i64 (n:=op) ad ad;have ho2:=orf b1 b2 hb;have h:Hid (bQ X G m):=h;have hm:Hid (∀y,y∈[dk]->SizeOf.sizeOf y<m):=hm;refine ay CU af ?_;refine cA ?_;open bi GF uf in exact az
namespace abG
theorem bw(h:p:=by
 first
 |exact alo
 |fail):p:=h
end abG
theorem axJ{m:Nat}(h:bQ X G m){k:PV}{dk:List PV}(bA:CE [k,ab] dk)(gz:aw k=true){l:PV}{dl:List PV}(jB:CE [l,ab] dl)(B5:aw l=true)(op:Int)(ho:11<=op/\op<=52)(hm:∀y,y∈[dk,dl]->SizeOf.sizeOf y<m):Pure ai X G 32 [.aj 215 (.fp [k,ab,l,ab,.int .u8 op,b0])] (TE (Xk 14 op 0 0 cq [dk,dl])):=by
 obtain⟨uk,xk,ek⟩:=bA.ef;obtain rfl:k= .aj uk xk:=by injection ek
 have gB:aw xk=true:=jS;obtain⟨ul,xl,el⟩:=jB.ef;obtain rfl:l= .aj ul xl:=by injection el
 have oW:aw xl=true:=JF;have hw:=wrap_i64 (n:=op) ad ad;have h:Hid (bQ X G m):=h;have hm:Hid (∀y,y∈[dk,dl]->SizeOf.sizeOf y<m):=hm;refine ay CU af ?_;refine cA ?_;open abG bi uf in exact az
namespace abH
theorem bw(h:p:=by
 first
 |(refine ka 75 bS (fun K hK=>?_);have hK:Hid _:=hK;refine cA ?_;refine kb (Aa (show bQ X G m from h) (axj bA jB HI gB oW pu) (show∀y,y∈[dk,dl,dp]->SizeOf.sizeOf y<m from hm) rfl rfl rfl rfl rfl rfl) (fun r hr=>(show∀r ids,_ from hK) _ _ ?_);clear hK;obtain⟨v1,rfl,cc,cN,bL⟩:=hr;have jY:=cc.cells;have jZ:=fun(n:Nat) (H:al)=>aH (n:=n) (H:=H) cN;refine cA ?_)<;>exact az
 |fail):p:=h
end abH
theorem axK{m:Nat}(h:bQ X G m){k:PV}{dk:List PV}(bA:CE [k,ab] dk)(gz:aw k=true){l:PV}{dl:List PV}(jB:CE [l,ab] dl)(B5:aw l=true){p:PV}{dp:List PV}(HI:CE [p,ab] dp)(mX:aw p=true)(hm:∀y,y∈[dk,dl,dp]->SizeOf.sizeOf y<m):Pure ai X G 32 [.aj 218 (.fp [k,ab,l,ab,p,ab])] (TE (Xk 15 0 0 0 cq [dk,dl,dp])):=by
 obtain⟨uk,xk,ek⟩:=bA.ef;obtain rfl:k= .aj uk xk:=by injection ek
 have gB:aw xk=true:=jS;obtain⟨ul,xl,el⟩:=jB.ef;obtain rfl:l= .aj ul xl:=by injection el
 have oW:aw xl=true:=JF;obtain⟨up,xp,ep⟩:=HI.ef;obtain rfl:p= .aj up xp:=by injection ep
 have pu:aw xp=true:=(by simpa[aw]using mX);have h:Hid (bQ X G m):=h;have hm:Hid (∀y,y∈[dk,dl,dp]->SizeOf.sizeOf y<m):=hm;refine ay CU af ?_;refine cA ?_;open abH bi uf in exact az
theorem axL{m:Nat}(h:bQ X G m){k:PV}{dk:List PV}(bA:CE [k,ab] dk)(gz:aw k=true)(tx:ByteArray)(ch:Int)(hc:0<=ch/\ch<=2)(hm:∀y,y∈[dk]->SizeOf.sizeOf y<m):Pure ai X G 33 [.aj 229 (.fp [k,ab,.str tx,ab,.int .u8 ch,b0,b0,b0])] (TE (Xk 16 0 ch 0 tx [dk])):=by
 obtain⟨uk,xk,ek⟩:=bA.ef;obtain rfl:k= .aj uk xk:=by injection ek
 have gB:aw xk=true:=jS;have lF:=wrap_i64 (n:=ch) ad ad;have f0:∀k,fg false k=0:=fun k=>rfl
 have oo:=yA;have h:Hid (bQ X G m):=h;have hm:Hid (∀y,y∈[dk]->SizeOf.sizeOf y<m):=hm;refine ay CV af ?_;refine cA ?_;open bi GF uf in exact az
namespace abI
theorem bw(h:p:=by
 first
 |exact SX
 |exact alo
 |fail):p:=h
end abI
theorem axM{m:Nat}(h:bQ X G m){k:PV}{dk:List PV}(bA:CE [k,ab] dk)(gz:aw k=true){l:PV}{dl:List PV}(jB:CE [l,ab] dl)(B5:aw l=true)(ch:Int)(hc:0<=ch/\ch<=2)(hm:∀y,y∈[dk,dl]->SizeOf.sizeOf y<m):Pure ai X G 33 [.aj 233 (.fp [k,ab,l,ab,ab,.int .u8 ch,b0,b0,b0])] (TE (Xk 17 0 ch 0 cq [dk,dl])):=by
 obtain⟨uk,xk,ek⟩:=bA.ef;obtain rfl:k= .aj uk xk:=by injection ek
 have gB:aw xk=true:=jS;obtain⟨ul,xl,el⟩:=jB.ef;obtain rfl:l= .aj ul xl:=by injection el
 have oW:aw xl=true:=JF;have lF:=wrap_i64 (n:=ch) ad ad;have f0:∀k,fg false k=0:=fun k=>rfl
 have oo:=yA;have h:Hid (bQ X G m):=h;have hm:Hid (∀y,y∈[dk,dl]->SizeOf.sizeOf y<m):=hm;refine ay CV af ?_;refine cA ?_;open abI bi uf in exact az
end
end Go.Pi
end
section
open Go Go.Pi
namespace Go.Pi
variable{p q a:Prop}
section
variable{X:aS}{G:Nat->PV}
theorem mi{u:Nat}{x:PV}(hd:aw x=true)(hu:u∉[176,177,178,182,185,188,191,193,125,123,194,205,208,209]):Pure ai X G 31 [.aj u x] TN:=by
 simp only[List.mem_cons,List.not_mem_nil,or_false,not_or]at hu;obtain⟨a0,a1,a2,a3,a4,a5,a6,a7,a8,a9,a10,a11,a12,a13⟩:=hu;have c0:decide (u=176)=false:=by simp[a0]
 have c1:decide (u=177)=false:=by simp[a1]
 have c2:decide (u=178)=false:=by simp[a2]
 have c3:decide (u=182)=false:=by simp[a3]
 have c4:decide (u=185)=false:=by simp[a4]
 have c5:decide (u=188)=false:=by simp[a5]
 have c6:decide (u=191)=false:=by simp[a6]
 have c7:decide (u=193)=false:=by simp[a7]
 have c8:decide (u=125)=false:=by simp[a8]
 have c9:decide (u=123)=false:=by simp[a9]
 have u6:decide (u=194)=false:=by simp[a10]
 have EH:decide (u=205)=false:=by simp[a11]
 have EI:decide (u=208)=false:=by simp[a12]
 have c13:decide (u=209)=false:=by simp[a13]
 refine ay mf af ?_;refine cA ?_;open bi Cz in exact az
theorem mY{u:Nat}{x:PV}(hd:aw x=true)(hu:u∉[129,211,215,218,221,226]):Pure ai X G 32 [.aj u x] TN:=by
 simp only[List.mem_cons,List.not_mem_nil,or_false,not_or]at hu;obtain⟨a0,a1,a2,a3,a4,a5⟩:=hu;have c0:decide (u=129)=false:=by simp[a0]
 have c1:decide (u=211)=false:=by simp[a1]
 have c2:decide (u=215)=false:=by simp[a2]
 have c3:decide (u=218)=false:=by simp[a3]
 have c4:decide (u=221)=false:=by simp[a4]
 have c5:decide (u=226)=false:=by simp[a5]
 refine ay CU af ?_;refine cA ?_;open bi Cz in exact az
theorem qg{u:Nat}{x:PV}(hd:aw x=true)(hu:u∉[229,233,236,240]):Pure ai X G 33 [.aj u x] TN:=by
 simp only[List.mem_cons,List.not_mem_nil,or_false,not_or]at hu;obtain⟨a0,a1,a2,a3⟩:=hu;have c0:decide (u=229)=false:=by simp[a0]
 have c1:decide (u=233)=false:=by simp[a1]
 have c2:decide (u=236)=false:=by simp[a2]
 have c3:decide (u=240)=false:=by simp[a3]
 refine ay CV af ?_;refine cA ?_;open bi Cz in exact az
theorem vY{u:Nat}{x:PV}(hd:aw x=true)(hu:u∉[133,143,245]):Pure ai X G 34 [.aj u x] TN:=by
 simp only[List.mem_cons,List.not_mem_nil,or_false,not_or]at hu;obtain⟨a0,a1,a2⟩:=hu;have c0:decide (u=133)=false:=by simp[a0]
 have c1:decide (u=143)=false:=by simp[a1]
 have c2:decide (u=245)=false:=by simp[a2]
 refine ay CW af ?_;refine cA ?_;open bi Cz in exact az
theorem axR{nm ar bd:PV}{r1 r2 n:Int}{b1 b2 b3:Bool}(dU:CN nm n)(rc:aQ ar)(pF:aw ar=true)(dG:aQ bd)(fD:aw bd=true)(hn:nm≠ .bF\/0<(ae ar).length\/0<(ae bd).length\/b1=true\/b2=true):Pure ai X G 31 [.aj 194 (.fp [nm,ar,bd,ab,ab,.int .u32 r1,.int .u32 r2,ab,.bool b1,.bool b2,.bool b3,b0,b0,b0,b0])] TN:=by
 have Nm:=rc.len;have Ed:=dG.len;have MP:=rc.cells;have On:=dG.cells;have B7:IntKind.i64.wrap (((ae ar).length:Int)+((ae bd).length:Int))=(((ae ar).length:Int)+((ae bd).length:Int)):=wrap_i64 ad ad;cases dU<;>cases b1<;>cases b2<;>simp only[ne_eq,not_true_eq_false,reduceCtorEq,not_false_eq_true,Bool.false_eq_true,or_false,false_or,or_true,true_or]at hn;all_goals
  refine ay mf af ?_;refine cA ?_;open L3 in exact az
theorem axS{ar bd:PV}{b1 b3 b4:Bool}(rc:aQ ar)(pF:aw ar=true)(dG:aQ bd)(fD:aw bd=true)(hn:0<(ae ar).length\/0<(ae bd).length\/b1=true):Pure ai X G 31 [.aj 205 (.fp [ar,bd,ab,ab,.bool b1,.bool b3,.bool b4,b0,b0])] TN:=by
 have Nm:=rc.len;have Ed:=dG.len;have MP:=rc.cells;have On:=dG.cells;have B7:IntKind.i64.wrap (((ae ar).length:Int)+((ae bd).length:Int))=(((ae ar).length:Int)+((ae bd).length:Int)):=wrap_i64 ad ad;cases b1<;>simp only[Bool.false_eq_true,or_false,or_true]at hn;all_goals
  refine ay mf af ?_;refine cA ?_;open L3 in exact az
end
end Go.Pi
end
section
open Go Go.Pi
namespace Go.Pi
variable{p q a:Prop}
section
variable{X:aS}{G:Nat->PV}
theorem alq{u:Nat}{x v w:PV}{d:List PV}{ds:List (List PV)}(h:CE [.aj u x,ab] d)(hw:br CE v ds)(h1:mA w)(h2:aw w=true)(h3:ae w=[.aj u x,ab]::ae v)(hb:ds.length+1<=1048576):br CE w (d::ds):=by
 have hn:=hw.1.2.2;refine br.of h1 h2 h3 (by simp only[List.length_cons];omega) ⟨by simp[hn],fun i a b ha hb=>?_⟩;cases i with
 |zero=>simp at ha hb;subst ha hb;exact h
 |succ i=>simp at ha hb;exact hw.2 i a b ha hb
namespace abJ
theorem bj(h:p:=by
 first
 |skip
  refine oz (A:=[10021,10026]) (ys:=[[.aj uk xk,ab]]) (r:=v) (zB) (ij.imp id (fun⟨xs,h,_⟩=>⟨xs,h⟩)) sI nT Q6 af QX (fun v' H' fb bI hf fq hz=>?_);have um:=hZ bI;have hE:=fun(n:Nat) (fJ:al) (q0:fJ 10021=H' 10021) (q1:fJ 10026=H' 10026)=>(aX.dF (n:=n) (bI.frame (H':=fJ) pR))
  obtain⟨g1,g2,g3,g4⟩:=bI.gv;rw[List.singleton_append]at g1 g2 g3;rw[List.singleton_append]at hE;obtain⟨zz,rfl,mR⟩:=hz _ _ rfl;have uU:∀(H0:al)(b:Nat),b<1000->(H0.drop (gi v')) b=H0 b:=fun H0 b hb=>by
   simp only[al.drop];rw[if_neg];intro h;have:=g4 _ h;simp at this;omega
  have en:=fun(H0:al)=>uU H0 2 aJ
  have cN:=fun(H0:al)=>uU H0 1 aJ
  have e1:=hf 1 af;have e2:=hf 2 af
  (try replace e1:=aaD e1);(try replace e2:=aaD e2)
  refine cA ?_;open dO L4 L5 in exact bu
  done
 |fail):p:=h
end abJ
theorem axT{m:Nat}(h:bQ X G m){k:PV}{dk:List PV}(bA:CE [k,ab] dk)(gz:aw k=true){v:PV}{ds:List (List PV)}(hw:br CE v ds)(hb:ds.length+1<=1048576)(op:Int)(ho:op=0\/op=2)(ch:Int)(hc:0<=ch/\ch<=2)(hm:∀y,y∈dk::ds->SizeOf.sizeOf y<m):Pure ai X G 33 [.aj 236 (.fp [k,ab,v,ab,.int .u8 ch,.int .u8 op,b0,b0])] (TE (Xk 18 op ch 0 cq (dk::ds))):=by
 obtain⟨uk,xk,ek⟩:=bA.ef;obtain rfl:k= .aj uk xk:=by injection ek
 have gB:aw xk=true:=jS;have lF:=wrap_i64 (n:=ch) ad ad;have lE:=wrap_i64 (n:=op) ad ad;have f0:∀k,fg false k=0:=fun k=>rfl
 have oo:=yA;have h:Hid (bQ X G m):=h;have hm:Hid (∀y,y∈dk::ds->SizeOf.sizeOf y<m):=hm;have ij:=hw.1.1;have sI:=hw.1.2.1;have oS:=ij.cells;have nT:∀c,c∈ae v->c.length=2:=fun c hc=>by
  obtain⟨i,hi,rfl⟩:=List.getElem_of_mem hc;obtain⟨e,_,he⟩:=hw.get' (i:=i) (c:=(ae v)[i]) (by simp[hi]);obtain⟨u,x,e⟩:=he.ef;rw[e];rfl
 refine ay CV af ?_;refine cA ?_;open abJ bi sb in exact az
namespace abK
theorem bj(h:p:=by
 first
 |skip
  refine oz (A:=[13011,13016]) (ys:=[[.aj uk xk,ab]]) (r:=v) (zB) (ij.imp id (fun⟨xs,h,_⟩=>⟨xs,h⟩)) sI nT Q6 af QX (fun v' H' fb bI hf fq hz=>?_);have um:=hZ bI;have hE:=fun(n:Nat) (fJ:al) (q0:fJ 13011=H' 13011) (q1:fJ 13016=H' 13016)=>(aX.dF (n:=n) (bI.frame (H':=fJ) pR))
  obtain⟨g1,g2,g3,g4⟩:=bI.gv;rw[List.singleton_append]at g1 g2 g3;rw[List.singleton_append]at hE;obtain⟨zz,rfl,mR⟩:=hz _ _ rfl;have uU:∀(H0:al)(b:Nat),b<1000->(H0.drop (gi v')) b=H0 b:=fun H0 b hb=>by
   simp only[al.drop];rw[if_neg];intro h;have:=g4 _ h;simp at this;omega
  have en:=fun(H0:al)=>uU H0 2 aJ
  have cN:=fun(H0:al)=>uU H0 1 aJ
  have e1:=hf 1 af;have e2:=hf 2 af
  (try replace e1:=aaD e1);(try replace e2:=aaD e2)
  refine cA ?_;open dO L4 L5 in exact bu
  done
 |fail):p:=h
end abK
theorem axU{m:Nat}(h:bQ X G m){k:PV}{dk:List PV}(bA:CE [k,ab] dk)(gz:aw k=true){v:PV}{ds:List (List PV)}(hw:br CE v ds)(hb:ds.length+1<=1048576)(hm:∀y,y∈dk::ds->SizeOf.sizeOf y<m):Pure ai X G 33 [.aj 240 (.fp [k,ab,v,ab,b0,b0])] (TE (Xk 19 0 0 0 cq (dk::ds))):=by
 obtain⟨uk,xk,ek⟩:=bA.ef;obtain rfl:k= .aj uk xk:=by injection ek
 have gB:aw xk=true:=jS;have f0:∀k,fg false k=0:=fun k=>rfl
 have oo:=yA;have h:Hid (bQ X G m):=h;have hm:Hid (∀y,y∈dk::ds->SizeOf.sizeOf y<m):=hm;have ij:=hw.1.1;have sI:=hw.1.2.1;have oS:=ij.cells;have nT:∀c,c∈ae v->c.length=2:=fun c hc=>by
  obtain⟨i,hi,rfl⟩:=List.getElem_of_mem hc;obtain⟨e,_,he⟩:=hw.get' (i:=i) (c:=(ae v)[i]) (by simp[hi]);obtain⟨u,x,e⟩:=he.ef;rw[e];rfl
 refine ay CV af ?_;refine cA ?_;open abK bi sb in exact az
namespace abL
theorem bw(h:p:=by
 first
 |(refine ka 75 bS (fun K hK=>?_);have hK:Hid _:=hK;refine cA ?_;refine kb (Aa (show bQ X G m from h) hw (show∀y,y∈ds->SizeOf.sizeOf y<m from hm) rfl rfl rfl rfl rfl rfl) (fun r hr=>(show∀r ids,_ from hK) _ _ ?_);clear hK;obtain⟨v1,rfl,cc,cN,bL⟩:=hr;have jY:=cc.cells;have jZ:=fun(n:Nat) (H:al)=>aH (n:=n) (H:=H) cN;refine cA ?_)<;>exact az
 |fail):p:=h
theorem bj(h:p:=by
 first
 |exact alB
 |fail):p:=h
end abL
theorem axV{m:Nat}(h:bQ X G m){v:PV}{ds:List (List PV)}(hw:br CE v ds)(hm:∀y,y∈ds->SizeOf.sizeOf y<m):Pure ai X G 34 [.aj 133 (.fp [v,ab,ab,b0,b0])] (TE (Xk 11 0 0 0 cq ds)):=by
 have h:Hid (bQ X G m):=h;have hm:Hid (∀y,y∈ds->SizeOf.sizeOf y<m):=hm;have ij:=hw.1.1;have sI:=hw.1.2.1;have oS:=ij.cells;refine ay CW af ?_;refine cA ?_;open abL bi in exact az
namespace abM
theorem cw(h:p:=by
 first
 |(refine r8 (P:=CP) (fun h=>zR) hw ad ad (fun c d hc gF jd jW=>?_);obtain⟨k,v,dk,dv,kind,fl,hk,hf,bA,fk,ht⟩:=hc;have eX:=gF;simp[aP,aw]at eX;obtain⟨q1,q2⟩:=eX;have cP:=wrap_i64 (n:=kind) ad ad;have dI:=wrap_i64 (n:=fl) ad ad;refine cA ?_)<;>exact bu
 |(refine aO (o7 (show bQ X G m from h) bA q1 (fun y hy=>Nat.lt_trans (cK (v:= .sl dk) af hy) ((show∀d,d∈ds->SizeOf.sizeOf d<m from hm) _ jd))) bS (cB) ?_;rintro _ ⟨v1,rfl,cc,cN,bL⟩;have jY:=cc.cells;have jZ:=fun(n:Nat) (H:al)=>aH (n:=n) (H:=H) cN;refine cA ?_)<;>exact bu
 |(refine aO (o7 (show bQ X G m from h) fk q2 (fun y hy=>Nat.lt_trans (cK (v:= .sl dv) af hy) ((show∀d,d∈ds->SizeOf.sizeOf d<m from hm) _ jd))) bS (cB) ?_;rintro _ ⟨v2,rfl,cC,en,aW⟩;have mc:=cC.cells;have nG:=fun(n:Nat) (H:al)=>aH (n:=n) (H:=H) en;refine cA ?_)<;>exact bu
 |fail):p:=h
theorem iZ(h:p:=by
 first
 |skip
  refine ik (A:=[11012]) (ys:=ys) (zs:=[[.int .i64 kind,.int .i64 fl,v1,v2]]) (ids:=[11011]) (cB) gy af af iA af fH (fun v' H' z' bI hf=>?_);clear hE hf;simp only[push];refine cA ?_;simp only[cG];refine cA ?_;have next:=nx
  unfold Hid at next
  have gM:=jW;simp only[Int.toNat_natCast]at gM;exact next (n - 1) ad _ ⟨i+1,_,ad,cB,cB,gK,lV,jR,aV.qX gM (.same rfl (.same rfl (.sl cc bL (.sl cC aW .nil))))⟩
  done
 |fail):p:=h
end abM
namespace abN
theorem bj(h:p:=by
 first
 |skip
  refine b5 (fun n s'=>∃(i:Nat)(ys:List (List PV)),i+n=(ae v0).length/\s'.t 11=v0/\s'.t 12= .int .i64 (ae v0).length/\s'.t 13= .int .i64 i/\aX [11012] s'.H 281 4 (s'.t 4) ys/\ys.length=i/\aK ys (ds.take i)) ?_ (n:=(ae v0).length)
   ⟨0,[],af,nB,nB,nB,aiL,rfl,kS⟩
  rintro n ⟨t,H,k⟩ ⟨i,ys,hi,cp,cI,cS,aY,eY,aV⟩ next
  simp only at cp cI cS aY;have hE:=fun(n:Nat) (H':al) (q1:H' 11012=H 11012)=>(aX.dF (n:=n) (aY.frame (H':=H') iY))
  obtain⟨g1,g2,g3,g4⟩:=aY.gv;refine nA (Kj cp (Kj cI cS)) ?_;have nx:Hid _:=next
  clear next
  open abM dO Ah kU in exact bu
  done
 |fail):p:=h
end abN
theorem axW{m:Nat}{v0:PV}{ds:List (List PV)}(h:bQ X G m)(hw:br CP v0 ds)(hm:∀d,d∈ds->SizeOf.sizeOf d<m):Pure ai X G 77 [v0] (TL ds):=by
 have hv:=hw.1.1;have eo:=hw.1.2.1;have o3:=hw.1.2.2.symm;have hB:=hv.len;have h:Hid (bQ X G m):=h;have hm:Hid (∀d,d∈ds->SizeOf.sizeOf d<m):=hm;refine ay T77 af ?_;refine nA hv ?_;open abN bi in exact az
namespace abO
theorem bw(h:p:=by
 first
 |(refine ka 77 (by intro b g r h;cases h;rcases ij with h|⟨_,h,_⟩<;>cases h) (fun K hK=>?_);have hK:Hid _:=hK;refine cA ?_;refine kb (axW (show bQ X G m from h) hw (show∀y,y∈ds->SizeOf.sizeOf y<m from hm)) (fun r hr=>(show∀r ids,_ from hK) _ _ ?_);clear hK;obtain⟨v1,rfl,cc,cN,bL⟩:=hr;have jY:=cc.cells;have jZ:=fun(n:Nat) (H:al)=>aH (n:=n) (H:=H) cN;refine cA ?_)<;>exact az
 |fail):p:=h
theorem bj(h:p:=by
 first
 |skip
  exact⟨_,_,_,_,_,_,_,_,_,_,_,_,_,rfl,rfl,rfl,cN,rfl,rfl,rfl,XG nl nl (cd.sl cc bL) nl nl rfl nl⟩;done
 |fail):p:=h
end abO
theorem axX{m:Nat}(h:bQ X G m){v:PV}{ds:List (List PV)}(hw:br CP v ds)(hm:∀y,y∈ds->SizeOf.sizeOf y<m):Pure ai X G 34 [.aj 143 (.fp [v,ab,ab,b0,b0])] (TE (Xd 12 0 0 0 0 0 e0 cq e0 (.sl ds) e0 e0 e0)):=by
 have h:Hid (bQ X G m):=h;have hm:Hid (∀y,y∈ds->SizeOf.sizeOf y<m):=hm;have ij:=hw.1.1;have sI:=hw.1.2.1;have oS:=ij.cells;refine ay CW af ?_;refine cA ?_;open abO bi in exact az
end
end Go.Pi
end
section
open Go Go.Pi
namespace Go.Pi
variable{p q a:Prop}
section
variable{X:aS}{G:Nat->PV}
theorem axY{H:al}{b:Nat}{l m:List Nat}:H.drop (l++m) b=(H.drop m).drop l b:=by
 simp only[al.drop,List.mem_append];by_cases h:b∈l<;>by_cases k:b∈m<;>simp[h,k]
theorem xI{v:PV}{n:Nat}{us:List (List PV)}(l:fS v n)(e:ae v=us)(h:pI (.sl us)):aB Un v:=⟨l.1,l.2.1,fun y hy=>h.2 y (by rw[e]at hy;exact hy)⟩
theorem aly{d1:List PV}{us:List (List PV)}{tx:ByteArray}(h:R.iV [.sl [d1],.sl us,.str tx]):pI (.sl us):=by cases h;assumption
namespace abP
theorem Ta(h:p:=by
 first
 |skip
  exact⟨by simp only[List.contains_eq_mem,decide_eq_false_iff_not,List.mem_append,not_or];exact⟨fun h=>absurd (k4 0 h) af,fun h=>absurd (g4 0 h) af⟩,_,_,_,_,_,_,_,_,_,_,_,_,_,rfl,k2,rfl,rfl,g2,rfl,rfl,XG (cd.sl (o6 k1 k3 BX) ajl) nl nl (cd.sl (o6 g1 g3 ad) rU) nl rfl nl⟩;done
 |fail):p:=h
end abP
namespace abQ
theorem rP(h:p:=by
 first
 |skip
  refine b5 (fun n s'=>∃(i:Nat)(pv:PV)(ys:List (List PV))(so:Nat),i+n=(ae w).length/\s'.t 8= .fp [.aF,ab,.str tx,v,w,ab,ab,b0,b0]/\s'.t 68=w/\s'.t 69= .int .i64 (ae w).length/\s'.t 70= .int .i64 i/\s'.t 9= .ptr 11023 so 0/\s'.t 2= .ptr 1 1 0/\s'.H 11023=some ⟨47,so,[.int .i64 20,.int .i64 0,.int .i64 0,.int .i64 0,.int .i64 0,.bR .f64 0,uw,.str tx,.ah,.ah,pv,.ah,.ah],0⟩/\s'.H 1=some ⟨47,1,[.int .i64 0,.int .i64 0,.int .i64 0,.int .i64 0,.int .i64 0,.bR .f64 0,.ah,.str (bs []),.ah,.ah,.ah,.ah,.ah],0⟩/\aX [11005,11010] s'.H 301 1 uw (ae v)/\aX [18012] s'.H 254 3 pv ys/\ys.length=i/\aK ys (qs.take i)) ?_ (n:=(ae w).length)
   ⟨0,_,[],_,af,nB,nB,nB,nB,nB,nB,nB,sA e1,ajj,aX.nil,rfl,kS⟩
  clear e1 bI hf fq hz;rintro n ⟨t,H,k⟩ ⟨i,pv,ys,so,hi,h8,DJ,DK,DL,h9,h2,e9,e1,vu,aY,eY,aV⟩ next
  simp only at h8 DJ DK DL h9 h2 e9 e1 vu aY;have S6:=fun(n:Nat) (H':al) (q0:H' 11005=H 11005) (q1:H' 11010=H 11010)=>(aX.dF (n:=n) (vu.frame (H':=H') pR))
  have S7:=fun(n:Nat) (H':al) (q1:H' 18012=H 18012)=>(aX.dF (n:=n) (aY.frame (H':=H') iY))
  have nj:=hZ aY;obtain⟨g1,g2,g3,g4⟩:=aY.gv;obtain⟨k1,k2,k3,k4⟩:=vu.gv;refine nA (Kj h8 (Kj DJ (Kj DK (Kj DL (Kj h9 (Kj h2 (Kj e9 e1))))))) ?_;have nx:Hid _:=next
  clear next
  open abP L6 L7 L8 L9 in exact KS
  done
 |fail):p:=h
end abQ
namespace abR
theorem fu(h:p:=by
 first
 |skip
  refine⟨Rk,?_⟩;open abQ xN in exact iX
  done
 |fail):p:=h
end abR
namespace abS
theorem bj(h:p:=by
 first
 |skip
  refine oz (A:=[11005,11010]) (ys:=[]) (r:=v) (zB) (cc.imp id (fun⟨xs,h,_⟩=>⟨xs,h⟩)) cC (fun c hc=>QL) zy af ajg (fun uw H' fb bI hf fq hz=>?_);have um:=hZ bI;rw[List.nil_append]at bI;obtain⟨zz,rfl,mR⟩:=hz _ _ rfl;have e1:=hf 1 af
  (try replace e1:=aaD e1)
  refine cA ?_;open abR dO GD in exact bu
  done
 |fail):p:=h
end abS
theorem axZ{m:Nat}(h:bQ X G m){v w:PV}{qs:List (List PV)}{tx:ByteArray}(hv:aB Un v)(hw:br CQ w qs)(hm:∀y,y∈qs->SizeOf.sizeOf y<m):Pure ai X G 34 [.aj 245 (.fp [.aF,ab,.str tx,v,w,ab,ab,b0,b0])] (TE (Xd 20 0 0 0 0 0 (.sl (ae v)) tx e0 e0 (.sl qs) e0 e0)):=by
 have cc:=hv.1;have cC:=hv.2.1;have jw:=cc.cells;have cP:=hw.1.1;have dI:=hw.1.2.1;have hw3:=hw.1.2.2.symm;have Dc:=cP.cells;have hBw:=cP.len;have f0:∀k,fg false k=0:=fun k=>rfl
 have oo:=yA;have h:Hid (bQ X G m):=h;have hm:Hid (∀y,y∈qs->SizeOf.sizeOf y<m):=hm;refine ay CW af ?_;refine cA ?_;open abS bi sb in exact az
namespace abT
theorem kA5(h:p:=by
 first
 |exact s7
 |exact kH
 |fail):p:=h
theorem kB5(h:p:=by
 first
 |(refine ka 75 bS (fun K hK=>?_);have hK:Hid _:=hK;refine cA ?_;refine kb (Aa (show bQ X G m from h) (vJ bA gB) (show∀y,y∈[dk]->SizeOf.sizeOf y<m from yH) k2 rfl g2 rfl rfl rfl) (fun r hr=>(show∀r ids,_ from hK) _ _ ?_);clear hK;obtain⟨v1,rfl,Ch,cN,bL⟩:=hr;have jY:=Ch.cells;have jZ:=fun(n:Nat) (H:al)=>aH (n:=n) (H:=H) cN;simp only[*,aa7,drop_nil,axY,go_sem,Nat.reduceEqDiff,Nat.reduceAdd,Nat.reduceLeDiff,Nat.reduceLT,Nat.reduceMul,Nat.reduceSub,reduceIte,reduceCtorEq,Int.reduceEq,Int.reduceLT,Int.reduceLE,Nat.reduceBEq,Int.reduceToNat,cV])<;>exact PS
 |fail):p:=h
theorem Qo(h:p:=by
 first
 |skip
  exact⟨_,_,_,_,_,_,_,_,_,_,_,_,_,rfl,k2,cN,rfl,g2,rfl,rfl,XG (cd.sl (o6 k1 k3 BX) ajl) (cd.sl Ch bL) nl (cd.sl (o6 g1 g3 ad) rU) nl rfl nl⟩;done
 |fail):p:=h
end abT
namespace abU
theorem Ta(h:p:=by
 first
 |skip
  have cN:∀(H0:al),(H0.drop (gi uw)) 1=H0 1:=fun H0=>by
   simp only[al.drop];rw[if_neg];intro h;have:=k4 _ h;simp at this
  have en:∀(H0:al),(H0.drop (gi pv)) 1=H0 1:=fun H0=>by
   simp only[al.drop];rw[if_neg];intro h;have:=g4 _ h;simp at this
  open abT in exact PS
  done
 |fail):p:=h
end abU
namespace abV
theorem rP(h:p:=by
 first
 |skip
  refine b5 (fun n s'=>∃(i:Nat)(pv:PV)(ys:List (List PV))(so:Nat),i+n=(ae w).length/\s'.t 8= .fp [.aj uk xk,ab,.str tx,v,w,ab,ab,b0,b0]/\s'.t 68=w/\s'.t 69= .int .i64 (ae w).length/\s'.t 70= .int .i64 i/\s'.t 9= .ptr 11023 so 0/\s'.t 2= .ptr 1 1 0/\s'.H 11023=some ⟨47,so,[.int .i64 20,.int .i64 0,.int .i64 0,.int .i64 0,.int .i64 0,.bR .f64 0,uw,.str tx,.ah,.ah,pv,.ah,.ah],0⟩/\s'.H 1=some ⟨47,1,[.int .i64 0,.int .i64 0,.int .i64 0,.int .i64 0,.int .i64 0,.bR .f64 0,.ah,.str (bs []),.ah,.ah,.ah,.ah,.ah],0⟩/\aX [11005,11010] s'.H 301 1 uw (ae v)/\aX [18012] s'.H 254 3 pv ys/\ys.length=i/\aK ys (qs.take i)) ?_ (n:=(ae w).length)
   ⟨0,_,[],_,af,nB,nB,nB,nB,nB,nB,nB,sA e1,ajj,aX.nil,rfl,kS⟩
  clear e1 bI hf fq hz;rintro n ⟨t,H,k⟩ ⟨i,pv,ys,so,hi,h8,DJ,DK,DL,h9,h2,e9,e1,vu,aY,eY,aV⟩ next
  simp only at h8 DJ DK DL h9 h2 e9 e1 vu aY;have S6:=fun(n:Nat) (H':al) (q0:H' 11005=H 11005) (q1:H' 11010=H 11010)=>(aX.dF (n:=n) (vu.frame (H':=H') pR))
  have S7:=fun(n:Nat) (H':al) (q1:H' 18012=H 18012)=>(aX.dF (n:=n) (aY.frame (H':=H') iY))
  have nj:=hZ aY;obtain⟨g1,g2,g3,g4⟩:=aY.gv;obtain⟨k1,k2,k3,k4⟩:=vu.gv;refine nA (Kj h8 (Kj DJ (Kj DK (Kj DL (Kj h9 (Kj h2 (Kj e9 e1))))))) ?_;have nx:Hid _:=next
  clear next
  open abU L6 L7 L8 L9 in exact KS
  done
 |fail):p:=h
end abV
namespace abW
theorem fu(h:p:=by
 first
 |skip
  refine⟨Rk,?_⟩;open abV xN in exact iX
  done
 |fail):p:=h
end abW
namespace abX
theorem bj(h:p:=by
 first
 |skip
  refine oz (A:=[11005,11010]) (ys:=[]) (r:=v) (zB) (cc.imp id (fun⟨xs,h,_⟩=>⟨xs,h⟩)) cC (fun c hc=>QL) zy af ajg (fun uw H' fb bI hf fq hz=>?_);have um:=hZ bI;rw[List.nil_append]at bI;obtain⟨zz,rfl,mR⟩:=hz _ _ rfl;have e1:=hf 1 af
  (try replace e1:=aaD e1)
  refine cA ?_;open abW dO GD in exact bu
  done
 |fail):p:=h
end abX
theorem ax2{m:Nat}(h:bQ X G m){k:PV}{dk:List PV}(bA:CE [k,ab] dk)(gz:aw k=true){v w:PV}{qs:List (List PV)}{tx:ByteArray}(hv:aB Un v)(hw:br CQ w qs)(hm:∀y,y∈qs->SizeOf.sizeOf y<m)(yH:∀y,y∈[dk]->SizeOf.sizeOf y<m):Pure ai X G 34 [.aj 245 (.fp [k,ab,.str tx,v,w,ab,ab,b0,b0])] (TE (Xd 20 0 0 0 0 0 (.sl (ae v)) tx (.sl [dk]) e0 (.sl qs) e0 e0)):=by
 obtain⟨uk,xk,ek⟩:=bA.ef;obtain rfl:k= .aj uk xk:=by injection ek
 have gB:aw xk=true:=jS;have cc:=hv.1;have cC:=hv.2.1;have jw:=cc.cells;have cP:=hw.1.1;have dI:=hw.1.2.1;have hw3:=hw.1.2.2.symm;have Dc:=cP.cells;have hBw:=cP.len;have f0:∀k,fg false k=0:=fun k=>rfl
 have oo:=yA;have h:Hid (bQ X G m):=h;have hm:Hid (∀y,y∈qs->SizeOf.sizeOf y<m):=hm;have yH:Hid (∀y,y∈[dk]->SizeOf.sizeOf y<m):=yH;refine ay CW af ?_;refine cA ?_;open abX bi sb in exact az
end
end Go.Pi
end
section
open Go Go.Pi
namespace Go.Pi
variable{p q a:Prop}
section
variable{X:aS}{G:Nat->PV}
def TB(d:List PV)(r:PV):Prop:=∃(K n:Int)(it:PV)(b:Bool),r= .bZ [.agg [.int .i64 K,.int .i64 n,it,.bool b],.bool true]/\aQ it/\aw it=true/\dE [.int .i64 K,.int .i64 n,it,.bool b] d
def TF(d:List PV)(r:PV):Prop:=∃(n f:Int)(ar bd:PV),r= .bZ [.agg [.int .i64 n,.int .i64 f,ar,bd],.bool true]/\aw ar=true/\aw bd=true/\dE [.int .i64 n,.int .i64 f,ar,bd] d
def TC(d:List PV)(r:PV):Prop:=∃(n:Int)(ex ms:PV),r= .bZ [.agg [.int .i64 n,ex,ms],.bool true]/\aw ex=true/\aw ms=true/\dE [.int .i64 n,ex,ms] d
abbrev fE(X:aS)(G:Nat->PV)(m:Nat):Prop:=∀{k:PV}{d:List PV},CB [k,ab] d->aw k=true->SizeOf.sizeOf d<m->Pure ai X G 118 [.agg [k,ab]] (TB d)
abbrev cJ(X:aS)(G:Nat->PV)(m:Nat):Prop:=∀{w:PV}{ds:List (List PV)},br CS w ds->(∀d,d∈ds->SizeOf.sizeOf d<m)->Pure ai X G 19 [w] (TL ds)
theorem Td{nm:PV}{n:Int}(h:CN nm n):Pure ai X G 117 [nm] (fun r=>r= .int .i64 n):=by
 cases h with
 |none=>
  refine ay TD af ?_;refine zA ?_;open bi Gz in exact az
 |some n h=>
  have hw:=wrap_i64 (n:=n) ad ad;refine ay TD af ?_;refine nA hw ?_;open bi Gz in exact az
theorem abY(b1 b2 b3:Bool):bits .or .i64 (bits .or .i64 (fg b1 1) (fg b2 2)) (fg b3 4)=fg b1 1+fg b2 2+fg b3 4:=by
 cases b1<;>cases b2<;>cases b3<;>decide
theorem ax3(b1 b2 b3:Bool):bits .or .i64 (bits .or .i64 (fg b1 1+fg b2 2+fg b3 4) 0) 0=fg b1 1+fg b2 2+fg b3 4:=by
 cases b1<;>cases b2<;>cases b3<;>decide
theorem ax4(b1 b2 b3:Bool):bits .or .i64 (bits .or .i64 (bits .or .i64 (fg b1 1) (fg b2 4)) (fg b3 8)) 0=fg b1 1+fg b2 4+fg b3 8:=by
 cases b1<;>cases b2<;>cases b3<;>decide
theorem abZ{a b c d0 d1 d2 d3:PV}:SizeOf.sizeOf [d0,d1,d2,d3]<SizeOf.sizeOf (a::b::c::[d0,d1,d2,d3]):=by
 simp only[List.cons.sizeOf_spec,List.nil.sizeOf_spec];omega
theorem KV{e d0 d1 d2 d3:PV}:SizeOf.sizeOf [d0,d1,d2,d3]<SizeOf.sizeOf [d0,d1,d2,d3,e]:=by
 have:1<=SizeOf.sizeOf e:=by cases e<;>simp<;>omega
 simp only[List.cons.sizeOf_spec,List.nil.sizeOf_spec];omega
namespace ab0
theorem cw(h:p:=by
 first
 |(refine r8 (P:=CI) (fun h=>Fg) hw ad ad (fun c d hc gF jd jW=>?_);obtain⟨k2,v2,d0,d1,d2,d3,dv,bA,fk,AJ⟩:=hc;have eX:=gF;simp[aP,aw]at eX;obtain⟨q1,q2⟩:=eX;refine cA ?_)<;>exact bu
 |(refine aO ((show fE X G m from cU) bA q1 (Nat.lt_trans abZ ((show∀d,d∈ds->SizeOf.sizeOf d<m from hm) _ jd))) bS (cB) ?_;rintro _ ⟨K1,n1,vL,vM,rfl,iH,e1,bL⟩;have dt:=fun(n:Nat) (H:al)=>aH (n:=n) (H:=H) e1;have Ge:=iH.cells;refine cA ?_)<;>exact bu
 |exact Tb
 |fail):p:=h
theorem iZ(h:p:=by
 first
 |skip
  refine ik (A:=[18007]) (ys:=ys) (zs:=[[.int .i64 0,.ah,v3,.int .i64 K1,.int .i64 n1,vL,.bool vM]]) (ids:=[18006]) (cB) gy af af iA af fH (fun v' H' z' bI hf=>?_);have f2:=hf 2 af af;have f7:=hf 10006 af af
  (try replace f2:=aaA (Kj e2 e7) f2);(try replace f7:=aaA (Kj e2 e7) f7)
  have ND:=hZ bI;clear hE hf;simp only[push];refine cA ?_;simp only[cG];refine cA ?_;have gM:=jW;simp only[Int.toNat_natCast]at gM;have next:=nx
  unfold Hid at next
  exact next (n - 1) ad _ ⟨i+1,v',_,so,ad,cB,cB,cB,cB,gK,cB,cB,bI.frame pU,jR,aV.qX gM (.same rfl (.cons nl rfl (.cons (cd.sl mU lX) rfl bL)))⟩
  done
 |fail):p:=h
end ab0
namespace ab1
theorem bj(h:p:=by
 first
 |skip
  refine b5 (fun n s'=>∃(i:Nat)(pv:PV)(ys:List (List PV))(so:Nat),i+n=(ae v).length/\s'.t 2= .ptr 2 2 0/\s'.t 7= .ptr 10006 so 0/\s'.t 51=v/\s'.t 52= .int .i64 (ae v).length/\s'.t 53= .int .i64 i/\
   s'.H 2=some ⟨37,2,[.int .i64 0,.int .i64 0,.ah,.bool false],0⟩/\s'.H 10006=some ⟨37,so,[.int .i64 2,.int .i64 0,pv,.bool b],0⟩/\aX [18007] s'.H 110 7 pv ys/\ys.length=i/\aK ys (ds.take i)) ?_ (n:=(ae v).length)
   ⟨0,_,[],_,af,nB,nB,nB,nB,nB,nB,nB,aX.nil,rfl,kS⟩
  rintro n ⟨t,H,k⟩ ⟨i,pv,ys,so,hi,h2,h4,gD,jg,l6,e2,e7,aY,eY,aV⟩ next
  simp only at h2 h4 gD jg l6 e2 e7 aY;have hE:=fun(n:Nat) (H':al) (q1:H' 18007=H 18007)=>(aX.dF (n:=n) (aY.frame (H':=H') iY))
  have nj:=hZ aY;obtain⟨g1,g2,g3,g4⟩:=aY.gv;refine nA (Kj h2 (Kj h4 (Kj gD (Kj jg (Kj l6 (Kj e2 e7)))))) ?_;have nx:Hid _:=next
  clear next
  open ab0 dO Ma kU in exact bu
  done
 |fail):p:=h
end ab1
theorem ax5{m:Nat}(h:bQ X G m)(cU:fE X G m){v:PV}{ds:List (List PV)}(b:Bool)(hw:br CI v ds)(hm:∀d,d∈ds->SizeOf.sizeOf d<m):Pure ai X G 118 [.agg [.aj 105 (.fp [v,ab,.bool b,b0]),ab]] (TB [.int .i64 2,.int .i64 0,.sl ds,.bool b]):=by
 have ij:=hw.1.1;have sI:=hw.1.2.1;have nT:=hw.1.2.2.symm;have oS:=ij.cells;have hB:=ij.len;have h:Hid (bQ X G m):=h;have cU:Hid (fE X G m):=cU;have hm:Hid (∀d,d∈ds->SizeOf.sizeOf d<m):=hm;refine ay GR af ?_;refine cA ?_;open ab1 bi in exact az
namespace ab2
theorem cw(h:p:=by
 first
 |exact alm
 |(refine r8 (P:=CJ) (fun h=>Fg) hw ad ad (fun c d hc gF jd jW=>?_);obtain⟨k2,l2,v2,d0,d1,d2,d3,dl,dv,c1,c2,c3,bA,jB,fk,AJ⟩:=hc;have oo:=abY c1 c2 c3;have eX:=gF;simp[aP,aw]at eX;obtain⟨q1,q2,q3⟩:=eX;refine cA ?_)<;>exact bu
 |(refine aO ((show fE X G m from cU) bA q2 (Nat.lt_trans abZ ((show∀d,d∈ds->SizeOf.sizeOf d<m from hm) _ jd))) bS (cB) ?_;rintro _ ⟨K1,n1,vL,vM,rfl,iH,e1,bL⟩;have dt:=fun(n:Nat) (H:al)=>aH (n:=n) (H:=H) e1;have Ge:=iH.cells;refine cA ?_)<;>exact bu
 |(refine aO (o7 (show bQ X G m from h) fk q3 (fun y hy=>Nat.lt_trans (cK (v:= .sl dv) af hy) ((show∀d,d∈ds->SizeOf.sizeOf d<m from hm) _ jd))) bS (cB) ?_;rintro _ ⟨v3,rfl,mU,o9,lX⟩;have Cj:=mU.cells;have Gd:=fun(n:Nat) (H:al)=>aH (n:=n) (H:=H) o9;refine cA ?_)<;>exact bu
 |(refine aO (o7 (show bQ X G m from h) jB q1 (fun y hy=>Nat.lt_trans (cK (v:= .sl dl) af hy) ((show∀d,d∈ds->SizeOf.sizeOf d<m from hm) _ jd))) bS (cB) ?_;rintro _ ⟨v4,rfl,vZ,vV,rb⟩;have ab3:=vZ.cells;have ab4:=fun(n:Nat) (H:al)=>aH (n:=n) (H:=H) vV;refine cA ?_)<;>exact bu
 |fail):p:=h
theorem iZ(h:p:=by
 first
 |skip
  refine ik (A:=[32019]) (ys:=ys) (zs:=[[.int .i64 (fg c1 1+fg c2 2+fg c3 4),v4,v3,.int .i64 K1,.int .i64 n1,vL,.bool vM]]) (ids:=[32018]) (cB) gy af af iA af fH (fun v' H' z' bI hf=>?_);have f2:=hf 2 af af;have f7:=hf 23002 af af
  (try replace f2:=aaA (Kj e2 e7) f2);(try replace f7:=aaA (Kj e2 e7) f7)
  have ND:=hZ bI;clear hE hf;simp only[push];refine cA ?_;simp only[cG];refine cA ?_;have gM:=jW;simp only[Int.toNat_natCast]at gM;have next:=nx
  unfold Hid at next
  exact next (n - 1) ad _ ⟨i+1,v',_,so,ad,cB,cB,cB,cB,gK,cB,cB,bI.frame pU,jR,aV.qX gM (.same rfl (.cons (cd.sl vZ rb) rfl (.cons (cd.sl mU lX) rfl bL)))⟩
  done
 |fail):p:=h
end ab2
namespace ab5
theorem bj(h:p:=by
 first
 |skip
  refine b5 (fun n s'=>∃(i:Nat)(pv:PV)(ys:List (List PV))(so:Nat),i+n=(ae v).length/\s'.t 2= .ptr 2 2 0/\s'.t 15= .ptr 23002 so 0/\s'.t 93=v/\s'.t 94= .int .i64 (ae v).length/\s'.t 95= .int .i64 i/\
   s'.H 2=some ⟨37,2,[.int .i64 0,.int .i64 0,.ah,.bool false],0⟩/\s'.H 23002=some ⟨37,so,[.int .i64 3,.int .i64 0,pv,.bool false],0⟩/\aX [32019] s'.H 110 7 pv ys/\ys.length=i/\aK ys (ds.take i)) ?_ (n:=(ae v).length)
   ⟨0,_,[],_,af,nB,nB,nB,nB,nB,nB,nB,aX.nil,rfl,kS⟩
  rintro n ⟨t,H,k⟩ ⟨i,pv,ys,so,hi,h2,h4,gD,jg,l6,e2,e7,aY,eY,aV⟩ next
  simp only at h2 h4 gD jg l6 e2 e7 aY;have hE:=fun(n:Nat) (H':al) (q1:H' 32019=H 32019)=>(aX.dF (n:=n) (aY.frame (H':=H') iY))
  have nj:=hZ aY;obtain⟨g1,g2,g3,g4⟩:=aY.gv;refine nA (Kj h2 (Kj h4 (Kj gD (Kj jg (Kj l6 (Kj e2 e7)))))) ?_;have nx:Hid _:=next
  clear next
  open ab2 dO Ma kU in exact bu
  done
 |fail):p:=h
end ab5
theorem ax6{m:Nat}(h:bQ X G m)(cU:fE X G m){v:PV}{ds:List (List PV)}(hw:br CJ v ds)(hm:∀d,d∈ds->SizeOf.sizeOf d<m):Pure ai X G 118 [.agg [.aj 115 (.fp [v,ab,b0]),ab]] (TB [.int .i64 3,.int .i64 0,.sl ds,.bool false]):=by
 have ij:=hw.1.1;have sI:=hw.1.2.1;have nT:=hw.1.2.2.symm;have oS:=ij.cells;have hB:=ij.len;have h:Hid (bQ X G m):=h;have cU:Hid (fE X G m):=cU;have hm:Hid (∀d,d∈ds->SizeOf.sizeOf d<m):=hm;refine ay GR af ?_;refine cA ?_;open ab5 bi in exact az
end
end Go.Pi
end
section
open Go Go.Pi
namespace Go.Pi
variable{p q a:Prop}
section
variable{X:aS}{G:Nat->PV}
namespace ab6
theorem cw(h:p:=by
 first
 |(refine r8 (P:=CA) (fun h=>Fg) hw ad ad (fun c d hc gF jd jW=>?_);obtain⟨k,v,d0,d1,d2,d3,dv,bA,fk,AJ⟩:=hc;have eX:=gF;simp[aP,aw]at eX;obtain⟨q1,q2⟩:=eX;refine cA ?_)<;>exact bu
 |exact Te
 |exact Tb
 |fail):p:=h
theorem iZ(h:p:=by
 first
 |skip
  refine ik (A:=[9006]) (ys:=ys) (zs:=[[.int .i64 K1,.int .i64 n1,vL,.bool vM,v3]]) (ids:=[9005]) (cB) gy af af iA af fH (fun v' H' z' bI hf=>?_);clear hE hf;simp only[push];refine cA ?_;simp only[cG];refine cA ?_;have next:=nx
  unfold Hid at next
  have gM:=jW;simp only[Int.toNat_natCast]at gM;exact next (n - 1) ad _ ⟨i+1,_,ad,cB,cB,gK,lV,jR,aV.qX gM (dE.append bL (.cons (cd.sl mU lX) rfl .nil))⟩
  done
 |fail):p:=h
end ab6
namespace ab7
theorem bj(h:p:=by
 first
 |skip
  refine b5 (fun n s'=>∃(i:Nat)(ys:List (List PV)),i+n=(ae v0).length/\s'.t 11=v0/\s'.t 12= .int .i64 (ae v0).length/\s'.t 13= .int .i64 i/\aX [9006] s'.H 292 5 (s'.t 4) ys/\ys.length=i/\aK ys (ds.take i)) ?_ (n:=(ae v0).length)
   ⟨0,[],af,nB,nB,nB,aiL,rfl,kS⟩
  rintro n ⟨t,H,k⟩ ⟨i,ys,hi,cp,cI,cS,aY,eY,aV⟩ next
  simp only at cp cI cS aY;have hE:=fun(n:Nat) (H':al) (q1:H' 9006=H 9006)=>(aX.dF (n:=n) (aY.frame (H':=H') iY))
  obtain⟨g1,g2,g3,g4⟩:=aY.gv;refine nA (Kj cp (Kj cI cS)) ?_;have nx:Hid _:=next
  clear next
  open ab6 dO Ah kU in exact bu
  done
 |fail):p:=h
end ab7
theorem targs{m:Nat}{v0:PV}{ds:List (List PV)}(h:bQ X G m)(cU:fE X G m)(hw:br CA v0 ds)(hm:∀d,d∈ds->SizeOf.sizeOf d<m):Pure ai X G 126 [v0] (TL ds):=by
 have hv:=hw.1.1;have eo:=hw.1.2.1;have o3:=hw.1.2.2.symm;have hB:=hv.len;have h:Hid (bQ X G m):=h;have cU:Hid (fE X G m):=cU;have hm:Hid (∀d,d∈ds->SizeOf.sizeOf d<m):=hm;refine ay apf af ?_;refine nA hv ?_;open ab7 bi in exact az
namespace ab8
theorem rO(h:p:=by
 first
 |(refine aO (o7 (show bQ X G m from h) bA q1 (fun y hy=>Nat.lt_trans (cK (v:= .sl dk) af hy) ((show∀d,d∈ds->SizeOf.sizeOf d<m from hm) _ jd))) bS (cB) ?_;rintro _ ⟨v1,rfl,cc,cN,bL⟩;have jY:=cc.cells;have jZ:=fun(n:Nat) (H:al)=>aH (n:=n) (H:=H) cN;refine cA ?_)<;>exact iX
 |(refine aO (o7 (show bQ X G m from h) fk q2 (fun y hy=>Nat.lt_trans (cK (v:= .sl dv) af hy) ((show∀d,d∈ds->SizeOf.sizeOf d<m from hm) _ jd))) bS (cB) ?_;rintro _ ⟨v2,rfl,cC,en,aW⟩;have mc:=cC.cells;have nG:=fun(n:Nat) (H:al)=>aH (n:=n) (H:=H) en;refine cA ?_)<;>exact iX
 |(refine aO (o7 (show bQ X G m from h) Mv q3 (fun y hy=>Nat.lt_trans (cK (v:= .sl dp) af hy) ((show∀d,d∈ds->SizeOf.sizeOf d<m from hm) _ jd))) bS (cB) ?_;rintro _ ⟨v3,rfl,mU,o9,lX⟩;have Cj:=mU.cells;have Gd:=fun(n:Nat) (H:al)=>aH (n:=n) (H:=H) o9;refine cA ?_)<;>exact iX
 |fail):p:=h
theorem rP(h:p:=by
 first
 |skip
  refine ik (A:=[16004]) (ys:=ys) (zs:=[[.int .i64 kind,.int .i64 fl,v1,v2,v3,.ah]]) (ids:=[16003]) (cB) gy af af iA af fH (fun v' H' z' bI hf=>?_);clear hE hf;simp only[push];refine cA ?_;simp only[cG];refine cA ?_;have next:=nx
  unfold Hid at next
  have gM:=jW;simp only[Int.toNat_natCast]at gM;exact next (n - 1) ad _ ⟨i+1,_,ad,cB,cB,gK,lV,jR,aV.qX gM (.same rfl (.same rfl (.sl cc bL (.sl cC aW (.sl mU lX (.cons nl rfl .nil))))))⟩
  done
 |fail):p:=h
end ab8
namespace ab9
theorem rO(h:p:=by
 first
 |(refine aO (o7 (show bQ X G m from h) z1 rfl (fun y hy=>by cases hy)) bS (cB) ?_;clear z1;rintro _ ⟨v1,rfl,cc,cN,bL⟩;have jY:=cc.cells;have jZ:=fun(n:Nat) (H:al)=>aH (n:=n) (H:=H) cN;refine cA ?_)<;>exact iX
 |(refine aO (o7 (show bQ X G m from h) z2 rfl (fun y hy=>by cases hy)) bS (cB) ?_;clear z2;rintro _ ⟨v2,rfl,cC,en,aW⟩;have mc:=cC.cells;have nG:=fun(n:Nat) (H:al)=>aH (n:=n) (H:=H) en;refine cA ?_)<;>exact iX
 |(refine aO (o7 (show bQ X G m from h) z3 rfl (fun y hy=>by cases hy)) bS (cB) ?_;clear z3;rintro _ ⟨v3,rfl,mU,o9,lX⟩;have Cj:=mU.cells;have Gd:=fun(n:Nat) (H:al)=>aH (n:=n) (H:=H) o9;refine cA ?_)<;>exact iX
 |(refine aO ((show cJ X G m from bG) B6 (fun y hy=>Nat.lt_trans (cK (v:= .sl ss) af hy) ((show∀d,d∈ds->SizeOf.sizeOf d<m from hm) _ jd))) Q0 (cB) ?_;rintro _ ⟨v4,rfl,vZ,vV,rb⟩;have ab3:=vZ.cells;have ab4:=fun(n:Nat) (H:al)=>aH (n:=n) (H:=H) vV;refine cA ?_)<;>exact iX
 |fail):p:=h
theorem rP(h:p:=by
 first
 |skip
  refine ik (A:=[16004]) (ys:=ys) (zs:=[[.int .i64 6,.int .i64 fl,v1,v2,v3,v4]]) (ids:=[16003]) (cB) gy af af iA af fH (fun v' H' z' bI hf=>?_);clear hE hf;simp only[push];refine cA ?_;simp only[cG];refine cA ?_;have next:=nx
  unfold Hid at next
  have gM:=jW;simp only[Int.toNat_natCast]at gM;exact next (n - 1) ad _ ⟨i+1,_,ad,cB,cB,gK,lV,jR,aV.qX gM (.same rfl (.same rfl (.sl cc bL (.sl cC aW (.sl mU lX (.sl vZ rb .nil))))))⟩
  done
 |fail):p:=h
end ab9
namespace aca
theorem cw(h:p:=by
 first
 |(refine r8 (P:=CM) (fun h=>zR) hw ad ad (fun c d hc gF jd jW=>?_))<;>exact bu
 |fail):p:=h
theorem iZ(h:p:=by
 first
 |skip
  cases hc with
  |mk k v p dk dv dp kind fl hk hf bA fk Mv AJ=>
   have eX:=gF;simp[aP,aw]at eX;obtain⟨q1,q2,q3⟩:=eX;have cP:=wrap_i64 (n:=kind) ad ad;have dI:=wrap_i64 (n:=fl) ad ad;refine cA ?_;open ab8 xN in exact iX
  |block bd ss kind fl hf gO l5 AJ=>
   have B6:br CS bd ss:=⟨gO,l5⟩;have yI:=gO.1;have NE:=gO.2.1;have mJ:=yI.cells;have dI:=wrap_i64 (n:=fl) ad ad;have z1:CO [.aF,ab] []:= .none;have z2:CO [.aF,ab] []:= .none;have z3:CO [.aF,ab] []:= .none;refine cA ?_;open ab9 xN in exact iX
  done
 |fail):p:=h
end aca
namespace acb
theorem bj(h:p:=by
 first
 |skip
  refine b5 (fun n s'=>∃(i:Nat)(ys:List (List PV)),i+n=(ae v0).length/\s'.t 16=v0/\s'.t 17= .int .i64 (ae v0).length/\s'.t 18= .int .i64 i/\aX [16004] s'.H 294 6 (s'.t 4) ys/\ys.length=i/\aK ys (ds.take i)) ?_ (n:=(ae v0).length)
   ⟨0,[],af,nB,nB,nB,aiL,rfl,kS⟩
  rintro n ⟨t,H,k⟩ ⟨i,ys,hi,cp,cI,cS,aY,eY,aV⟩ next
  simp only at cp cI cS aY;have hE:=fun(n:Nat) (H':al) (q1:H' 16004=H 16004)=>(aX.dF (n:=n) (aY.frame (H':=H') iY))
  obtain⟨g1,g2,g3,g4⟩:=aY.gv;refine nA (Kj cp (Kj cI cS)) ?_;have nx:Hid _:=next
  clear next
  open aca dO Ah kU in exact bu
  done
 |fail):p:=h
end acb
theorem ax7{m:Nat}{v0:PV}{ds:List (List PV)}(h:bQ X G m)(bG:cJ X G m)(hw:br CM v0 ds)(hm:∀d,d∈ds->SizeOf.sizeOf d<m):Pure ai X G 125 [v0] (TL ds):=by
 have hv:=hw.1.1;have eo:=hw.1.2.1;have o3:=hw.1.2.2.symm;have hB:=hv.len;have h:Hid (bQ X G m):=h;have bG:Hid (cJ X G m):=bG;have hm:Hid (∀d,d∈ds->SizeOf.sizeOf d<m):=hm;refine ay ape af ?_;refine nA hv ?_;open acb bi in exact az
namespace acd
theorem bw(h:p:=by
 first
 |(refine aO (Td dU) (by intro b g r h;cases dU<;>cases h) (cB) ?_;rintro _ rfl;refine cA ?_)<;>exact az
 |(refine aO (o7 (show bQ X G m from h) bA dk_ (show∀y,y∈dk->SizeOf.sizeOf y<m from r7)) bS (cB) ?_;rintro _ ⟨v1,rfl,cc,cN,bL⟩;have jY:=cc.cells;have jZ:=fun(n:Nat) (H:al)=>aH (n:=n) (H:=H) cN;refine cA ?_)<;>exact az
 |(refine aO (ax7 (show bQ X G m from h) (show cJ X G m from bG) hw (show∀y,y∈ds->SizeOf.sizeOf y<m from vC)) (by intro b g r h;cases h;rcases hw.1.1 with h|⟨_,h,_⟩<;>cases h) (cB) ?_;rintro _ ⟨v2,rfl,cC,en,aW⟩;have mc:=cC.cells;have nG:=fun(n:Nat) (H:al)=>aH (n:=n) (H:=H) en;refine cA ?_)<;>exact az
 |fail):p:=h
theorem bj(h:p:=by
 first
 |skip
  all_goals exact⟨_,_,_,rfl,cN,en,.same rfl (.sl cc bL (.sl cC aW .nil))⟩
  done
 |fail):p:=h
end acd
theorem alG{m:Nat}(h:bQ X G m)(bG:cJ X G m){nm k v:PV}{d:List PV}(hc:CC [.ah,nm,k,ab,v,ab,ab,ab,ab,b0,.bool true] d)(dnm:aw nm=true)(dk_:aw k=true)(dv_:aw v=true)(hm:SizeOf.sizeOf d<=m):Pure ai X G 79 [.agg [.ah,nm,k,ab,v,ab,ab,ab,ab,b0,.bool true]] (TC d):=by
 cases hc with
 |mk _ _ _ n dk ds dU bA fF fk ht=>
  have hw:br CM v ds:=⟨fF,fk⟩;have ij:=fF.1;have oS:=ij.cells;have Cf:cellsOf nm=some [nm]:=by cases dU<;>rfl
  have h:Hid (bQ X G m):=h;have bG:Hid (cJ X G m):=bG;have r7:Hid (∀y,y∈dk->SizeOf.sizeOf y<m):=fun y hy=>Nat.lt_of_lt_of_le (cK (v:= .sl dk) af hy) hm
  have vC:Hid (∀y,y∈ds->SizeOf.sizeOf y<m):=fun y hy=>Nat.lt_of_lt_of_le (cK (v:= .sl ds) af hy) hm
  refine ay T79 af ?_;refine cA ?_;open acd bi in exact az
namespace ace
theorem bw(h:p:=by
 first
 |exact SX
 |exact Tf
 |exact Tg
 |exact Th
 |fail):p:=h
theorem bj(h:p:=by
 first
 |skip
  all_goals exact⟨_,_,_,_,rfl,cN,en,.same rfl (.same rfl (.sl cc bL (.sl cC aW .nil)))⟩
  done
 |fail):p:=h
end ace
theorem tfn{m:Nat}(h:bQ X G m)(cU:fE X G m)(bG:cJ X G m){nm ar bd:PV}{r1 r2:Int}{b1 b2 b3:Bool}{d:List PV}(hc:CF [nm,ar,bd,ab,ab,.int .u32 r1,.int .u32 r2,ab,.bool b1,.bool b2,.bool b3,b0,b0,b0] d)(dnm:aw nm=true)(hm:SizeOf.sizeOf d<=m):Pure ai X G 80 [.agg [nm,ar,bd,ab,ab,.int .u32 r1,.int .u32 r2,ab,.bool b1,.bool b2,.bool b3,b0,b0,b0]] (TF d):=by
 cases hc with
 |mk _ _ _ _ _ _ _ _ n gs ss dU l4 sw gO l5 ht=>
  have B7:br CA ar gs:=⟨l4,sw⟩;have JJ:br CS bd ss:=⟨gO,l5⟩;have NG:=l4.1;have yI:=gO.1;have haD:=l4.2.1;have NE:=gO.2.1;have hac:=NG.cells;have mJ:=yI.cells;have h:Hid (bQ X G m):=h;have cU:Hid (fE X G m):=cU;have bG:Hid (cJ X G m):=bG;have r7:Hid (∀y,y∈gs->SizeOf.sizeOf y<m):=fun y hy=>Nat.lt_of_lt_of_le (cK (v:= .sl gs) af hy) hm
  have vC:Hid (∀y,y∈ss->SizeOf.sizeOf y<m):=fun y hy=>Nat.lt_of_lt_of_le (cK (v:= .sl ss) af hy) hm
  have f0:∀k,fg false k=0:=fun k=>rfl
  have oo:=abY b1 b2 b3;have oo2:=ax3 b1 b2 b3;cases dU;all_goals
   refine ay T80 af ?_;refine cA ?_;open ace bi in exact az
namespace acf
theorem bw(h:p:=by
 first
 |exact SX
 |exact Tg
 |exact Th
 |fail):p:=h
theorem bj(h:p:=by
 first
 |skip
  all_goals exact⟨_,_,_,_,rfl,cN,en,.same rfl (.same rfl (.sl cc bL (.sl cC aW .nil)))⟩
  done
 |fail):p:=h
end acf
theorem ayc{m:Nat}(h:bQ X G m)(cU:fE X G m)(bG:cJ X G m){ar bd:PV}{b1 b3 b4:Bool}{gs ss:List (List PV)}(l4:fS ar gs.length)(sw:∀(i:Nat)(c d:List PV),(ae ar)[i]?=some c->gs[i]?=some d->CA c d)(gO:fS bd ss.length)(l5:∀(i:Nat)(c d:List PV),(ae bd)[i]?=some c->ss[i]?=some d->CS c d)
 (hm:SizeOf.sizeOf ([.int .i64 (-1),.int .i64 (fg b1 1+fg b3 4+fg b4 8),.sl gs,.sl ss]:List PV)<=m):Pure ai X G 81 [.fp [ar,bd,ab,ab,.bool b1,.bool b3,.bool b4,b0,b0]] (TF [.int .i64 (-1),.int .i64 (fg b1 1+fg b3 4+fg b4 8),.sl gs,.sl ss]):=by
 have B7:br CA ar gs:=⟨l4,sw⟩;have JJ:br CS bd ss:=⟨gO,l5⟩;have NG:=l4.1;have yI:=gO.1;have haD:=l4.2.1;have NE:=gO.2.1;have hac:=NG.cells;have mJ:=yI.cells;have h:Hid (bQ X G m):=h;have cU:Hid (fE X G m):=cU;have bG:Hid (cJ X G m):=bG;have r7:Hid (∀y,y∈gs->SizeOf.sizeOf y<m):=fun y hy=>Nat.lt_of_lt_of_le (cK (v:= .sl gs) af hy) hm
 have vC:Hid (∀y,y∈ss->SizeOf.sizeOf y<m):=fun y hy=>Nat.lt_of_lt_of_le (cK (v:= .sl ss) af hy) hm
 have f0:∀k,fg false k=0:=fun k=>rfl
 have oo:=ax4 b1 b3 b4;refine ay T81 af ?_;refine cA ?_;open acf bi in exact az
end
end Go.Pi
end
