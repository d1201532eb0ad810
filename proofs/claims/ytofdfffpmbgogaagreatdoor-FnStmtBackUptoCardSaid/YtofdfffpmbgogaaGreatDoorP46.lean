import Derived.Test.YtofdfffpmbgogaaGreatDoorP18
import Derived.Test.YtofdfffpmbgogaaGreatDoorP45
/- Part of the proof. -/
set_option linter.all false
set_option maxHeartbeats 0
set_option maxRecDepth 100000
section
open Go Go.Pi
namespace Go.Pi
variable{p q a:Prop}
section
variable{X:aS}{G:Nat->PV}
theorem ayd{m:Nat}(h:bQ X G m){k:PV}{dk:List PV}(bA:CE [k,ab] dk)(gz:aw k=true)(hm:∀y,y∈[dk]->SizeOf.sizeOf y<m):Pure ai X G 35 [.aj 255 (.fp [k,ab])] (TE (Xk 28 0 0 0 cq [dk])):=by
 obtain⟨uk,xk,ek⟩:=bA.ef;obtain rfl:k= .aj uk xk:=by injection ek
 have gB:aw xk=true:=jS;have h:Hid (bQ X G m):=h;have hm:Hid (∀y,y∈[dk]->SizeOf.sizeOf y<m):=hm;refine ay vQ af ?_;refine cA ?_;open bi L1 uf in exact az
theorem aye{m:Nat}(h:bQ X G m){k:PV}{dk:List PV}(bA:CE [k,ab] dk)(gz:aw k=true)(b:Bool)(hm:∀y,y∈[dk]->SizeOf.sizeOf y<m):Pure ai X G 35 [.aj 257 (.fp [k,ab,.bool b])] (TE (Xk 29 0 0 (fg b 512) cq [dk])):=by
 obtain⟨uk,xk,ek⟩:=bA.ef;obtain rfl:k= .aj uk xk:=by injection ek
 have gB:aw xk=true:=jS;have h:Hid (bQ X G m):=h;have hm:Hid (∀y,y∈[dk]->SizeOf.sizeOf y<m):=hm;refine ay vQ af ?_;refine cA ?_;open bi GF uf in exact az
theorem ayf:Pure ai X G 35 [.aj 257 (.fp [.aF,ab,b0])] (TE (Xk 29 0 0 0 cq [])):=by
 refine ay vQ af ?_;refine cA ?_;open bi mV in exact az
theorem ayg:Pure ai X G 35 [.aj 269 (.fp [.int .u8 0])] (TE (Xk 31 0 0 0 cq [])):=by
 refine ay vQ af ?_;refine cA ?_;open bi mV in exact az
theorem ayh(n:Int)(hn:0<=n/\n<1000):Pure ai X G 35 [.aj 270 (.fp [.int .u32 0,.int .u32 n])] (TE (Xd 32 0 n 0 0 0 e0 cq e0 e0 e0 e0 e0)):=by
 have hw:=wrap_i64 (n:=n) ad ad;refine ay vQ af ?_;refine cA ?_;open bi mV in exact az
namespace acg
theorem bw(h:p:=by
 first
 |exact alK
 |fail):p:=h
theorem bj(h:p:=by
 first
 |skip
  all_goals exact⟨_,_,_,_,_,_,_,_,_,_,_,_,_,rfl,rfl,rfl,rfl,rfl,rfl,B2,XG nl nl nl nl nl rfl (cd.sl Ck (aK.snoc .nil bL))⟩
  done
 |fail):p:=h
end acg
theorem ayi{m:Nat}(h:bQ X G m)(bG:cJ X G m){nm k v:PV}{dc:List PV}(vN:CC [.ah,nm,k,ab,v,ab,ab,ab,ab,b0,.bool true] dc)(hd:aP [.ah,nm,k,ab,v,ab,ab,ab,ab,b0,.bool true]=true)(hm:SizeOf.sizeOf dc<=m):Pure ai X G 35 [.aj 260 (.fp [.ah,nm,k,ab,v,ab,ab,ab,ab,b0,.bool true])] (TE (Xd 30 0 0 0 0 0 e0 cq e0 e0 e0 e0 (.sl [dc]))):=by
 obtain⟨q1,q2,q3⟩:aw nm=true/\aw k=true/\aw v=true:=by simpa[aP,aw,and_assoc]using hd
 have h:Hid (bQ X G m):=h;have bG:Hid (cJ X G m):=bG;refine ay vQ af ?_;refine cA ?_;open acg bi in exact az
namespace ach
theorem bw(h:p:=by
 first
 |exact alL
 |fail):p:=h
end ach
theorem ayj{m:Nat}(h:bQ X G m)(cU:fE X G m)(bG:cJ X G m){nm ar bd:PV}{r1 r2:Int}{b1 b2 b3:Bool}{df:List PV}(ue:CF [nm,ar,bd,ab,ab,.int .u32 r1,.int .u32 r2,ab,.bool b1,.bool b2,.bool b3,b0,b0,b0] df)(hd:aP [nm,ar,bd,ab,ab,.int .u32 r1,.int .u32 r2,ab,.bool b1,.bool b2,.bool b3,b0,b0,b0]=true)(hm:SizeOf.sizeOf df<=m):Pure ai X G 35 [.aj 194 (.fp [nm,ar,bd,ab,ab,.int .u32 r1,.int .u32 r2,ab,.bool b1,.bool b2,.bool b3,b0,b0,b0,b0])] (TE (Xd 21 0 0 0 0 0 e0 cq e0 e0 e0 (.sl [df]) e0)):=by
 obtain⟨q1,q2,q3⟩:aw nm=true/\aw ar=true/\aw bd=true:=by simpa[aP,aw,and_assoc]using hd
 have h:Hid (bQ X G m):=h;have cU:Hid (fE X G m):=cU;have bG:Hid (cJ X G m):=bG;refine ay vQ af ?_;refine cA ?_;open ach bi Mb in exact az
namespace aci
theorem bw(h:p:=by
 first
 |(refine aO (ayc (show bQ X G m from h) (show fE X G m from cU) (show cJ X G m from bG) l4 sw gO l5 hm) bS (cB) ?_;rintro _ ⟨n1,f1,ar1,bd1,rfl,e1,e2,bL⟩;have dt:=fun(n:Nat) (H:al)=>aH (n:=n) (H:=H) e1;have fW:=fun(n:Nat) (H:al)=>aH (n:=n) (H:=H) e2;refine cA ?_)<;>exact az
 |fail):p:=h
end aci
theorem ayk{m:Nat}(h:bQ X G m)(cU:fE X G m)(bG:cJ X G m){ar bd:PV}{b1 b3 b4:Bool}{gs ss:List (List PV)}(l4:fS ar gs.length)(sw:∀(i:Nat)(c d:List PV),(ae ar)[i]?=some c->gs[i]?=some d->CA c d)(gO:fS bd ss.length)(l5:∀(i:Nat)(c d:List PV),(ae bd)[i]?=some c->ss[i]?=some d->CS c d)
 (hm:SizeOf.sizeOf ([.int .i64 (-1),.int .i64 (fg b1 1+fg b3 4+fg b4 8),.sl gs,.sl ss]:List PV)<=m):Pure ai X G 35 [.aj 205 (.fp [ar,bd,ab,ab,.bool b1,.bool b3,.bool b4,b0,b0])] (TE (Xd 22 0 0 0 0 0 e0 cq e0 e0 e0 (.sl [[.int .i64 (-1),.int .i64 (fg b1 1+fg b3 4+fg b4 8),.sl gs,.sl ss]]) e0)):=by
 have q2:=l4.2.1;have q3:=gO.2.1;have h:Hid (bQ X G m):=h;have cU:Hid (fE X G m):=cU;have bG:Hid (cJ X G m):=bG;refine ay vQ af ?_;refine cA ?_;open aci bi Mb in exact az
section
variable{K op aA ch fl:Int}{nn:Nat}{tx:ByteArray}{us ks:List (List PV)}{p q f c kd:PV}
theorem NH(h:R.aR (Xd K op aA ch fl nn (.sl us) tx kd p q f c)):pI (.sl us):=by cases h;assumption
theorem acj{str:PV}(h:R.aR (Xd K op aA ch fl nn str tx (.sl ks) p q f c)):ks.length<=1048576:=by
 have l:aQ (.sl ks):=by cases h;assumption
 exact l.len
end
theorem dA{t:Nat}{x:PV}(h:aP [.aj t x,ab]=true):aw x=true:=by simpa[aP,aw]using h
theorem QO{c:List PV}(h:aw (.fp c)=true):aP c=true:=by simpa[aw]using h
theorem CF.nm{nm ar bd:PV}{r1 r2:Int}{b1 b2 b3:Bool}{d:List PV}(h:CF [nm,ar,bd,ab,ab,.int .u32 r1,.int .u32 r2,ab,.bool b1,.bool b2,.bool b3,b0,b0,b0] d):(∃n,CN nm n)/\aQ ar/\aw ar=true/\aQ bd/\aw bd=true:=by
 cases h with
 |mk _ _ _ _ _ _ _ _ n gs ss hn l4 sw gO l5=>exact⟨⟨n,hn⟩,l4.1,l4.2.1,gO.1,gO.2.1⟩
theorem ayl{m:Nat}(h:bQ X G m)(cU:fE X G m)(bG:cJ X G m){c d:List PV}(hc:CE c d)(hd:aP c=true)(hm:SizeOf.sizeOf d<=m):Pure ai X G 21 [.agg c] (TE d):=by
 cases hc with
 |null ht=>
  have hx:=dA hd;exact nQ hx (axp)
 |undef ht=>
  have hx:=dA hd;exact nQ hx (axq)
 |this ht=>
  have hx:=dA hd;exact nQ hx (axr)
 |sq ht=>
  have hx:=dA hd;exact nQ hx (axs)
 |TU ht=>
  have hx:=dA hd;exact vX hx (mi hx aJ) (mY hx aJ) (qg hx aJ) (vY hx aJ) (ayg)
 |TX ht=>
  have hx:=dA hd;exact nQ hx (axt)
 |TY ht=>
  have hx:=dA hd;exact nQ hx (axu)
 |boolean b ht=>
  have hx:=dA hd;cases b
  ·exact nQ hx (axw)
  ·exact nQ hx (axv)
 |number nn ht=>
  have hx:=dA hd;exact nQ hx (axx nn)
 |string v us fF oD ht=>
  have hx:=dA hd;exact nQ hx (axF v us (xI fF oD (NH ht)) oD)
 |TZ tx ht=>
  have hx:=dA hd;exact nQ hx (axy tx)
 |T0 tx ht=>
  have hx:=dA hd;exact nQ hx (axz tx)
 |ident n hn ht=>
  have hx:=dA hd;exact nQ hx (axA n hn)
 |Ms n hn ht=>
  have hx:=dA hd;exact vX hx (mi hx aJ) (mY hx aJ) (qg hx aJ) (vY hx aJ) (ayh n hn)
 |spread k dk bA ht=>
  have hx:=dA hd;have hp:=hx;simp[aw,aP,and_assoc]at hp;exact HF hx (mi hx aJ) (axG h bA hp (fun y hy=>Nat.lt_of_lt_of_le (cK (v:= .sl [dk]) af hy) hm))
 |await k dk bA ht=>
  have hx:=dA hd;have hp:=hx;simp[aw,aP,and_assoc]at hp;exact vX hx (mi hx aJ) (mY hx aJ) (qg hx aJ) (vY hx aJ) (ayd h bA hp (fun y hy=>Nat.lt_of_lt_of_le (cK (v:= .sl [dk]) af hy) hm))
 |T1 ht=>
  have hx:=dA hd;exact vX hx (mi hx aJ) (mY hx aJ) (qg hx aJ) (vY hx aJ) (ayf)
 |Mu k dk b bA ht=>
  have hx:=dA hd;have hp:=hx;simp[aw,aP,and_assoc]at hp;exact vX hx (mi hx aJ) (mY hx aJ) (qg hx aJ) (vY hx aJ) (aye h bA hp b (fun y hy=>Nat.lt_of_lt_of_le (cK (v:= .sl [dk]) af hy) hm))
 |array v ds fF fk ht=>
  have hx:=dA hd;exact HH hx (mi hx aJ) (mY hx aJ) (qg hx aJ) (axV h ⟨fF,fk⟩ (fun y hy=>Nat.lt_of_lt_of_le (cK (v:= .sl ds) af hy) hm))
 |C3 v ds fF fk ht=>
  have hx:=dA hd;exact HH hx (mi hx aJ) (mY hx aJ) (qg hx aJ) (axX h ⟨fF,fk⟩ (fun y hy=>Nat.lt_of_lt_of_le (cK (v:= .sl ds) af hy) hm))
 |unary k dk op b1 b2 ho hb bA ht=>
  have hx:=dA hd;have hp:=hx;simp[aw,aP,and_assoc]at hp;exact HF hx (mi hx aJ) (axI h bA hp op b1 b2 ho hb (fun y hy=>Nat.lt_of_lt_of_le (cK (v:= .sl [dk]) af hy) hm))
 |binary k l dk dl op ho bA jB ht=>
  have hx:=dA hd;have hp:=hx;simp[aw,aP,and_assoc]at hp;obtain⟨p1,p2⟩:=hp;exact HF hx (mi hx aJ) (axJ h bA p1 jB p2 op ho (fun y hy=>Nat.lt_of_lt_of_le (cK (v:= .sl [dk,dl]) af hy) hm))
 |cond k l p dk dl dp bA jB HI ht=>
  have hx:=dA hd;have hp:=hx;simp[aw,aP,and_assoc]at hp;obtain⟨p1,p2,p3⟩:=hp;exact HF hx (mi hx aJ) (axK h bA p1 jB p2 HI p3 (fun y hy=>Nat.lt_of_lt_of_le (cK (v:= .sl [dk,dl,dp]) af hy) hm))
 |T2 k dk tx ch hc bA ht=>
  have hx:=dA hd;have hp:=hx;simp[aw,aP,and_assoc]at hp;exact HG hx (mi hx aJ) (mY hx aJ) (axL h bA hp tx ch hc (fun y hy=>Nat.lt_of_lt_of_le (cK (v:= .sl [dk]) af hy) hm))
 |index k l dk dl ch hc bA jB ht=>
  have hx:=dA hd;have hp:=hx;simp[aw,aP,and_assoc]at hp;obtain⟨p1,p2⟩:=hp;exact HG hx (mi hx aJ) (mY hx aJ) (axM h bA p1 jB p2 ch hc (fun y hy=>Nat.lt_of_lt_of_le (cK (v:= .sl [dk,dl]) af hy) hm))
 |call k v dk ds op ho ch hc bA fF fk ht=>
  have hx:=dA hd;have hp:=hx;simp[aw,aP,and_assoc]at hp;obtain⟨p1,p2⟩:=hp;exact HG hx (mi hx aJ) (mY hx aJ) (axT h bA p1 ⟨fF,fk⟩ (by simpa using acj ht) op ho ch hc (fun y hy=>Nat.lt_of_lt_of_le (cK (v:= .sl (dk::ds)) af hy) hm))
 |new k v dk ds bA fF fk ht=>
  have hx:=dA hd;have hp:=hx;simp[aw,aP,and_assoc]at hp;obtain⟨p1,p2⟩:=hp;exact HG hx (mi hx aJ) (mY hx aJ) (axU h bA p1 ⟨fF,fk⟩ (by simpa using acj ht) (fun y hy=>Nat.lt_of_lt_of_le (cK (v:= .sl (dk::ds)) af hy) hm))
 |T4 v w us qs tx fF oD C4 C5 ht=>
  have hx:=dA hd;subst oD;exact HH hx (mi hx aJ) (mY hx aJ) (qg hx aJ) (axZ h (xI fF rfl (NH ht)) ⟨C4,C5⟩ (fun y hy=>Nat.lt_of_lt_of_le (cK (v:= .sl qs) af hy) hm))
 |Ua k v w dk us qs tx bA fF oD C4 C5 ht=>
  have hx:=dA hd;subst oD;have hp:=hx;simp[aw,aP,and_assoc]at hp;obtain⟨p1,p2,p3⟩:=hp;exact HH hx (mi hx aJ) (mY hx aJ) (qg hx aJ) (ax2 h bA p1 (xI fF rfl (NH ht)) ⟨C4,C5⟩ (fun y hy=>Nat.lt_of_lt_of_le (cK (v:= .sl qs) af hy) hm) (fun y hy=>Nat.lt_of_lt_of_le (cK (v:= .sl [dk]) af hy) hm))
 |Ub ar bd r1 r2 b3 la lb ht=>
  have hx:=dA hd;exact nQ hx (axB la lb)
 |fn nm ar bd r1 r2 b1 b2 b3 df hn ue ht=>
  have hx:=dA hd;obtain⟨⟨n,hcn⟩,Nv,Nw,Ny,Nz⟩:=ue.nm;exact vX hx (axR hcn Nv Nw Ny Nz hn) (mY hx aJ) (qg hx aJ) (vY hx aJ) (ayj h cU bG ue JB (Nat.le_of_lt (Nat.lt_of_lt_of_le (cK (v:= .sl [df]) af (List.mem_singleton_self _)) hm)))
 |Uc ar bd b3 b4 la lb ht=>
  have hx:=dA hd;exact nQ hx (axE la lb)
 |xV ar bd b1 b3 b4 gs ss hn l4 sw gO l5 ht=>
  have hx:=dA hd;exact vX hx (axS l4.1 l4.2.1 gO.1 gO.2.1 hn) (mY hx aJ) (qg hx aJ) (vY hx aJ) (ayk h cU bG l4 sw gO l5 (Nat.le_of_lt (Nat.lt_of_lt_of_le (cK (v:= .sl [[.int .i64 (-1),.int .i64 (fg b1 1+fg b3 4+fg b4 8),.sl gs,.sl ss]]) af (List.mem_singleton_self _)) hm)))
 |je nm k v dc vN ht=>
  have hx:=dA hd;exact vX hx (mi hx aJ) (mY hx aJ) (qg hx aJ) (vY hx aJ) (ayi h bG vN (by have h9:=QO hx;exact h9) (Nat.le_of_lt (Nat.lt_of_lt_of_le (cK (v:= .sl [dc]) af (List.mem_singleton_self _)) hm)))
end
end Go.Pi
end
section
open Go Go.Pi
namespace Go.Pi
variable{p q a:Prop}
section
variable{X:aS}{G:Nat->PV}
def TS(d:List PV)(r:PV):Prop:=∃(K op rf fl:Int)(str ex kd dc cs fs cl:PV),r= .bZ [.agg [.int .i64 K,.int .i64 op,.int .i64 rf,.int .i64 fl,str,ex,kd,dc,cs,fs,cl],.bool true]/\aw str=true/\aw ex=true/\aw kd=true/\aw dc=true/\aw cs=true/\aw fs=true/\aw cl=true/\dE [.int .i64 K,.int .i64 op,.int .i64 rf,.int .i64 fl,str,ex,kd,dc,cs,fs,cl] d
def uG(r:PV):Prop:=∃(K op rf fl:Int)(str ex kd dc cs fs cl:PV),r= .bZ [.agg [.int .i64 K,.int .i64 op,.int .i64 rf,.int .i64 fl,str,ex,kd,dc,cs,fs,cl],.bool false]/\aw str=true/\aw ex=true/\aw kd=true/\aw dc=true/\aw cs=true/\aw fs=true/\aw cl=true
def TW2(rest:PV->PV->List PV)(ds es:List (List PV))(r:PV):Prop:=∃v u,r= .bZ [.agg (rest v u),.bool true]/\aQ v/\aw v=true/\aK (ae v) ds/\aQ u/\aw u=true/\aK (ae u) es
abbrev HJ(X:aS)(G:Nat->PV)(m:Nat):Prop:=∀{c d:List PV},CS c d->aP c=true->SizeOf.sizeOf d<m->Pure ai X G 28 [.agg c] (TS d)
theorem CS.ef{c d:List PV}(h:CS c d):∃u x,c=[.aj u x,ab]:=by cases h<;>exact⟨_,_,rfl⟩
theorem p7:cd (.int .i64 0) dV:=cd.ru rfl
section
variable{K op fl rf:Int}{aA str ex kd dc cs fs cl:PV}{us es ks ds ws gs hs:List (List PV)}
theorem SG(hr:cd (.int .i64 rf) aA)(fr:aA.flat=true)(h1:cd str (.sl us))(h2:cd ex (.sl es))(h3:cd kd (.sl ks))(h4:cd dc (.sl ds))(h5:cd cs (.sl ws))(h6:cd fs (.sl gs))(h7:cd cl (.sl hs)):
 dE [.int .i64 K,.int .i64 op,.int .i64 rf,.int .i64 fl,str,ex,kd,dc,cs,fs,cl] (Sd K op aA fl (.sl us) (.sl es) (.sl ks) (.sl ds) (.sl ws) (.sl gs) (.sl hs)):=
 .same rfl (.same rfl (.cons hr fr (.same rfl (.cons h1 rfl (.cons h2 rfl (.cons h3 rfl (.cons h4 rfl (.cons h5 rfl (.cons h6 rfl (.cons h7 rfl .nil))))))))))
end
theorem Tk{u0:Nat}{x0:PV}{d0:List PV}(h0:CS [.aj u0 x0,ab] d0)(q0:aw x0=true):br CS (.sl [[.aj u0 x0,ab]]) [d0]:=
 ⟨⟨.sl af,by simp[aw,jx,aP,q0],rfl⟩,fun i c e mG oL=>by
  match i with
  |0=>simp[ae]at mG oL;subst mG oL;exact h0
  |i+1=>simp[ae]at mG⟩
theorem Cl{u0 u1:Nat}{x0 x1:PV}{d0 d1:List PV}(h0:CS [.aj u0 x0,ab] d0)(q0:aw x0=true)(h1:CS [.aj u1 x1,ab] d1)(q1:aw x1=true):br CS (.sl [[.aj u0 x0,ab],[.aj u1 x1,ab]]) [d0,d1]:=
 ⟨⟨.sl af,by simp[aw,jx,aP,q0,q1],rfl⟩,fun i c e mG oL=>by
  match i with
  |0=>simp[ae]at mG oL;subst mG oL;exact h0
  |1=>simp[ae]at mG oL;subst mG oL;exact h1
  |i+2=>simp[ae]at mG⟩
theorem HK{u0 u1 u2:Nat}{x0 x1 x2:PV}{d0 d1 d2:List PV}(h0:CS [.aj u0 x0,ab] d0)(q0:aw x0=true)(h1:CS [.aj u1 x1,ab] d1)(q1:aw x1=true)(h2:CS [.aj u2 x2,ab] d2)(q2:aw x2=true):br CS (.sl [[.aj u0 x0,ab],[.aj u1 x1,ab],[.aj u2 x2,ab]]) [d0,d1,d2]:=
 ⟨⟨.sl af,by simp[aw,jx,aP,q0,q1,q2],rfl⟩,fun i c e mG oL=>by
  match i with
  |0=>simp[ae]at mG oL;subst mG oL;exact h0
  |1=>simp[ae]at mG oL;subst mG oL;exact h1
  |2=>simp[ae]at mG oL;subst mG oL;exact h2
  |i+3=>simp[ae]at mG⟩
namespace ack
theorem cw(h:p:=by
 first
 |(refine r8 (P:=CS) (fun h=>zR) hw ad ad (fun c d hc gF jd jW=>?_);obtain⟨u,x,rfl⟩:=hc.ef;have AH:aw x=true:=(by simpa[aP,aw]using gF);refine cA ?_)<;>exact bu
 |(refine aO ((show HJ X G m from hs) hc gF ((show∀d,d∈ds->SizeOf.sizeOf d<m from hm) _ jd)) bS (cB) ?_;rintro _ ⟨K1,vD,vE,vF,lW,xJ,vG,Gg,qG,vH,Gh,rfl,e1,e2,e3,e4,e5,e6,e7,bL⟩;have dt:=fun(n:Nat) (H:al)=>aH (n:=n) (H:=H) e1;have fW:=fun(n:Nat) (H:al)=>aH (n:=n) (H:=H) e2;have K5:=fun(n:Nat) (H:al)=>aH (n:=n) (H:=H) e3;have K6:=fun(n:Nat) (H:al)=>aH (n:=n) (H:=H) e4;have K7:=fun(n:Nat) (H:al)=>aH (n:=n) (H:=H) e5;have K8:=fun(n:Nat) (H:al)=>aH (n:=n) (H:=H) e6;have hs7:=fun(n:Nat) (H:al)=>aH (n:=n) (H:=H) e7;refine cA ?_)<;>exact bu
 |fail):p:=h
theorem iZ(h:p:=by
 first
 |skip
  refine ik (A:=[8004]) (ys:=ys) (zs:=[[.int .i64 K1,.int .i64 vD,.int .i64 vE,.int .i64 vF,lW,xJ,vG,Gg,qG,vH,Gh]]) (ids:=[8003]) (cB) gy af af iA af fH (fun v' H' z' bI hf=>?_);clear hE hf;simp only[push];refine cA ?_;simp only[cG];refine cA ?_;have next:=nx
  unfold Hid at next
  have gM:=jW;simp only[Int.toNat_natCast]at gM;exact next (n - 1) ad _ ⟨i+1,_,ad,cB,cB,gK,lV,jR,aV.qX gM (bL)⟩
  done
 |fail):p:=h
end ack
namespace acm
theorem bj(h:p:=by
 first
 |skip
  refine b5 (fun n s'=>∃(i:Nat)(ys:List (List PV)),i+n=(ae v0).length/\s'.t 9=v0/\s'.t 10= .int .i64 (ae v0).length/\s'.t 11= .int .i64 i/\aX [8004] s'.H 55 11 (s'.t 4) ys/\ys.length=i/\aK ys (ds.take i)) ?_ (n:=(ae v0).length)
   ⟨0,[],af,nB,nB,nB,aiL,rfl,kS⟩
  rintro n ⟨t,H,k⟩ ⟨i,ys,hi,cp,cI,cS,aY,eY,aV⟩ next
  simp only at cp cI cS aY;have hE:=fun(n:Nat) (H':al) (q1:H' 8004=H 8004)=>(aX.dF (n:=n) (aY.frame (H':=H') iY))
  obtain⟨g1,g2,g3,g4⟩:=aY.gv;refine nA (Kj cp (Kj cI cS)) ?_;have nx:Hid _:=next
  clear next
  open ack dO Ah kU in exact bu
  done
 |fail):p:=h
end acm
theorem acn{m:Nat}(hs:HJ X G m){v0:PV}{ds:List (List PV)}(hw:br CS v0 ds)(hm:∀d,d∈ds->SizeOf.sizeOf d<m):Pure ai X G 19 [v0] (TL ds):=by
 have hv:=hw.1.1;have eo:=hw.1.2.1;have o3:=hw.1.2.2.symm;have hB:=hv.len;have hs:Hid (HJ X G m):=hs;have hm:Hid (∀d,d∈ds->SizeOf.sizeOf d<m):=hm;refine ay T19 af ?_;refine nA hv ?_;open acm bi in exact az
theorem KX{m:Nat}{v0:PV}{ds:List (List PV)}{K op rf fl:Int}{str ex kd dc cs fs cl:PV}(h:bQ X G m)(hw:br CE v0 ds)(hm:∀d,d∈ds->SizeOf.sizeOf d<m)(yJ:aw str=true)(AK:aw ex=true)(yK:aw kd=true)(yL:aw dc=true)(yM:aw cs=true)(yN:aw fs=true)(yO:aw cl=true):Pure ai X G 116 [.agg [.int .i64 K,.int .i64 op,.int .i64 rf,.int .i64 fl,str,ex,kd,dc,cs,fs,cl],v0] (TW (fun ex=>[.int .i64 K,.int .i64 op,.int .i64 rf,.int .i64 fl,str,ex,kd,dc,cs,fs,cl]) ds):=by
 have hv:=hw.1.1;have eo:=hw.1.2.1;have aco:=fun(n:Nat) (H:al)=>aH (n:=n) (H:=H) yJ
 have acp:=fun(n:Nat) (H:al)=>aH (n:=n) (H:=H) AK
 have acq:=fun(n:Nat) (H:al)=>aH (n:=n) (H:=H) yK
 have acr:=fun(n:Nat) (H:al)=>aH (n:=n) (H:=H) yL
 have acs:=fun(n:Nat) (H:al)=>aH (n:=n) (H:=H) yM
 have acu:=fun(n:Nat) (H:al)=>aH (n:=n) (H:=H) yN
 have acv:=fun(n:Nat) (H:al)=>aH (n:=n) (H:=H) yO
 refine ay apb af ?_;refine nA (Kj hv eo) ?_;open bi LZ Cy in exact az
namespace acw
theorem bw(h:p:=by
 first
 |(refine aO (bG hw hm) xh (cB) ?_;rintro _ ⟨v1,rfl,cc,cN,bL⟩;have jY:=cc.cells;have jZ:=fun(n:Nat) (H:al)=>aH (n:=n) (H:=H) cN;refine cA ?_)<;>exact az
 |fail):p:=h
end acw
theorem sJ{m:Nat}{v0:PV}{ds:List (List PV)}{K op rf fl:Int}{str ex kd dc cs fs cl:PV}(bG:cJ X G m)(hw:br CS v0 ds)(hm:∀d,d∈ds->SizeOf.sizeOf d<m)(yJ:aw str=true)(AK:aw ex=true)(yK:aw kd=true)(yL:aw dc=true)(yM:aw cs=true)(yN:aw fs=true)(yO:aw cl=true):Pure ai X G 123 [.agg [.int .i64 K,.int .i64 op,.int .i64 rf,.int .i64 fl,str,ex,kd,dc,cs,fs,cl],v0] (TW (fun kd=>[.int .i64 K,.int .i64 op,.int .i64 rf,.int .i64 fl,str,ex,kd,dc,cs,fs,cl]) ds):=by
 have hv:=hw.1.1;have eo:=hw.1.2.1;have aco:=fun(n:Nat) (H:al)=>aH (n:=n) (H:=H) yJ
 have acp:=fun(n:Nat) (H:al)=>aH (n:=n) (H:=H) AK
 have acq:=fun(n:Nat) (H:al)=>aH (n:=n) (H:=H) yK
 have acr:=fun(n:Nat) (H:al)=>aH (n:=n) (H:=H) yL
 have acs:=fun(n:Nat) (H:al)=>aH (n:=n) (H:=H) yM
 have acu:=fun(n:Nat) (H:al)=>aH (n:=n) (H:=H) yN
 have acv:=fun(n:Nat) (H:al)=>aH (n:=n) (H:=H) yO
 refine ay apd af ?_;refine nA (Kj hv eo) ?_;open acw bi Cy in exact az
namespace acx
theorem bw(h:p:=by
 first
 |(refine aO (KX (show bQ X G m from h) hw (show∀d,d∈ds->SizeOf.sizeOf d<m from hm) yJ AK yK yL yM yN yO) bS (cB) ?_;rintro _ ⟨v1,rfl,cc,cN,bL⟩;have jY:=cc.cells;have jZ:=fun(n:Nat) (H:al)=>aH (n:=n) (H:=H) cN;refine cA ?_)<;>exact az
 |(refine aO (sJ (show cJ X G m from bG) hu (show∀d,d∈es->SizeOf.sizeOf d<m from gC) yJ cN yK yL yM yN yO) bS (cB) ?_;rintro _ ⟨v2,rfl,cC,en,aW⟩;have mc:=cC.cells;have nG:=fun(n:Nat) (H:al)=>aH (n:=n) (H:=H) en;refine cA ?_)<;>exact az
 |fail):p:=h
theorem bj(h:p:=by
 first
 |skip
  all_goals exact⟨_,_,rfl,cc,cN,bL,cC,en,aW⟩
  done
 |fail):p:=h
end acx
theorem KY{m:Nat}{v0 u0:PV}{ds es:List (List PV)}{K op rf fl:Int}{str ex kd dc cs fs cl:PV}(h:bQ X G m)(bG:cJ X G m)(hw:br CE v0 ds)(hm:∀d,d∈ds->SizeOf.sizeOf d<m)(hu:br CS u0 es)(gC:∀d,d∈es->SizeOf.sizeOf d<m)(yJ:aw str=true)(AK:aw ex=true)(yK:aw kd=true)(yL:aw dc=true)(yM:aw cs=true)(yN:aw fs=true)(yO:aw cl=true):Pure ai X G 120 [.agg [.int .i64 K,.int .i64 op,.int .i64 rf,.int .i64 fl,str,ex,kd,dc,cs,fs,cl],v0,u0] (TW2 (fun ex kd=>[.int .i64 K,.int .i64 op,.int .i64 rf,.int .i64 fl,str,ex,kd,dc,cs,fs,cl]) ds es):=by
 have hv:=hw.1.1;have eo:=hw.1.2.1;have hu1:=hu.1.1;have gR:=hu.1.2.1;have h:Hid (bQ X G m):=h;have bG:Hid (cJ X G m):=bG;have hm:Hid (∀d,d∈ds->SizeOf.sizeOf d<m):=hm;have gC:Hid (∀d,d∈es->SizeOf.sizeOf d<m):=gC;have aco:=fun(n:Nat) (H:al)=>aH (n:=n) (H:=H) yJ
 have acp:=fun(n:Nat) (H:al)=>aH (n:=n) (H:=H) AK
 have acq:=fun(n:Nat) (H:al)=>aH (n:=n) (H:=H) yK
 have acr:=fun(n:Nat) (H:al)=>aH (n:=n) (H:=H) yL
 have acs:=fun(n:Nat) (H:al)=>aH (n:=n) (H:=H) yM
 have acu:=fun(n:Nat) (H:al)=>aH (n:=n) (H:=H) yN
 have acv:=fun(n:Nat) (H:al)=>aH (n:=n) (H:=H) yO
 refine ay apc af ?_;refine nA (Kj hv (Kj eo (Kj hu1 gR))) ?_;open acx bi in exact az
namespace acy
theorem bj(h:p:=by
 first
 |skip
  all_goals exact⟨_,_,rfl,rfl,.sq ht⟩
  done
 |fail):p:=h
end acy
theorem acz{k:PV}{d:List PV}(hc:CG [k,ab] d)(hd:aw k=true):Pure ai X G 121 [.agg [k,ab]] (fun r=>∃u x,r= .agg [.aj u x,ab]/\aw x=true/\CE [.aj u x,ab] d):=by
 cases hc with
 |none ht=>
  refine ay TH af ?_;refine zA ?_;open acy bi in exact az
 |some _ d hc=>
  obtain⟨u,x,e⟩:=hc.ef;cases e;have xZ:=fun(n:Nat) (H:al)=>aH (n:=n) (H:=H) hd
  refine ay TH af ?_;refine nA hd ?_;open bi Mc in exact az
namespace acA
theorem bj(h:p:=by
 first
 |skip
  all_goals exact⟨_,_,rfl,rfl,.empty ht⟩
  done
 |fail):p:=h
end acA
theorem ayp{k:PV}{d:List PV}(hc:CH [k,ab] d)(hd:aw k=true):Pure ai X G 122 [.agg [k,ab]] (fun r=>∃u x,r= .agg [.aj u x,ab]/\aw x=true/\CS [.aj u x,ab] d):=by
 cases hc with
 |none ht=>
  refine ay TI af ?_;refine zA ?_;open acA bi in exact az
 |some _ d hc=>
  obtain⟨u,x,e⟩:=hc.ef;cases e;have xZ:=fun(n:Nat) (H:al)=>aH (n:=n) (H:=H) hd
  refine ay TI af ?_;refine nA hd ?_;open bi Mc in exact az
namespace acB
theorem bw(h:p:=by
 first
 |(refine aO h0 bS (cB) ?_;rintro _ ⟨K0,Kg,Kh,Ki,abj,xK,Kk,dc0,oR,Kl,cl0,rfl,tM,tN,tO,tP,tQ,tR,Gf,DI⟩;have Km:=fun(n:Nat) (H:al)=>aH (n:=n) (H:=H) tM;have Kn:=fun(n:Nat) (H:al)=>aH (n:=n) (H:=H) tN;have Ko:=fun(n:Nat) (H:al)=>aH (n:=n) (H:=H) tO;have Kp:=fun(n:Nat) (H:al)=>aH (n:=n) (H:=H) tP;have Kq:=fun(n:Nat) (H:al)=>aH (n:=n) (H:=H) tQ;have Kr:=fun(n:Nat) (H:al)=>aH (n:=n) (H:=H) tR;have alO:=fun(n:Nat) (H:al)=>aH (n:=n) (H:=H) Gf;refine cA ?_)<;>exact az
 |fail):p:=h
theorem bj(h:p:=by
 first
 |skip
  exact⟨_,_,_,_,_,_,_,_,_,_,_,rfl,tM,tN,tO,tP,tQ,tR,Gf,DI⟩;done
 |fail):p:=h
end acB
theorem uH{u:Nat}{x:PV}{d:List PV}(hd:aw x=true)(h0:Pure ai X G 70 [.aj u x] (TS d)):Pure ai X G 28 [.agg [.aj u x,ab]] (TS d):=by
 refine ay GL af ?_;refine nA hd ?_;open acB bi in exact az
namespace acC
theorem bw(h:p:=by
 first
 |exact alQ
 |(refine aO h1 bS (cB) ?_;rintro _ ⟨K1,vD,vE,vF,lW,xJ,vG,Gg,qG,vH,Gh,rfl,tS,tT,tU,tV,tW,tX,Gi,bL⟩;have Kz:=fun(n:Nat) (H:al)=>aH (n:=n) (H:=H) tS;have KA:=fun(n:Nat) (H:al)=>aH (n:=n) (H:=H) tT;have KB:=fun(n:Nat) (H:al)=>aH (n:=n) (H:=H) tU;have KC:=fun(n:Nat) (H:al)=>aH (n:=n) (H:=H) tV;have KD:=fun(n:Nat) (H:al)=>aH (n:=n) (H:=H) tW;have KE:=fun(n:Nat) (H:al)=>aH (n:=n) (H:=H) tX;have alP:=fun(n:Nat) (H:al)=>aH (n:=n) (H:=H) Gi;refine cA ?_)<;>exact az
 |fail):p:=h
theorem bj(h:p:=by
 first
 |skip
  exact⟨_,_,_,_,_,_,_,_,_,_,_,rfl,tS,tT,tU,tV,tW,tX,Gi,bL⟩;done
 |fail):p:=h
end acC
theorem NI{u:Nat}{x:PV}{d:List PV}(hd:aw x=true)(h0:Pure ai X G 70 [.aj u x] uG)(h1:Pure ai X G 71 [.aj u x] (TS d)):Pure ai X G 28 [.agg [.aj u x,ab]] (TS d):=by
 refine ay GL af ?_;refine nA hd ?_;open acC bi in exact az
namespace acD
theorem bw(h:p:=by
 first
 |exact alQ
 |exact alR
 |(refine aO h2 bS (cB) ?_;rintro _ ⟨K2,KF,KG,KH,KI,ex2,KJ,dc2,KL,KK,cl2,rfl,tY,tZ,ua,ub,uc,ud,HL,aW⟩;have KM:=fun(n:Nat) (H:al)=>aH (n:=n) (H:=H) tY;have KN:=fun(n:Nat) (H:al)=>aH (n:=n) (H:=H) tZ;have KO:=fun(n:Nat) (H:al)=>aH (n:=n) (H:=H) ua;have KP:=fun(n:Nat) (H:al)=>aH (n:=n) (H:=H) ub;have KQ:=fun(n:Nat) (H:al)=>aH (n:=n) (H:=H) uc;have KR:=fun(n:Nat) (H:al)=>aH (n:=n) (H:=H) ud;have ayt:=fun(n:Nat) (H:al)=>aH (n:=n) (H:=H) HL;refine cA ?_)<;>exact az
 |fail):p:=h
theorem bj(h:p:=by
 first
 |skip
  exact⟨_,_,_,_,_,_,_,_,_,_,_,rfl,tY,tZ,ua,ub,uc,ud,HL,aW⟩;done
 |fail):p:=h
end acD
theorem AL{u:Nat}{x:PV}{d:List PV}(hd:aw x=true)(h0:Pure ai X G 70 [.aj u x] uG)(h1:Pure ai X G 71 [.aj u x] uG)(h2:Pure ai X G 72 [.aj u x] (TS d)):Pure ai X G 28 [.agg [.aj u x,ab]] (TS d):=by
 refine ay GL af ?_;refine nA hd ?_;open acD bi in exact az
namespace acE
theorem bw(h:p:=by
 first
 |exact alQ
 |exact alR
 |(refine aO h2 bS (cB) ?_;rintro _ ⟨K2,KF,KG,KH,KI,ex2,KJ,dc2,KL,KK,cl2,rfl,tY,tZ,ua,ub,uc,ud,HL⟩;have KM:=fun(n:Nat) (H:al)=>aH (n:=n) (H:=H) tY;have KN:=fun(n:Nat) (H:al)=>aH (n:=n) (H:=H) tZ;have KO:=fun(n:Nat) (H:al)=>aH (n:=n) (H:=H) ua;have KP:=fun(n:Nat) (H:al)=>aH (n:=n) (H:=H) ub;have KQ:=fun(n:Nat) (H:al)=>aH (n:=n) (H:=H) uc;have KR:=fun(n:Nat) (H:al)=>aH (n:=n) (H:=H) ud;have ayt:=fun(n:Nat) (H:al)=>aH (n:=n) (H:=H) HL;refine cA ?_)<;>exact az
 |(refine aO h3 bS (cB) ?_;rintro _ ⟨K3,op3,rf3,fl3,abm,ex3,kd3,dc3,cs3,fs3,cl3,rfl,yB,yC,yD,yE,yF,yG,acF,lX⟩;have abq:=fun(n:Nat) (H:al)=>aH (n:=n) (H:=H) yB;have abr:=fun(n:Nat) (H:al)=>aH (n:=n) (H:=H) yC;have abt:=fun(n:Nat) (H:al)=>aH (n:=n) (H:=H) yD;have abu:=fun(n:Nat) (H:al)=>aH (n:=n) (H:=H) yE;have abv:=fun(n:Nat) (H:al)=>aH (n:=n) (H:=H) yF;have abw:=fun(n:Nat) (H:al)=>aH (n:=n) (H:=H) yG;have aC1:=fun(n:Nat) (H:al)=>aH (n:=n) (H:=H) acF;refine cA ?_)<;>exact az
 |fail):p:=h
theorem bj(h:p:=by
 first
 |skip
  exact⟨_,_,_,_,_,_,_,_,_,_,_,rfl,yB,yC,yD,yE,yF,yG,acF,lX⟩;done
 |fail):p:=h
end acE
theorem rp{u:Nat}{x:PV}{d:List PV}(hd:aw x=true)(h0:Pure ai X G 70 [.aj u x] uG)(h1:Pure ai X G 71 [.aj u x] uG)(h2:Pure ai X G 72 [.aj u x] uG)(h3:Pure ai X G 73 [.aj u x] (TS d)):Pure ai X G 28 [.agg [.aj u x,ab]] (TS d):=by
 refine ay GL af ?_;refine nA hd ?_;open acE bi in exact az
theorem lH{u:Nat}{x:PV}(hd:aw x=true)(hu:u∉[307,309,311,314,317,320,322,326]):Pure ai X G 70 [.aj u x] uG:=by
 simp only[List.mem_cons,List.not_mem_nil,or_false,not_or]at hu;obtain⟨a0,a1,a2,a3,a4,a5,a6,a7⟩:=hu;have c0:decide (u=307)=false:=by simp[a0]
 have c1:decide (u=309)=false:=by simp[a1]
 have c2:decide (u=311)=false:=by simp[a2]
 have c3:decide (u=314)=false:=by simp[a3]
 have c4:decide (u=317)=false:=by simp[a4]
 have c5:decide (u=320)=false:=by simp[a5]
 have c6:decide (u=322)=false:=by simp[a6]
 have c7:decide (u=326)=false:=by simp[a7]
 refine ay sg af ?_;refine cA ?_;open bi GG in exact az
theorem mH{u:Nat}{x:PV}(hd:aw x=true)(hu:u∉[331,337,342]):Pure ai X G 71 [.aj u x] uG:=by
 simp only[List.mem_cons,List.not_mem_nil,or_false,not_or]at hu;obtain⟨a0,a1,a2⟩:=hu;have c0:decide (u=331)=false:=by simp[a0]
 have c1:decide (u=337)=false:=by simp[a1]
 have c2:decide (u=342)=false:=by simp[a2]
 refine ay GO af ?_;refine cA ?_;open bi GG in exact az
theorem rq{u:Nat}{x:PV}(hd:aw x=true)(hu:u∉[345,350,353,356,359]):Pure ai X G 72 [.aj u x] uG:=by
 simp only[List.mem_cons,List.not_mem_nil,or_false,not_or]at hu;obtain⟨a0,a1,a2,a3,a4⟩:=hu;have c0:decide (u=345)=false:=by simp[a0]
 have c1:decide (u=350)=false:=by simp[a1]
 have c2:decide (u=353)=false:=by simp[a2]
 have c3:decide (u=356)=false:=by simp[a3]
 have c4:decide (u=359)=false:=by simp[a4]
 refine ay xQ af ?_;refine cA ?_;open bi GG in exact az
end
end Go.Pi
end
section
open Go Go.Pi
namespace Go.Pi
variable{p q a:Prop}
section
variable{X:aS}{G:Nat->PV}
theorem ayu:Pure ai X G 70 [.aj 307 (.fp [.int .u8 0])] (TS (Sk 0 [] [])):=by
 refine ay sg af ?_;refine cA ?_;open bi GH in exact az
theorem ayv:Pure ai X G 70 [.aj 309 (.fp [.int .u8 0])] (TS (Sk 1 [] [])):=by
 refine ay sg af ?_;refine cA ?_;open bi GH in exact az
theorem ayw:Pure ai X G 70 [.aj 317 (.fp [.aF,ab])] (TS (Sk 18 [] [])):=by
 refine ay sg af ?_;refine cA ?_;open bi GH in exact az
namespace aez
theorem bj(h:p:=by
 first
 |skip
  all_goals exact⟨_,_,_,_,_,_,_,_,_,_,_,rfl,rfl,rfl,rfl,rfl,rfl,rfl,rfl,SG (.refl _) rfl nl nl nl nl nl nl nl⟩
  done
 |fail):p:=h
end aez
theorem ayx{nm:PV}{n:Int}(dU:CN nm n):Pure ai X G 70 [.aj 322 (.fp [nm])] (TS (Sd 20 0 (.int .i64 n) 0 e0 e0 e0 e0 e0 e0 e0)):=by
 cases dU;all_goals
  refine ay sg af ?_;refine cA ?_;open aez bi Md in exact az
namespace aeA
theorem bj(h:p:=by
 first
 |skip
  all_goals exact⟨_,_,_,_,_,_,_,_,_,_,_,rfl,rfl,rfl,rfl,rfl,rfl,rfl,rfl,SG (.refl _) rfl nl nl nl nl nl nl nl⟩
  done
 |fail):p:=h
end aeA
theorem ayy{nm:PV}{n:Int}(dU:CN nm n):Pure ai X G 70 [.aj 326 (.fp [nm])] (TS (Sd 21 0 (.int .i64 n) 0 e0 e0 e0 e0 e0 e0 e0)):=by
 cases dU;all_goals
  refine ay sg af ?_;refine cA ?_;open aeA bi Md in exact az
theorem ayz{m:Nat}(h:bQ X G m){k:PV}{dk:List PV}(bA:CE [k,ab] dk)(gz:aw k=true)(hm:∀y,y∈[dk]->SizeOf.sizeOf y<m):Pure ai X G 70 [.aj 314 (.fp [k,ab,b0])] (TS (Sk 3 [dk] [])):=by
 obtain⟨uk,xk,ek⟩:=bA.ef;obtain rfl:k= .aj uk xk:=by injection ek
 have gB:aw xk=true:=jS;have h:Hid (bQ X G m):=h;have hm:Hid (∀y,y∈[dk]->SizeOf.sizeOf y<m):=hm;refine ay sg af ?_;refine cA ?_;open bi GI GJ in exact az
theorem ayA{m:Nat}(h:bQ X G m){k:PV}{dk:List PV}(bA:CE [k,ab] dk)(gz:aw k=true)(hm:∀y,y∈[dk]->SizeOf.sizeOf y<m):Pure ai X G 70 [.aj 317 (.fp [k,ab])] (TS (Sk 18 [dk] [])):=by
 obtain⟨uk,xk,ek⟩:=bA.ef;obtain rfl:k= .aj uk xk:=by injection ek
 have gB:aw xk=true:=jS;have h:Hid (bQ X G m):=h;have hm:Hid (∀y,y∈[dk]->SizeOf.sizeOf y<m):=hm;refine ay sg af ?_;refine cA ?_;open bi GI GJ in exact az
theorem ayB{m:Nat}(h:bQ X G m){k:PV}{dk:List PV}(bA:CE [k,ab] dk)(gz:aw k=true)(hm:∀y,y∈[dk]->SizeOf.sizeOf y<m):Pure ai X G 70 [.aj 320 (.fp [k,ab])] (TS (Sk 19 [dk] [])):=by
 obtain⟨uk,xk,ek⟩:=bA.ef;obtain rfl:k= .aj uk xk:=by injection ek
 have gB:aw xk=true:=jS;have h:Hid (bQ X G m):=h;have hm:Hid (∀y,y∈[dk]->SizeOf.sizeOf y<m):=hm;refine ay sg af ?_;refine cA ?_;open bi GI GJ in exact az
namespace acG
theorem fu(h:p:=by
 first
 |skip
  all_goals first
   |exact⟨by simpa using fun h:0∈gi v'=>absurd (g4 0 h) af,_,_,_,_,_,_,_,_,_,_,_,rfl,g2,rfl,rfl,rfl,rfl,rfl,rfl,SG p7 rfl (cd.sl (o6 g1 g3 BX) JD) nl nl nl nl nl nl⟩
   |exact⟨af,by simpa using fun h:0∈gi v'=>absurd (g4 0 h) af,_,_,_,_,_,_,_,_,_,_,_,rfl,g2,rfl,rfl,rfl,rfl,rfl,rfl,SG p7 rfl (cd.sl (o6 g1 g3 BX) JD) nl nl nl nl nl nl⟩
  done
 |fail):p:=h
end acG
namespace acH
theorem bj(h:p:=by
 first
 |skip
  refine oz (A:=[10001,10006]) (ys:=[]) (r:=v) (zB) (hv.1.imp id (fun⟨xs,h,_⟩=>⟨xs,h⟩)) hv.2.1 (fun c hc=>QL) zy af ajf (fun v' H' fb bI hf fq hz=>?_);have um:=hZ bI;have hE:=fun(n:Nat) (fJ:al) (q0:fJ 10001=H' 10001) (q1:fJ 10006=H' 10006)=>(aX.dF (n:=n) (bI.frame (H':=fJ) pR))
  obtain⟨g1,g2,g3,g4⟩:=bI.gv;rw[List.nil_append]at g1 g2 g3;first
   |(obtain⟨zz,rfl,mR⟩:=hz _ _ rfl)
   |(have h9:=fq rfl;subst h9)
  have e1:=hf 1 af
  (try replace e1:=aaD e1)
  refine cA ?_;open acG dO in exact bu
  done
 |fail):p:=h
end acH
theorem ayC(v:PV)(us:List (List PV))(hv:aB Un v)(e:ae v=us):Pure ai X G 70 [.aj 311 (.fp [v,ab])] (TS (Sd 2 0 dV 0 (.sl us) e0 e0 e0 e0 e0 e0)):=by
 subst e;have cc:=hv.1;have cC:=hv.2.1;have jw:=cc.cells;refine ay sg af ?_;refine cA ?_;open acH bi in exact az
theorem ayD{m:Nat}(h:bQ X G m)(bG:cJ X G m){k:PV}{dk:List PV}(bA:CE [k,ab] dk)(gz:aw k=true){x:PV}{dx:List PV}(eK:CS [x,ab] dx)(qQ:aw x=true){y:PV}{dy:List PV}(jC:CS [y,ab] dy)(BQ:aw y=true)(hm:∀y,y∈[dk]->SizeOf.sizeOf y<m)(gC:∀y,y∈[dx,dy]->SizeOf.sizeOf y<m):Pure ai X G 72 [.aj 350 (.fp [x,ab,k,ab,y,ab,b0])] (TS (Sk 10 [dk] [dx,dy])):=by
 obtain⟨uk,xk,ek⟩:=bA.ef;obtain rfl:k= .aj uk xk:=by injection ek
 have gB:aw xk=true:=jS;obtain⟨ux,xx,ex⟩:=eK.ef;obtain rfl:x= .aj ux xx:=by injection ex
 have bX:aw xx=true:=zD;obtain⟨uy,xy,ey⟩:=jC.ef;obtain rfl:y= .aj uy xy:=by injection ey
 have xL:aw xy=true:=B3;have h:Hid (bQ X G m):=h;have bG:Hid (cJ X G m):=bG;have hm:Hid (∀y,y∈[dk]->SizeOf.sizeOf y<m):=hm;have gC:Hid (∀y,y∈[dx,dy]->SizeOf.sizeOf y<m):=gC;refine ay xQ af ?_;refine cA ?_;open bi Me sd in exact az
theorem ayE{m:Nat}(h:bQ X G m)(bG:cJ X G m){k:PV}{dk:List PV}(bA:CE [k,ab] dk)(gz:aw k=true){x:PV}{dx:List PV}(eK:CS [x,ab] dx)(qQ:aw x=true){y:PV}{dy:List PV}(jC:CS [y,ab] dy)(BQ:aw y=true)(hm:∀y,y∈[dk]->SizeOf.sizeOf y<m)(gC:∀y,y∈[dx,dy]->SizeOf.sizeOf y<m):Pure ai X G 72 [.aj 353 (.fp [x,ab,k,ab,y,ab,ab,.int .i32 0,b0])] (TS (Sd 11 0 dV (fg false 2) e0 (.sl [dk]) (.sl [dx,dy]) e0 e0 e0 e0)):=by
 obtain⟨uk,xk,ek⟩:=bA.ef;obtain rfl:k= .aj uk xk:=by injection ek
 have gB:aw xk=true:=jS;obtain⟨ux,xx,ex⟩:=eK.ef;obtain rfl:x= .aj ux xx:=by injection ex
 have bX:aw xx=true:=zD;obtain⟨uy,xy,ey⟩:=jC.ef;obtain rfl:y= .aj uy xy:=by injection ey
 have xL:aw xy=true:=B3;have h:Hid (bQ X G m):=h;have bG:Hid (cJ X G m):=bG;have hm:Hid (∀y,y∈[dk]->SizeOf.sizeOf y<m):=hm;have gC:Hid (∀y,y∈[dx,dy]->SizeOf.sizeOf y<m):=gC;refine ay xQ af ?_;refine cA ?_;open bi Mf sd in exact az
theorem ayF{m:Nat}(h:bQ X G m)(bG:cJ X G m){k:PV}{dk:List PV}(bA:CE [k,ab] dk)(gz:aw k=true){x:PV}{dx:List PV}(eK:CS [x,ab] dx)(qQ:aw x=true){y:PV}{dy:List PV}(jC:CS [y,ab] dy)(BQ:aw y=true)(hm:∀y,y∈[dk]->SizeOf.sizeOf y<m)(gC:∀y,y∈[dx,dy]->SizeOf.sizeOf y<m):Pure ai X G 72 [.aj 353 (.fp [x,ab,k,ab,y,ab,ab,.int .i32 5,b0])] (TS (Sd 11 0 dV (fg true 2) e0 (.sl [dk]) (.sl [dx,dy]) e0 e0 e0 e0)):=by
 obtain⟨uk,xk,ek⟩:=bA.ef;obtain rfl:k= .aj uk xk:=by injection ek
 have gB:aw xk=true:=jS;obtain⟨ux,xx,ex⟩:=eK.ef;obtain rfl:x= .aj ux xx:=by injection ex
 have bX:aw xx=true:=zD;obtain⟨uy,xy,ey⟩:=jC.ef;obtain rfl:y= .aj uy xy:=by injection ey
 have xL:aw xy=true:=B3;have h:Hid (bQ X G m):=h;have bG:Hid (cJ X G m):=bG;have hm:Hid (∀y,y∈[dk]->SizeOf.sizeOf y<m):=hm;have gC:Hid (∀y,y∈[dx,dy]->SizeOf.sizeOf y<m):=gC;refine ay xQ af ?_;refine cA ?_;open bi Mf sd in exact az
theorem ayG{m:Nat}(h:bQ X G m)(bG:cJ X G m){k:PV}{dk:List PV}(bA:CE [k,ab] dk)(gz:aw k=true){x:PV}{dx:List PV}(eK:CS [x,ab] dx)(qQ:aw x=true)(hm:∀y,y∈[dk]->SizeOf.sizeOf y<m)(gC:∀y,y∈[dx]->SizeOf.sizeOf y<m):Pure ai X G 72 [.aj 356 (.fp [x,ab,k,ab])] (TS (Sk 12 [dk] [dx])):=by
 obtain⟨uk,xk,ek⟩:=bA.ef;obtain rfl:k= .aj uk xk:=by injection ek
 have gB:aw xk=true:=jS;obtain⟨ux,xx,ex⟩:=eK.ef;obtain rfl:x= .aj ux xx:=by injection ex
 have bX:aw xx=true:=zD;have h:Hid (bQ X G m):=h;have bG:Hid (cJ X G m):=bG;have hm:Hid (∀y,y∈[dk]->SizeOf.sizeOf y<m):=hm;have gC:Hid (∀y,y∈[dx]->SizeOf.sizeOf y<m):=gC;refine ay xQ af ?_;refine cA ?_;open bi CL sd in exact az
theorem ayH{m:Nat}(h:bQ X G m)(bG:cJ X G m){k:PV}{dk:List PV}(bA:CE [k,ab] dk)(gz:aw k=true){x:PV}{dx:List PV}(eK:CS [x,ab] dx)(qQ:aw x=true)(hm:∀y,y∈[dk]->SizeOf.sizeOf y<m)(gC:∀y,y∈[dx]->SizeOf.sizeOf y<m):Pure ai X G 72 [.aj 359 (.fp [k,ab,x,ab,b0])] (TS (Sk 13 [dk] [dx])):=by
 obtain⟨uk,xk,ek⟩:=bA.ef;obtain rfl:k= .aj uk xk:=by injection ek
 have gB:aw xk=true:=jS;obtain⟨ux,xx,ex⟩:=eK.ef;obtain rfl:x= .aj ux xx:=by injection ex
 have bX:aw xx=true:=zD;have h:Hid (bQ X G m):=h;have bG:Hid (cJ X G m):=bG;have hm:Hid (∀y,y∈[dk]->SizeOf.sizeOf y<m):=hm;have gC:Hid (∀y,y∈[dx]->SizeOf.sizeOf y<m):=gC;refine ay xQ af ?_;refine cA ?_;open bi CL sd in exact az
theorem ayI{m:Nat}(h:bQ X G m)(bG:cJ X G m){k:PV}{dk:List PV}(bA:CE [k,ab] dk)(gz:aw k=true){x:PV}{dx:List PV}(eK:CS [x,ab] dx)(qQ:aw x=true)(hm:∀y,y∈[dk]->SizeOf.sizeOf y<m)(gC:∀y,y∈[dx]->SizeOf.sizeOf y<m):Pure ai X G 73 [.aj 366 (.fp [k,ab,x,ab,ab,b0])] (TS (Sk 14 [dk] [dx])):=by
 obtain⟨uk,xk,ek⟩:=bA.ef;obtain rfl:k= .aj uk xk:=by injection ek
 have gB:aw xk=true:=jS;obtain⟨ux,xx,ex⟩:=eK.ef;obtain rfl:x= .aj ux xx:=by injection ex
 have bX:aw xx=true:=zD;have h:Hid (bQ X G m):=h;have bG:Hid (cJ X G m):=bG;have hm:Hid (∀y,y∈[dk]->SizeOf.sizeOf y<m):=hm;have gC:Hid (∀y,y∈[dx]->SizeOf.sizeOf y<m):=gC;refine ay qZ af ?_;refine cA ?_;open bi CL sd in exact az
theorem ayJ{m:Nat}(h:bQ X G m)(bG:cJ X G m){k:PV}{dk:List PV}(bA:CE [k,ab] dk)(gz:aw k=true){x:PV}{dx:List PV}(eK:CS [x,ab] dx)(qQ:aw x=true)(hm:∀y,y∈[dk]->SizeOf.sizeOf y<m)(gC:∀y,y∈[dx]->SizeOf.sizeOf y<m):Pure ai X G 73 [.aj 363 (.fp [k,ab,x,ab,.aF,ab,b0,b0])] (TS (Sk 8 [dk] [dx])):=by
 obtain⟨uk,xk,ek⟩:=bA.ef;obtain rfl:k= .aj uk xk:=by injection ek
 have gB:aw xk=true:=jS;obtain⟨ux,xx,ex⟩:=eK.ef;obtain rfl:x= .aj ux xx:=by injection ex
 have bX:aw xx=true:=zD;have h:Hid (bQ X G m):=h;have bG:Hid (cJ X G m):=bG;have hm:Hid (∀y,y∈[dk]->SizeOf.sizeOf y<m):=hm;have gC:Hid (∀y,y∈[dx]->SizeOf.sizeOf y<m):=gC;refine ay qZ af ?_;refine cA ?_;open bi CL sd in exact az
theorem ayK{m:Nat}(h:bQ X G m)(bG:cJ X G m){k:PV}{dk:List PV}(bA:CE [k,ab] dk)(gz:aw k=true){x:PV}{dx:List PV}(eK:CS [x,ab] dx)(qQ:aw x=true){y:PV}{dy:List PV}(jC:CS [y,ab] dy)(BQ:aw y=true)(hm:∀y,y∈[dk]->SizeOf.sizeOf y<m)(gC:∀y,y∈[dx,dy]->SizeOf.sizeOf y<m):Pure ai X G 73 [.aj 363 (.fp [k,ab,x,ab,y,ab,b0,b0])] (TS (Sk 8 [dk] [dx,dy])):=by
 obtain⟨uk,xk,ek⟩:=bA.ef;obtain rfl:k= .aj uk xk:=by injection ek
 have gB:aw xk=true:=jS;obtain⟨ux,xx,ex⟩:=eK.ef;obtain rfl:x= .aj ux xx:=by injection ex
 have bX:aw xx=true:=zD;obtain⟨uy,xy,ey⟩:=jC.ef;obtain rfl:y= .aj uy xy:=by injection ey
 have xL:aw xy=true:=B3;have h:Hid (bQ X G m):=h;have bG:Hid (cJ X G m):=bG;have hm:Hid (∀y,y∈[dk]->SizeOf.sizeOf y<m):=hm;have gC:Hid (∀y,y∈[dx,dy]->SizeOf.sizeOf y<m):=gC;refine ay qZ af ?_;refine cA ?_;open bi Me sd in exact az
namespace acI
theorem bw(h:p:=by
 first
 |(refine aO (acz bA gz) bS (cB) ?_;rintro _ ⟨uk,xk,rfl,gB,sk⟩;have aC3:=fun(n:Nat) (H:al)=>aH (n:=n) (H:=H) gB;refine cA ?_)<;>exact az
 |(refine aO (acz jB B5) bS (cB) ?_;rintro _ ⟨ul,xl,rfl,oW,sl⟩;have aC4:=fun(n:Nat) (H:al)=>aH (n:=n) (H:=H) oW;refine cA ?_)<;>exact az
 |(refine aO (ayp GZ qQ) bS (cB) ?_;rintro _ ⟨ux,xx,rfl,bX,sx⟩;have aC5:=fun(n:Nat) (H:al)=>aH (n:=n) (H:=H) bX;refine cA ?_)<;>exact az
 |(refine ka 120 bS (fun K hK=>?_);have hK:Hid _:=hK;refine cA ?_;refine kb (KY (show bQ X G m from h) (show cJ X G m from bG) (S3 sk sl gB oW) (show∀y,y∈[dk,dl]->SizeOf.sizeOf y<m from hm) (Cl sx bX jC xL) (show∀y,y∈[dx,dy]->SizeOf.sizeOf y<m from gC) rfl rfl rfl rfl rfl rfl rfl) (fun r hr=>(show∀r ids,_ from hK) _ _ ?_);clear hK;obtain⟨v1,v2,rfl,cc,cN,bL,cC,en,aW⟩:=hr;have jY:=cc.cells;have jZ:=fun(n:Nat) (H:al)=>aH (n:=n) (H:=H) cN;have mc:=cC.cells;have nG:=fun(n:Nat) (H:al)=>aH (n:=n) (H:=H) en;refine cA ?_)<;>exact az
 |fail):p:=h
end acI
theorem ayL{m:Nat}(h:bQ X G m)(bG:cJ X G m){x k l:PV}{dx dk dl:List PV}(GZ:CH [x,ab] dx)(qQ:aw x=true)(bA:CG [k,ab] dk)(gz:aw k=true)(jB:CG [l,ab] dl)(B5:aw l=true){y:PV}{dy:List PV}(jC:CS [y,ab] dy)(BQ:aw y=true)(hm:∀y,y∈[dk,dl]->SizeOf.sizeOf y<m)(gC:∀y,y∈[dx,dy]->SizeOf.sizeOf y<m):Pure ai X G 72 [.aj 345 (.fp [x,ab,k,ab,l,ab,y,ab,b0,b0])] (TS (Sk 9 [dk,dl] [dx,dy])):=by
 obtain⟨uy,xy,ey⟩:=jC.ef;obtain rfl:y= .aj uy xy:=by injection ey
 have xL:aw xy=true:=B3;have h:Hid (bQ X G m):=h;have bG:Hid (cJ X G m):=bG;have hm:Hid (∀y,y∈[dk,dl]->SizeOf.sizeOf y<m):=hm;have gC:Hid (∀y,y∈[dx,dy]->SizeOf.sizeOf y<m):=gC;refine ay xQ af ?_;refine cA ?_;open acI bi sd in exact az
namespace acJ
theorem bw(h:p:=by
 first
 |(refine ka 123 bS (fun K hK=>?_);have hK:Hid _:=hK;refine cA ?_;refine kb (sJ (show cJ X G m from bG) hw (show∀y,y∈ss->SizeOf.sizeOf y<m from hm) rfl rfl rfl rfl rfl rfl rfl) (fun r hr=>(show∀r ids,_ from hK) _ _ ?_);clear hK;obtain⟨v1,rfl,cc,cN,bL⟩:=hr;have jY:=cc.cells;have jZ:=fun(n:Nat) (H:al)=>aH (n:=n) (H:=H) cN;refine cA ?_)<;>exact az
 |fail):p:=h
theorem bj(h:p:=by
 first
 |skip
  all_goals exact⟨_,_,_,_,_,_,_,_,_,_,_,rfl,rfl,rfl,cN,rfl,rfl,rfl,rfl,SG p7 rfl nl nl (cd.sl cc bL) nl nl nl nl⟩
  done
 |fail):p:=h
end acJ
theorem ayM{m:Nat}(bG:cJ X G m){bd:PV}{ss:List (List PV)}(hw:br CS bd ss)(hm:∀y,y∈ss->SizeOf.sizeOf y<m):Pure ai X G 73 [.aj 362 (.fp [bd,ab])] (TS (Sk 7 [] ss)):=by
 have bG:Hid (cJ X G m):=bG;have hm:Hid (∀y,y∈ss->SizeOf.sizeOf y<m):=hm;have ij:=hw.1.1;have sI:=hw.1.2.1;have oS:=ij.cells;refine ay qZ af ?_;refine cA ?_;open acJ bi in exact az
namespace acK
theorem bw(h:p:=by
 first
 |(refine ka 123 bS (fun K hK=>?_);have hK:Hid _:=hK;refine cA ?_;refine kb (sJ (show cJ X G m from bG) (Tk eK bX) (show∀y,y∈[dx]->SizeOf.sizeOf y<m from hm) rfl rfl rfl rfl rfl rfl rfl) (fun r hr=>(show∀r ids,_ from hK) _ _ ?_);clear hK;obtain⟨v1,rfl,cc,cN,bL⟩:=hr;have jY:=cc.cells;have jZ:=fun(n:Nat) (H:al)=>aH (n:=n) (H:=H) cN;refine cA ?_)<;>exact az
 |fail):p:=h
theorem bj(h:p:=by
 first
 |skip
  all_goals exact⟨_,_,_,_,_,_,_,_,_,_,_,rfl,rfl,rfl,cN,rfl,rfl,rfl,rfl,SG (.refl _) rfl nl nl (cd.sl cc bL) nl nl nl nl⟩
  done
 |fail):p:=h
end acK
theorem ayN{m:Nat}(bG:cJ X G m){x:PV}{dx:List PV}(eK:CS [x,ab] dx)(qQ:aw x=true)(n:Int)(hn:0<=n/\n<1000)(hm:∀y,y∈[dx]->SizeOf.sizeOf y<m):Pure ai X G 73 [.aj 369 (.fp [x,ab,ab,.int .u32 0,.int .u32 n,b0])] (TS (Sd 17 0 (.int .i64 n) 0 e0 e0 (.sl [dx]) e0 e0 e0 e0)):=by
 obtain⟨ux,xx,ex⟩:=eK.ef;obtain rfl:x= .aj ux xx:=by injection ex
 have bX:aw xx=true:=zD;have bG:Hid (cJ X G m):=bG;have hm:Hid (∀y,y∈[dx]->SizeOf.sizeOf y<m):=hm;have hw:=wrap_i64 (n:=n) ad ad;refine ay qZ af ?_;refine cA ?_;open acK bi in exact az
end
end Go.Pi
end
