import Derived.Test.YtofdfffpmbgogaaGreatDoorP09
import Derived.Test.YtofdfffpmbgogaaGreatDoorP10
import Derived.Test.YtofdfffpmbgogaaGreatDoorP11
import Derived.Test.YtofdfffpmbgogaaGreatDoorP12
import Derived.Test.YtofdfffpmbgogaaGreatDoorP16
import Derived.Test.YtofdfffpmbgogaaGreatDoorP18
import Derived.Test.YtofdfffpmbgogaaGreatDoorP19
/- Part of the proof. -/
set_option linter.all false
section
namespace Go.Pi
section
variable{T:Nat->Option FX}{X:aS}{G:Nat->PV}{Q:Ex->St->Prop}{w:List Wk}
variable{i len id n:Nat}{tr:er}{d:Option Nat}{os:List XO}{t:Nat->PV}{H:al}
theorem cO{P:List PV->Prop}{s:Nat}{v:PV}{m:Int}(hs:∀{y},P y->y.length=s)(h:aB P v)(h0:0<=m)(cE:m<(ae v).length)
 (k:∀y,P y->y∈ae v->(ae v)[m.toNat]?=some y->M T X G (.ops i os len tr::w) ⟨put t d (.fp y),H,n⟩ Q):eD T X G s v (.int .i64 m) d i os len tr w t H n Q:=aiC hs h.1 h.2.2 h0 cE k
theorem zw{s:Nat}{v:PV}{m:Int}{y:List PV}(hg:(ae v)[m.toNat]?=some y)(hs:y.length=s)(hv:aQ v)(h0:0<=m)
 (k:M T X G (.ops i os len tr::w) ⟨put t d (.fp y),H,n⟩ Q):eD T X G s v (.int .i64 m) d i os len tr w t H n Q:=by
 obtain⟨p,rfl⟩:=Int.eq_ofNat_of_zero_le h0;obtain⟨hp,hy⟩:=List.getElem?_eq_some_iff.1 hg;have hp:p<(ae v).length:=by simpa using hp
 have hy:(ae v)[p]=y:=by simpa using hy
 have kP:=PJ (s:=s) hv hp (by rw[hy];exact hs);unfold eD;rw[kP];rw[hy];exact k
def Ml(T:Nat->Option FX)(X:aS)(G:Nat->PV)(s:Nat)(v j:PV)(d:Option Nat)(i:Nat)(os:List XO)(len:Nat)(tr:er)(w:List Wk)(t:Nat->PV)(H:al)(n:Nat)(Q:Ex->St->Prop):Prop:=
 MR T X G ((cx (ev (fun _=>v) (fun _=>j)) H 0 0 (.kj s (.g 0) (some (.t 0)) none)).map fun r=>(r.1,H.fK r.2)) d i os len tr w t n Q
theorem arM{s:Nat}{x j:bK}:M T X G (.ops i (⟨d,none,id,.kj s x (some j) none⟩::os) len tr::w) ⟨t,H,n⟩ Q↔Ml T X G s (ev G t x) (ev G t j) d (i+1) os len (push tr ([],[])) w t H n Q:=PC s x (some j) none
theorem arN{xs ys:List (List PV)}(h:jx xs=true)(hs:∀y,y∈ys->y∈xs):jx ys=true:=qo fun y hy=>zg h y (hs y hy)
theorem dD{P:List PV->Prop}{s:Nat}{v:PV}{m:Int}(hs:∀{y},P y->y.length=s)(h:aB P v)(h0:0<=m)(cE:m<=(ae v).length)
 (k:∀v',aB P v'->ae v'=(ae v).drop m.toNat->M T X G (.ops i os len tr::w) ⟨put t d v',H,n⟩ Q):Ml T X G s v (.int .i64 m) d i os len tr w t H n Q:=by
 obtain⟨p,rfl⟩:=Int.eq_ofNat_of_zero_le h0;obtain⟨h1,h2,h3⟩:=h;unfold Ml;rcases h1 with rfl|⟨xs,rfl,hl⟩
 ·simp only[ae,List.length_nil]at cE;have:p=0:=by omega
  subst this;exact k .ah ⟨.inl rfl,rfl,h3⟩ (by simp[ae])
 ·simp only[ae]at cE h3;have e:cx (ev (fun _=> .sl xs) (fun _=> .int .i64 (p:Int))) H 0 0 (.kj s (.g 0) (some (.t 0)) none)=some (.sl (xs.drop p),none):=by
   have hp:p<=xs.length:=by omega
   have ha:xs.all (fun c=>c.length==s)=true:=by simp only[List.all_eq_true,beq_iff_eq];exact fun y hy=>hs (h3 y hy)
   simp only[cx,ev,jh,m8];rw[if_pos (by omega)];simp only[Int.toNat_natCast];rw[if_pos ⟨hp,Nat.le_refl _,ha⟩,List.take_length]
  rw[e];refine k (.sl (xs.drop p)) ⟨.inr ⟨_,rfl,by simp;omega⟩,?_,fun y hy=>h3 y (List.mem_of_mem_drop hy)⟩ (by simp[ae]);simp only[aw]at h2⊢;exact arN h2 fun y hy=>List.mem_of_mem_drop hy
end
theorem aB.Jh{P:List PV->Prop}{b g o:Nat}(h:aB P (.ptr b g o)):False:=by
 rcases h.1 with h|⟨xs,h,_⟩<;>cases h
theorem pN{T:Nat->Option FX}{X:aS}{G:Nat->PV}{Q:Ex->St->Prop}{w:List Wk}{c:Bool}{a b:List XC}{s:St}(h1:c=true->M T X G (b.map .code++w) s Q)(h2:c=false->M T X G (a.map .code++w) s Q):MB T X G (.bool (!c)) a b w s Q:=by
 cases c
 ·exact Jb.2 (h2 rfl)
 ·exact Jc.2 (h1 rfl)
attribute [go_sem] arM
end Go.Pi
end
section
namespace Go.Pi
section
variable{T:Nat->Option FX}{X:aS}{G:Nat->PV}{Q:Ex->St->Prop}{w:List Wk}
variable{i len id n:Nat}{tr:er}{d:Option Nat}{os:List XO}{t:Nat->PV}{H:al}
def Mt(T:Nat->Option FX)(X:aS)(G:Nat->PV)(f:Nat)(args:List PV)(R:Bool->PV->Prop):Prop:=
 ∀(e:Nat)(aZ:Bool),∃r cells,Fn T X G f (.ptr 0 0 0::args) (some ⟨e,0,[.bool aZ],0⟩) r cells/\∃qI,cells=[.bool qI]/\(qI=true->aZ=true)/\R qI r
theorem dw{F:Prop}{f e:Nat}{b0:Bool}{args:List PV}{R:Bool->PV->Prop}(hM:Mt T X G f args R)(h0:H 0=some ⟨e,0,[.bool b0],0⟩)(hd:aP args=true)(hF:b0=true->F)
 (k:∀r b1,R b1 r->(b1=true->b0=true)->(b1=true->F)->M T X G (.ops i os len tr::w) ⟨put t d r,H.put 0 (some ⟨e,0,[.bool b1],0⟩),n⟩ Q)(eT:lj f=false:=by rfl):MC T X G f (.ptr 0 0 0::args) d i os len tr w t H n Q:=by
 obtain⟨r,cells,h1,b1,rfl,hb,h2⟩:=hM e b0;refine qC eT h0 rfl (by rfl) (ly hd) (by rfl) ⟨r,_,h1,rfl,?_⟩;rw[oZ];exact k r b1 h2 hb fun h=>hF (hb h)
theorem qS{F:Prop}{ops:List XO}(lo:Nat){b e:Nat}{b0:Bool}(h1:zt ops=some lo)(h2:EK ops=some b)(hF:b0=true->F)
 (h:∀R t0 H0,(∀i,t0 i=t i)->(∀i,H0 i=H i)->(∀t' n' c b1,lO lo b t0 t'->t' b= .bool c->(b1=true->F)->M T X G R ⟨t',H0.put 0 (some ⟨e,0,[.bool b1],0⟩),n'⟩ Q)->M T X G (.code (.ng ops)::R) ⟨t0,H0,n⟩ Q)
 (hk:∀c g n' b1,(b1=true->F)->M T X G w ⟨forget lo b (.bool c) g t,H.put 0 (some ⟨e,0,[.bool b1],0⟩),n'⟩ Q):M T X G (.code (.ng ops)::w) ⟨t,H,n⟩ Q:=
 h w t H (fun _=>rfl) (fun _=>rfl) fun t' n' c b1 hl hb hF=>by rw[BA hl hb];exact hk _ _ _ _ hF
theorem al.arO(H:al)(b:Nat)(c c':Option Chunk):(H.put b c).put b c'=H.put b c':=by
 funext x;simp only[al.put];split<;>rfl
end
end Go.Pi
end
section
open Go Go.Pi
namespace Go.Pi
variable{p q a:Prop}
set_option maxRecDepth 100000
set_option maxHeartbeats 0
def azf(r:PV):Prop:=∃n,r= .int .i64 n
def FlR(r:PV):Prop:=∃n,r= .int .i64 n/\(n=0\/n=16\/n=32)
def kY(x:List PV):Prop:=∀(kind op aA chain flags:Int)(nn:Nat)(str:PV)(text:ByteArray)(kids bf parts aC aG:PV),x=[.int .i64 kind,.int .i64 op,.int .i64 aA,.int .i64 chain,.int .i64 flags,.bR .f64 nn,str,.str text,kids,bf,parts,aC,aG]->
 fP kind op aA chain flags nn (ae str).length text.size (ae kids).length (ae bf).length (ae parts).length (ae aC).length (ae aG).length
section
variable{X:aS}{G:Nat->PV}
def SE(X:aS)(G:Nat->PV)(y:List PV):Prop:=∀here deep:Int,Pure ai X G 96 [.agg y,.int .i64 here,.int .i64 deep] (fm (cD y))
def SB(X:aS)(G:Nat->PV)(y:List PV):Prop:=∀deep:Int,Pure ai X G 97 [.agg y,.int .i64 deep] (fm (nH y))
def SS(X:aS)(G:Nat->PV)(y:List PV):Prop:=∀deep:Int,Pure ai X G 25 [.agg y,.int .i64 deep] (fm (dJ y))
structure mj(X:aS)(G:Nat->PV)(m:Nat):Prop where
 e:∀{y},EZ m y->SE X G y
 b:∀{y},BZ m y->SB X G y
 s:∀{y},SZ m y->SS X G y
theorem aj9(n:Nat):Pure ai X G 160 [.bR .f64 n] (fun r=>r= .bool (decide (IntKind.i64.wrap (n:Int)<0))):=by
 refine ay aql af ?_;exact nB
namespace ac6
theorem aU(x:a)(g:q)(h:a->q->p:=by(intro x g;exact nA (Kj x (Kj aI eU)) g)):p:=h x g
theorem bw(h:p:=by
 first
 |exact akd
 |((refine⟨_,rfl,fun hq=>?_⟩;(try simp only[decide_eq_true_eq]at hq);first|exact⟨ad,ad⟩|done|fail))<;>exact b7
 |fail):p:=h
end ac6
theorem SM(n:Int):Pure ai X G 55 [.int .i64 n] (fm (0<=n/\n<1000)):=by
 refine ay T55 af ?_;refine P9 ?_;open ac6 in exact b7
namespace ac7
theorem bw(h:p:=by
 first
 |exact⟨_,rfl,ad⟩
 |fail):p:=h
end ac7
theorem aka{m:Nat}{x:List PV}(hx:aR x)(hm:SizeOf.sizeOf x<=m):Pure ai X G 161 [.agg x] FlR:=by
 obtain⟨kind,op,aA,chain,flags,nn,str,text,kids,bf,parts,aC,aG,rfl,hn,ao,ht,aq,aE,aD,av,au⟩:=hx.open (hm);refine ay aqm af ?_;refine nA (Kj ao.1 (Kj ao.2.1 (Kj aq.1 (Kj aq.2.1 (Kj aE.1 (Kj aE.2.1 (Kj aD.1 (Kj aD.2.1 (Kj av.1 (Kj av.2.1 (Kj au.1 au.2.1))))))))))) ?_;open ac7 jD GA in exact b7
theorem s94{m:Nat}{x:List PV}(hx:aR x)(hm:SizeOf.sizeOf x<=m):Pure ai X G 137 [.agg x] Je:=by
 obtain⟨kind,op,aA,chain,flags,nn,str,text,kids,bf,parts,aC,aG,rfl,hn,ao,ht,aq,aE,aD,av,au⟩:=hx.open (hm);refine ay ap4 af ?_;refine nA (Kj ao.1 (Kj ao.2.1 (Kj aq.1 (Kj aq.2.1 (Kj aE.1 (Kj aE.2.1 (Kj aD.1 (Kj aD.2.1 (Kj av.1 (Kj av.2.1 (Kj au.1 au.2.1))))))))))) ?_;open jD GA in exact b7
theorem s96{m:Nat}{x:List PV}(hx:aR x)(hm:SizeOf.sizeOf x<=m):Pure ai X G 139 [.agg x] azf:=by
 obtain⟨kind,op,aA,chain,flags,nn,str,text,kids,bf,parts,aC,aG,rfl,hn,ao,ht,aq,aE,aD,av,au⟩:=hx.open (hm);refine ay ap6 af ?_;refine nA (Kj ao.1 (Kj ao.2.1 (Kj aq.1 (Kj aq.2.1 (Kj aE.1 (Kj aE.2.1 (Kj aD.1 (Kj aD.2.1 (Kj av.1 (Kj av.2.1 (Kj au.1 au.2.1))))))))))) ?_;open jD GA in exact b7
namespace ac8
theorem aU(x:a)(g:q)(h:a->q->p:=by(intro x g;exact nA (Kj x (Kj h0 (Kj h1 (Kj h2 (Kj hI (Kj lv.1 (Kj aI eU))))))) g)):p:=h x g
theorem cr(h:p:=by
 first
 |(refine next (n - 1) ad _ ⟨i+1,ad,sA h0,sA h1,sA h2,rQ,dL.succ hU B0 ax⟩)
 |fail):p:=h
theorem bw(h:p:=by
 first
 |(refine aO (ih.e ‹EZ m _› _ _) pE iW ?_;exact lz)
 |exact akd
 |exact SH
 |fail):p:=h
end ac8
theorem SQ{m:Nat}{v:PV}(here deep:Int)(ih:mj X G m)(lv:aB (EZ m) v):Pure ai X G 49 [v,.int .i64 here,.int .i64 deep] (fm (∀y,y∈ae v->cD y)):=by
 refine ay T49 af ?_;refine P9 ?_;have hB:=lv.1.len;refine b5 (fun n s=>∃i:Nat,i+n=(ae v).length/\s.t 0=v/\s.t 1= .int .i64 here/\s.t 2= .int .i64 deep/\s.t 7= .int .i64 i/\dL cD v i) ?_ (n:=(ae v).length) ⟨0,af,nB,nB,nB,nB,dL.zero⟩;rintro n ⟨t,H,k⟩ ⟨i,hi,h0,h1,h2,hI,hU⟩ next
 simp only at h0 h1 h2 hI;refine nA (Kj h0 (Kj h1 (Kj h2 (Kj hI lv.1)))) ?_;open ac8 in exact b7
namespace ac9
theorem bw(h:p:=by
 first
 |(refine aO (SQ _ _ ih lv) pE iW ?_;exact lz)
 |exact akd
 |((refine⟨_,rfl,fun hq=>?_⟩;(try simp only[decide_eq_true_eq]at hq);first|exact⟨ad,ad,ax⟩|done|fail))<;>exact b7
 |fail):p:=h
end ac9
theorem Kc{m:Nat}{v:PV}(least most here deep:Int)(ih:mj X G m)(lv:aB (EZ m) v):Pure ai X G 98 [v,.int .i64 least,.int .i64 most,.int .i64 here,.int .i64 deep] (fm (least<=(ae v).length/\(ae v).length<=most/\∀y,y∈ae v->cD y)):=by
 refine ay T98 af ?_;refine EL (Kj lv.1 lv.2.1) ?_;open ac9 GB in exact b7
namespace ada
theorem bw(h:p:=by
 first
 |(refine aO (Kc _ _ _ _ ih lv) pE iW ?_;exact lz)
 |exact akd
 |((refine⟨_,rfl,fun hq=>?_⟩;(try simp only[decide_eq_true_eq]at hq);first|exact⟨ad,ax⟩|done|fail))<;>exact b7
 |fail):p:=h
end ada
theorem SI{m:Nat}{v:PV}(flags here deep:Int)(ih:mj X G m)(lv:aB (EZ m) v):Pure ai X G 99 [v,.int .i64 flags,.int .i64 here,.int .i64 deep] (fm ((ae v).length=1/\∀y,y∈ae v->cD y)):=by
 refine ay T99 af ?_;refine nA (Kj lv.1 lv.2.1) ?_;open ada GB in exact b7
namespace adb
theorem bw(h:p:=by
 first
 |exact akd
 |((refine⟨_,rfl,fun hq=>?_⟩;(try simp only[decide_eq_true_eq]at hq);first|exact(by first|omega|simp)|done|fail))<;>exact b7
 |fail):p:=h
end adb
theorem SO{m:Nat}{x:List PV}(gp:Int)(hx:aR x)(hm:SizeOf.sizeOf x<=m):Pure ai X G 100 [.int .i64 gp,.agg x] (fm (gp=1\/gp=2\/gp=3)):=by
 obtain⟨kind,op,aA,chain,flags,nn,str,text,kids,bf,parts,aC,aG,rfl,hn,ao,ht,aq,aE,aD,av,au⟩:=hx.open (hm);refine ay aoY af ?_;refine EL (Kj ao.1 (Kj ao.2.1 (Kj aq.1 (Kj aq.2.1 (Kj aE.1 (Kj aE.2.1 (Kj aD.1 (Kj aD.2.1 (Kj av.1 (Kj av.2.1 (Kj au.1 au.2.1))))))))))) ?_;open adb jD in exact b7
namespace ade
theorem aU(x:a)(g:q)(h:a->q->p:=by(intro x g;exact nA (Kj x (Kj h1 (Kj h2 (Kj hI (Kj e1 (Kj ao.1 (Kj ao.2.1 (Kj aq.1 (Kj aq.2.1 (Kj aE.1 (Kj aE.2.1 (Kj aD.1 (Kj aD.2.1 (Kj av.1 (Kj av.2.1 (Kj au.1 (Kj au.2.1 (Kj aI eU)))))))))))))))))) g)):p:=h x g
theorem cr(h:p:=by
 first
 |(refine next (n - 1) ad _ ⟨i+1,ad,sA h1,sA h2,rQ,sA e1,dL.succ hU (by have h9:=‹(ae parts)[((_:Nat):Int).toNat]?=some _›;simpa using h9) (.mk _ _ _ ad ax)⟩)
 |fail):p:=h
theorem bw(h:p:=by
 first
 |exact SJ
 |exact akd
 |((refine⟨_,rfl,fun hq=>?_⟩;(try simp only[decide_eq_true_eq]at hq);first|exact(show∀y,y∈ae parts->qV y from hU.all ad)|done|fail))<;>exact b7
 |fail):p:=h
end ade
theorem s97{m:Nat}{x:List PV}(deep:Int)(ih:mj X G m)(hx:aR x)(hm:SizeOf.sizeOf x<=m):Pure ai X G 140 [.agg x,.int .i64 deep] (fm (∀y,y∈ae (x.getD 10 .undef)->qV y)):=by
 obtain⟨kind,op,aA,chain,flags,nn,str,text,kids,bf,parts,aC,aG,rfl,hn,ao,ht,aq,aE,aD,av,au⟩:=hx.open (hm);refine ay ap7 af ?_;refine EL (Kj ao.1 (Kj ao.2.1 (Kj aq.1 (Kj aq.2.1 (Kj aE.1 (Kj aE.2.1 (Kj aD.1 (Kj aD.2.1 (Kj av.1 (Kj av.2.1 (Kj au.1 au.2.1))))))))))) ?_;have hB:=aD.1.len;refine b5 (fun n s=>∃i:Nat,i+n=(ae parts).length/\s.t 1= .int .i64 deep/\s.t 2= .ptr 1 1 0/\s.t 5= .int .i64 i/\s.H 1=some ⟨47,1,[.int .i64 kind,.int .i64 op,.int .i64 aA,.int .i64 chain,.int .i64 flags,.bR .f64 nn,str,.str text,kids,bf,parts,aC,aG],0⟩/\dL qV parts i) ?_ (n:=(ae parts).length) ⟨0,af,sA (Kj ao.1 (Kj ao.2.1 (Kj aq.1 (Kj aq.2.1 (Kj aE.1 (Kj aE.2.1 (Kj aD.1 (Kj aD.2.1 (Kj av.1 (Kj av.2.1 (Kj au.1 au.2.1))))))))))),sA (Kj ao.1 (Kj ao.2.1 (Kj aq.1 (Kj aq.2.1 (Kj aE.1 (Kj aE.2.1 (Kj aD.1 (Kj aD.2.1 (Kj av.1 (Kj av.2.1 (Kj au.1 au.2.1))))))))))),sA (Kj ao.1 (Kj ao.2.1 (Kj aq.1 (Kj aq.2.1 (Kj aE.1 (Kj aE.2.1 (Kj aD.1 (Kj aD.2.1 (Kj av.1 (Kj av.2.1 (Kj au.1 au.2.1))))))))))),sA (Kj ao.1 (Kj ao.2.1 (Kj aq.1 (Kj aq.2.1 (Kj aE.1 (Kj aE.2.1 (Kj aD.1 (Kj aD.2.1 (Kj av.1 (Kj av.2.1 (Kj au.1 au.2.1))))))))))),dL.zero⟩;rintro n ⟨t,H,k⟩ ⟨i,hi,h1,h2,hI,e1,hU⟩ next
 simp only at h1 h2 hI e1;refine nA (Kj h1 (Kj h2 (Kj hI (Kj e1 (Kj ao.1 (Kj ao.2.1 (Kj aq.1 (Kj aq.2.1 (Kj aE.1 (Kj aE.2.1 (Kj aD.1 (Kj aD.2.1 (Kj av.1 (Kj av.2.1 (Kj au.1 au.2.1))))))))))))))) ?_;open ade in exact b7
end
end Go.Pi
end
section
open Go Go.Pi
namespace Go.Pi
variable{p q a:Prop}
set_option maxRecDepth 100000
set_option maxHeartbeats 0
section
variable{X:aS}{G:Nat->PV}
theorem azk{m:Nat}{x:List PV}(hx:aR x)(hm:SizeOf.sizeOf x<=m)(hk:x.getD 0 .undef= .int .i64 2):Pure ai X G 136 [.agg x] (fm (kY x)):=by
 have bY:=hx;obtain⟨kind,op,aA,chain,flags,nn,str,text,kids,bf,parts,aC,aG,rfl,hn,ao,ht,aq,aE,aD,av,au⟩:=hx.open (hm);cases hk;refine ay lZ af ?_;refine nA (Kj ao.1 (Kj ao.2.1 (Kj aq.1 (Kj aq.2.1 (Kj aE.1 (Kj aE.2.1 (Kj aD.1 (Kj aD.2.1 (Kj av.1 (Kj av.2.1 (Kj au.1 au.2.1))))))))))) ?_;open jD lY in exact b7
theorem azl{m:Nat}{x:List PV}(hx:aR x)(hm:SizeOf.sizeOf x<=m)(hk:x.getD 0 .undef= .int .i64 3):Pure ai X G 136 [.agg x] (fm (kY x)):=by
 have bY:=hx;obtain⟨kind,op,aA,chain,flags,nn,str,text,kids,bf,parts,aC,aG,rfl,hn,ao,ht,aq,aE,aD,av,au⟩:=hx.open (hm);cases hk;refine ay lZ af ?_;refine nA (Kj ao.1 (Kj ao.2.1 (Kj aq.1 (Kj aq.2.1 (Kj aE.1 (Kj aE.2.1 (Kj aD.1 (Kj aD.2.1 (Kj av.1 (Kj av.2.1 (Kj au.1 au.2.1))))))))))) ?_;open jD lY in exact b7
theorem azm{m:Nat}{x:List PV}(hx:aR x)(hm:SizeOf.sizeOf x<=m)(hk:x.getD 0 .undef= .int .i64 4):Pure ai X G 136 [.agg x] (fm (kY x)):=by
 have bY:=hx;obtain⟨kind,op,aA,chain,flags,nn,str,text,kids,bf,parts,aC,aG,rfl,hn,ao,ht,aq,aE,aD,av,au⟩:=hx.open (hm);cases hk;refine ay lZ af ?_;refine nA (Kj ao.1 (Kj ao.2.1 (Kj aq.1 (Kj aq.2.1 (Kj aE.1 (Kj aE.2.1 (Kj aD.1 (Kj aD.2.1 (Kj av.1 (Kj av.2.1 (Kj au.1 au.2.1))))))))))) ?_;open jD lY in exact b7
theorem azn{m:Nat}{x:List PV}(hx:aR x)(hm:SizeOf.sizeOf x<=m)(hk:x.getD 0 .undef= .int .i64 5):Pure ai X G 136 [.agg x] (fm (kY x)):=by
 have bY:=hx;obtain⟨kind,op,aA,chain,flags,nn,str,text,kids,bf,parts,aC,aG,rfl,hn,ao,ht,aq,aE,aD,av,au⟩:=hx.open (hm);cases hk;refine ay lZ af ?_;refine nA (Kj ao.1 (Kj ao.2.1 (Kj aq.1 (Kj aq.2.1 (Kj aE.1 (Kj aE.2.1 (Kj aD.1 (Kj aD.2.1 (Kj av.1 (Kj av.2.1 (Kj au.1 au.2.1))))))))))) ?_;open jD lY in exact b7
theorem azo{m:Nat}{x:List PV}(hx:aR x)(hm:SizeOf.sizeOf x<=m)(hk:x.getD 0 .undef= .int .i64 6):Pure ai X G 136 [.agg x] (fm (kY x)):=by
 have bY:=hx;obtain⟨kind,op,aA,chain,flags,nn,str,text,kids,bf,parts,aC,aG,rfl,hn,ao,ht,aq,aE,aD,av,au⟩:=hx.open (hm);cases hk;refine ay lZ af ?_;refine nA (Kj ao.1 (Kj ao.2.1 (Kj aq.1 (Kj aq.2.1 (Kj aE.1 (Kj aE.2.1 (Kj aD.1 (Kj aD.2.1 (Kj av.1 (Kj av.2.1 (Kj au.1 au.2.1))))))))))) ?_;open jD lY in exact b7
theorem azp{m:Nat}{x:List PV}(hx:aR x)(hm:SizeOf.sizeOf x<=m)(hk:x.getD 0 .undef= .int .i64 8):Pure ai X G 136 [.agg x] (fm (kY x)):=by
 have bY:=hx;obtain⟨kind,op,aA,chain,flags,nn,str,text,kids,bf,parts,aC,aG,rfl,hn,ao,ht,aq,aE,aD,av,au⟩:=hx.open (hm);cases hk;refine ay lZ af ?_;refine nA (Kj ao.1 (Kj ao.2.1 (Kj aq.1 (Kj aq.2.1 (Kj aE.1 (Kj aE.2.1 (Kj aD.1 (Kj aD.2.1 (Kj av.1 (Kj av.2.1 (Kj au.1 au.2.1))))))))))) ?_;open jD lY in exact b7
theorem azq{m:Nat}{x:List PV}(hx:aR x)(hm:SizeOf.sizeOf x<=m)(hk:x.getD 0 .undef= .int .i64 12):Pure ai X G 136 [.agg x] (fm (kY x)):=by
 have bY:=hx;obtain⟨kind,op,aA,chain,flags,nn,str,text,kids,bf,parts,aC,aG,rfl,hn,ao,ht,aq,aE,aD,av,au⟩:=hx.open (hm);cases hk;refine ay lZ af ?_;refine nA (Kj ao.1 (Kj ao.2.1 (Kj aq.1 (Kj aq.2.1 (Kj aE.1 (Kj aE.2.1 (Kj aD.1 (Kj aD.2.1 (Kj av.1 (Kj av.2.1 (Kj au.1 au.2.1))))))))))) ?_;open jD lY in exact b7
theorem azr{m:Nat}{x:List PV}(hx:aR x)(hm:SizeOf.sizeOf x<=m)(hk:x.getD 0 .undef= .int .i64 13):Pure ai X G 136 [.agg x] (fm (kY x)):=by
 have bY:=hx;obtain⟨kind,op,aA,chain,flags,nn,str,text,kids,bf,parts,aC,aG,rfl,hn,ao,ht,aq,aE,aD,av,au⟩:=hx.open (hm);cases hk;refine ay lZ af ?_;refine nA (Kj ao.1 (Kj ao.2.1 (Kj aq.1 (Kj aq.2.1 (Kj aE.1 (Kj aE.2.1 (Kj aD.1 (Kj aD.2.1 (Kj av.1 (Kj av.2.1 (Kj au.1 au.2.1))))))))))) ?_;open jD lY in exact b7
theorem azs{m:Nat}{x:List PV}(hx:aR x)(hm:SizeOf.sizeOf x<=m)(hk:x.getD 0 .undef= .int .i64 14):Pure ai X G 136 [.agg x] (fm (kY x)):=by
 have bY:=hx;obtain⟨kind,op,aA,chain,flags,nn,str,text,kids,bf,parts,aC,aG,rfl,hn,ao,ht,aq,aE,aD,av,au⟩:=hx.open (hm);cases hk;refine ay lZ af ?_;refine nA (Kj ao.1 (Kj ao.2.1 (Kj aq.1 (Kj aq.2.1 (Kj aE.1 (Kj aE.2.1 (Kj aD.1 (Kj aD.2.1 (Kj av.1 (Kj av.2.1 (Kj au.1 au.2.1))))))))))) ?_;open jD lY in exact b7
end
end Go.Pi
end
