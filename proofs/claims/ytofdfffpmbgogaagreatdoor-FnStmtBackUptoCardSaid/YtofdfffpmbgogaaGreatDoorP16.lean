import Derived.Test.YtofdfffpmbgogaaGreatDoorP15
/- Part of the proof. -/
set_option linter.all false
section
namespace Go.Pi
def lO(lo b:Nat)(t t':Nat->PV):Prop:=∀i,i<lo->i≠b->t' i=t i
theorem lO.refl{lo b:Nat}{t:Nat->PV}:lO lo b t t:=fun _ _ _=>rfl
theorem lO.put{lo b:Nat}{t t':Nat->PV}{d:Nat}{v:PV}(hd:lo<=d\/d=b)(h:lO lo b t t'):lO lo b t (put t' (some d) v):=fun i hi hb=>(qD (by omega)).trans (h i hi hb)
def forget(lo b:Nat)(v:PV)(g t:Nat->PV):Nat->PV:=fun i=>if i=b then v else if i<lo then t i else g i
theorem P5{lo b:Nat}{v:PV}{g t:Nat->PV}:forget lo b v g t b=v:=if_pos rfl
theorem P6{lo b i:Nat}{v:PV}{g t:Nat->PV}(h:i≠b)(hl:i<lo):forget lo b v g t i=t i:=by simp only[forget,if_neg h,if_pos hl]
theorem BA{lo b:Nat}{v:PV}{t t':Nat->PV}(h:lO lo b t t')(hb:t' b=v):t'=forget lo b v t' t:=by
 funext i;by_cases hi:i=b
 ·subst hi;rw[P5,hb]
 ·by_cases hl:i<lo
  ·rw[P6 hi hl,h i hl hi]
  ·simp only[forget,if_neg hi,if_neg hl]
def zt(ops:List XO):Option Nat:=match ops with|o::_=>o.dst|[]=>none
def EK:List XO->Option Nat
 |[]=>none
 |[o]=>o.dst
 |_::os=>EK os
def Jf:List XO->Bool
 |[]=>false
 |o::os=>o.gd.isSome||Jf os
section
variable{T:Nat->Option FX}{X:aS}{G:Nat->PV}{Q:Ex->St->Prop}{w:List Wk}
variable{n:Nat}{t:Nat->PV}{H:al}
theorem P7{ops:List XO}{lo b:Nat}(h1:zt ops=some lo)(h2:EK ops=some b)(h3:Jf ops=true)
 (h:∀R t0 H0,(∀i,t0 i=t i)->(∀i,H0 i=H i)->(∀t' n' c,lO lo b t0 t'->t' b= .bool c->M T X G R ⟨t',H0,n'⟩ Q)->M T X G (.code (.ng ops)::R) ⟨t0,H0,n⟩ Q)
 (hk:∀c g n',M T X G w ⟨forget lo b (.bool c) g t,H,n'⟩ Q):M T X G (.code (.ng ops)::w) ⟨t,H,n⟩ Q:=
 h w t H (fun _=>rfl) (fun _=>rfl) fun t' n' c hl hb=>by rw[BA hl hb];exact hk _ _ _
theorem P8{ops:List XO}{ps:List (Nat×Nat)}{lo b:Nat}(h1:zt ops=some lo)(h2:EK ops=some b)(h3:Jf ops=true)
 (h:∀R t0 H0,(∀i,t0 i=t i)->(∀i,H0 i=H i)->(∀t' n' c,lO lo b t0 t'->t' b= .bool c->M T X G R ⟨t',H0,n'⟩ Q)->M T X G (.code (.uP ops ps)::R) ⟨t0,H0,n⟩ Q)
 (hk:∀c g n',M T X G w ⟨forget lo b (.bool c) g t,H,n'⟩ Q):M T X G (.code (.uP ops ps)::w) ⟨t,H,n⟩ Q:=
 h w t H (fun _=>rfl) (fun _=>rfl) fun t' n' c hl hb=>by rw[BA hl hb];exact hk _ _ _
end
attribute [go_sem] P5 P6 bU lj jj uQ wC List.all_cons List.all_nil List.contains_cons Option.getD_some Bool.or_false Bool.false_or Bool.or_self Bool.not_true Bool.not_false Bool.or_true Bool.true_or
end Go.Pi
end
section
namespace Go.Pi
def aB(P:List PV->Prop)(v:PV):Prop:=aQ v/\aw v=true/\∀y,y∈ae v->P y
def EZ(m:Nat)(y:List PV):Prop:=aR y/\SizeOf.sizeOf y<m
def PZ(m:Nat)(y:List PV):Prop:=jl y/\SizeOf.sizeOf y<m
def QZ(m:Nat)(y:List PV):Prop:=iV y/\SizeOf.sizeOf y<m
def BZ(m:Nat)(y:List PV):Prop:=eP y/\SizeOf.sizeOf y<m
def IZ(m:Nat)(y:List PV):Prop:=iz y/\SizeOf.sizeOf y<m
def AZ(m:Nat)(y:List PV):Prop:=jm y/\SizeOf.sizeOf y<m
def FZ(m:Nat)(y:List PV):Prop:=gu y/\SizeOf.sizeOf y<m
def MZ(m:Nat)(y:List PV):Prop:=iI y/\SizeOf.sizeOf y<m
def CZ(m:Nat)(y:List PV):Prop:=gH y/\SizeOf.sizeOf y<m
def DZ(m:Nat)(y:List PV):Prop:=jn y/\SizeOf.sizeOf y<m
def KZ(m:Nat)(y:List PV):Prop:=jo y/\SizeOf.sizeOf y<m
def SZ(m:Nat)(y:List PV):Prop:=bH y/\SizeOf.sizeOf y<m
theorem EZ.len{m:Nat}{y:List PV}(h:EZ m y):y.length=13:=h.1.len
theorem PZ.len{m:Nat}{y:List PV}(h:PZ m y):y.length=4:=h.1.len
theorem QZ.len{m:Nat}{y:List PV}(h:QZ m y):y.length=3:=h.1.len
theorem BZ.len{m:Nat}{y:List PV}(h:BZ m y):y.length=4:=h.1.len
theorem IZ.len{m:Nat}{y:List PV}(h:IZ m y):y.length=7:=h.1.len
theorem AZ.len{m:Nat}{y:List PV}(h:AZ m y):y.length=5:=h.1.len
theorem FZ.len{m:Nat}{y:List PV}(h:FZ m y):y.length=4:=h.1.len
theorem MZ.len{m:Nat}{y:List PV}(h:MZ m y):y.length=6:=h.1.len
theorem CZ.len{m:Nat}{y:List PV}(h:CZ m y):y.length=3:=h.1.len
theorem DZ.len{m:Nat}{y:List PV}(h:DZ m y):y.length=5:=h.1.len
theorem KZ.len{m:Nat}{y:List PV}(h:KZ m y):y.length=2:=h.1.len
theorem SZ.len{m:Nat}{y:List PV}(h:SZ m y):y.length=11:=h.1.len
theorem EZ.le{m:Nat}{y:List PV}(h:EZ m y):SizeOf.sizeOf y<=m:=Nat.le_of_lt h.2
theorem PZ.le{m:Nat}{y:List PV}(h:PZ m y):SizeOf.sizeOf y<=m:=Nat.le_of_lt h.2
theorem QZ.le{m:Nat}{y:List PV}(h:QZ m y):SizeOf.sizeOf y<=m:=Nat.le_of_lt h.2
theorem BZ.le{m:Nat}{y:List PV}(h:BZ m y):SizeOf.sizeOf y<=m:=Nat.le_of_lt h.2
theorem IZ.le{m:Nat}{y:List PV}(h:IZ m y):SizeOf.sizeOf y<=m:=Nat.le_of_lt h.2
theorem AZ.le{m:Nat}{y:List PV}(h:AZ m y):SizeOf.sizeOf y<=m:=Nat.le_of_lt h.2
theorem FZ.le{m:Nat}{y:List PV}(h:FZ m y):SizeOf.sizeOf y<=m:=Nat.le_of_lt h.2
theorem MZ.le{m:Nat}{y:List PV}(h:MZ m y):SizeOf.sizeOf y<=m:=Nat.le_of_lt h.2
theorem CZ.le{m:Nat}{y:List PV}(h:CZ m y):SizeOf.sizeOf y<=m:=Nat.le_of_lt h.2
theorem DZ.le{m:Nat}{y:List PV}(h:DZ m y):SizeOf.sizeOf y<=m:=Nat.le_of_lt h.2
theorem KZ.le{m:Nat}{y:List PV}(h:KZ m y):SizeOf.sizeOf y<=m:=Nat.le_of_lt h.2
theorem SZ.le{m:Nat}{y:List PV}(h:SZ m y):SizeOf.sizeOf y<=m:=Nat.le_of_lt h.2
theorem aB.of{P C:List PV->Prop}{m:Nat}{x:List PV}{v:PV}(hv:v∈x)(hm:SizeOf.sizeOf x<=m)(l:aQ v)(hd:aP x=true)(h:∀y,y∈ae v->C y)(hP:∀y,C y->SizeOf.sizeOf y<m->P y):aB P v:=
 ⟨l,qn hd v hv,fun y hy=>hP y (h y hy) (Nat.lt_of_lt_of_le (cK hv hy) hm)⟩
theorem aR.open{m:Nat}{x:List PV}(hx:aR x)(hz:SizeOf.sizeOf x<=m):∃(kind:Int)(op:Int)(aA:Int)(chain:Int)(flags:Int)(nn:Nat)(str:PV)(text:ByteArray)(kids:PV)(bf:PV)(parts:PV)(aC:PV)(aG:PV),x=[.int .i64 kind,.int .i64 op,.int .i64 aA,.int .i64 chain,.int .i64 flags,.bR .f64 nn,str,.str text,kids,bf,parts,aC,aG]/\nn<18446744073709551616/\aB (fun y=>∃n:Int,y=[.int .u16 n]/\0<=n/\n<65536) str/\text.size<=1048576/\aB (EZ m) kids/\aB (PZ m) bf/\aB (QZ m) parts/\aB (FZ m) aC/\aB (CZ m) aG:=by
 obtain⟨kind,op,aA,chain,flags,num,str,text,kids,bf,parts,aC,aG,hn,hs,ht,lk,hk,lp,hp,lq,hq,lf,hf,lc,hc,hd⟩:=hx;obtain⟨nn,rfl,hn⟩:=hn;exact⟨kind,op,aA,chain,flags,nn,str,text,kids,bf,parts,aC,aG,rfl,hn,aB.of (by simp) hz hs.1 hd hs.2 (fun y h _=>h),ht,aB.of (by simp) hz lk hd hk (fun y a b=>⟨a,b⟩),aB.of (by simp) hz lp hd hp (fun y a b=>⟨a,b⟩),aB.of (by simp) hz lq hd hq (fun y a b=>⟨a,b⟩),aB.of (by simp) hz lf hd hf (fun y a b=>⟨a,b⟩),aB.of (by simp) hz lc hd hc (fun y a b=>⟨a,b⟩)⟩
theorem jl.open{m:Nat}{x:List PV}(hx:jl x)(hz:SizeOf.sizeOf x<=m):∃(kind:Int)(flags:Int)(key:PV)(value:PV),x=[.int .i64 kind,.int .i64 flags,key,value]/\Rg flags/\aB (EZ m) key/\aB (EZ m) value:=by
 obtain⟨kind,flags,key,value,lk,hk,lv,hv,hr,hd⟩:=hx;exact⟨kind,flags,key,value,rfl,hr,aB.of (by simp) hz lk hd hk (fun y a b=>⟨a,b⟩),aB.of (by simp) hz lv hd hv (fun y a b=>⟨a,b⟩)⟩
theorem iV.open{m:Nat}{x:List PV}(hx:iV x)(hz:SizeOf.sizeOf x<=m):∃(value:PV)(str:PV)(text:ByteArray),x=[value,str,.str text]/\aB (EZ m) value/\aB (fun y=>∃n:Int,y=[.int .u16 n]/\0<=n/\n<65536) str/\text.size<=1048576:=by
 obtain⟨value,str,text,lv,hv,hs,ht,hd⟩:=hx;exact⟨value,str,text,rfl,aB.of (by simp) hz lv hd hv (fun y a b=>⟨a,b⟩),aB.of (by simp) hz hs.1 hd hs.2 (fun y h _=>h),ht⟩
theorem eP.open{m:Nat}{x:List PV}(hx:eP x)(hz:SizeOf.sizeOf x<=m):∃(kind:Int)(aA:Int)(cj:PV)(rest:Bool),x=[.int .i64 kind,.int .i64 aA,cj,.bool rest]/\aB (IZ m) cj:=by
 obtain⟨kind,aA,cj,rest,li,hi,hd⟩:=hx;exact⟨kind,aA,cj,rest,rfl,aB.of (by simp) hz li hd hi (fun y a b=>⟨a,b⟩)⟩
theorem iz.open{m:Nat}{x:List PV}(hx:iz x)(hz:SizeOf.sizeOf x<=m):∃(flags:Int)(key:PV)(dC:PV)(gZ:Int)(hC:Int)(hJ:PV)(hY:Bool),x=[.int .i64 flags,key,dC,.int .i64 gZ,.int .i64 hC,hJ,.bool hY]/\Rg flags/\aB (EZ m) key/\aB (EZ m) dC/\BZ m [.int .i64 gZ,.int .i64 hC,hJ,.bool hY]/\aB (IZ m) hJ:=by
 obtain⟨flags,key,dC,b0,b1,b2,b3,lk,hk,ld,qF,hb,hr,hd⟩:=hx;have my:SizeOf.sizeOf [b0,b1,b2,b3]<m:=Nat.lt_of_lt_of_le (by simp;omega) hz;have mJ:=hb;obtain⟨gZ,hC,hJ,hY,qJ,pJ⟩:=hb.open (Nat.le_of_lt my);cases qJ;exact⟨flags,key,dC,gZ,hC,_,hY,rfl,hr,aB.of (by simp) hz lk hd hk (fun y a b=>⟨a,b⟩),aB.of (by simp) hz ld hd qF (fun y a b=>⟨a,b⟩),⟨mJ,my⟩,pJ⟩
theorem jm.open{m:Nat}{x:List PV}(hx:jm x)(hz:SizeOf.sizeOf x<=m):∃(gZ:Int)(hC:Int)(hJ:PV)(hY:Bool)(dC:PV),x=[.int .i64 gZ,.int .i64 hC,hJ,.bool hY,dC]/\BZ m [.int .i64 gZ,.int .i64 hC,hJ,.bool hY]/\aB (IZ m) hJ/\aB (EZ m) dC:=by
 obtain⟨b0,b1,b2,b3,dC,hb,ld,qF,hd⟩:=hx;have my:SizeOf.sizeOf [b0,b1,b2,b3]<m:=Nat.lt_of_lt_of_le (by simp;omega) hz;have mJ:=hb;obtain⟨gZ,hC,hJ,hY,qJ,pJ⟩:=hb.open (Nat.le_of_lt my);cases qJ;exact⟨gZ,hC,_,hY,dC,rfl,⟨mJ,my⟩,pJ,aB.of (by simp) hz ld hd qF (fun y a b=>⟨a,b⟩)⟩
theorem gu.open{m:Nat}{x:List PV}(hx:gu x)(hz:SizeOf.sizeOf x<=m):∃(name:Int)(flags:Int)(args:PV)(body:PV),x=[.int .i64 name,.int .i64 flags,args,body]/\Rg flags/\aB (AZ m) args/\aB (SZ m) body:=by
 obtain⟨name,flags,args,body,la,ha,lb,hb,hr,hd⟩:=hx;exact⟨name,flags,args,body,rfl,hr,aB.of (by simp) hz la hd ha (fun y a b=>⟨a,b⟩),aB.of (by simp) hz lb hd hb (fun y a b=>⟨a,b⟩)⟩
theorem iI.open{m:Nat}{x:List PV}(hx:iI x)(hz:SizeOf.sizeOf x<=m):∃(kind:Int)(flags:Int)(key:PV)(value:PV)(init:PV)(block:PV),x=[.int .i64 kind,.int .i64 flags,key,value,init,block]/\Rg flags/\aB (EZ m) key/\aB (EZ m) value/\aB (EZ m) init/\aB (SZ m) block:=by
 obtain⟨kind,flags,key,value,init,block,lk,hk,lv,hv,li,hi,lb,hb,hr,hd⟩:=hx;exact⟨kind,flags,key,value,init,block,rfl,hr,aB.of (by simp) hz lk hd hk (fun y a b=>⟨a,b⟩),aB.of (by simp) hz lv hd hv (fun y a b=>⟨a,b⟩),aB.of (by simp) hz li hd hi (fun y a b=>⟨a,b⟩),aB.of (by simp) hz lb hd hb (fun y a b=>⟨a,b⟩)⟩
theorem gH.open{m:Nat}{x:List PV}(hx:gH x)(hz:SizeOf.sizeOf x<=m):∃(name:Int)(ext:PV)(fM:PV),x=[.int .i64 name,ext,fM]/\aB (EZ m) ext/\aB (MZ m) fM:=by
 obtain⟨name,ext,fM,le,he,lm,hm,hd⟩:=hx;exact⟨name,ext,fM,rfl,aB.of (by simp) hz le hd he (fun y a b=>⟨a,b⟩),aB.of (by simp) hz lm hd hm (fun y a b=>⟨a,b⟩)⟩
theorem jn.open{m:Nat}{x:List PV}(hx:jn x)(hz:SizeOf.sizeOf x<=m):∃(gZ:Int)(hC:Int)(hJ:PV)(hY:Bool)(value:PV),x=[.int .i64 gZ,.int .i64 hC,hJ,.bool hY,value]/\BZ m [.int .i64 gZ,.int .i64 hC,hJ,.bool hY]/\aB (IZ m) hJ/\aB (EZ m) value:=by
 obtain⟨b0,b1,b2,b3,value,hb,lv,hv,hd⟩:=hx;have my:SizeOf.sizeOf [b0,b1,b2,b3]<m:=Nat.lt_of_lt_of_le (by simp;omega) hz;have mJ:=hb;obtain⟨gZ,hC,hJ,hY,qJ,pJ⟩:=hb.open (Nat.le_of_lt my);cases qJ;exact⟨gZ,hC,_,hY,value,rfl,⟨mJ,my⟩,pJ,aB.of (by simp) hz lv hd hv (fun y a b=>⟨a,b⟩)⟩
theorem jo.open{m:Nat}{x:List PV}(hx:jo x)(hz:SizeOf.sizeOf x<=m):∃(value:PV)(body:PV),x=[value,body]/\aB (EZ m) value/\aB (SZ m) body:=by
 obtain⟨value,body,lv,hv,lb,hb,hd⟩:=hx;exact⟨value,body,rfl,aB.of (by simp) hz lv hd hv (fun y a b=>⟨a,b⟩),aB.of (by simp) hz lb hd hb (fun y a b=>⟨a,b⟩)⟩
theorem bH.open{m:Nat}{x:List PV}(hx:bH x)(hz:SizeOf.sizeOf x<=m):∃(kind:Int)(op:Int)(aA:Int)(flags:Int)(str:PV)(exprs:PV)(kids:PV)(decls:PV)(cases:PV)(aC:PV)(aG:PV),x=[.int .i64 kind,.int .i64 op,.int .i64 aA,.int .i64 flags,str,exprs,kids,decls,cases,aC,aG]/\Rg flags/\aB (fun y=>∃n:Int,y=[.int .u16 n]/\0<=n/\n<65536) str/\aB (EZ m) exprs/\aB (SZ m) kids/\aB (DZ m) decls/\aB (KZ m) cases/\aB (FZ m) aC/\aB (CZ m) aG:=by
 obtain⟨kind,op,aA,flags,str,exprs,kids,decls,cases,aC,aG,hs,le,he,lk,hk,ld,gF,lc,hc,lf,hf,ll,ew,hr,hd⟩:=hx;exact⟨kind,op,aA,flags,str,exprs,kids,decls,cases,aC,aG,rfl,hr,aB.of (by simp) hz hs.1 hd hs.2 (fun y h _=>h),aB.of (by simp) hz le hd he (fun y a b=>⟨a,b⟩),aB.of (by simp) hz lk hd hk (fun y a b=>⟨a,b⟩),aB.of (by simp) hz ld hd gF (fun y a b=>⟨a,b⟩),aB.of (by simp) hz lc hd hc (fun y a b=>⟨a,b⟩),aB.of (by simp) hz lf hd hf (fun y a b=>⟨a,b⟩),aB.of (by simp) hz ll hd ew (fun y a b=>⟨a,b⟩)⟩
end Go.Pi
end
