import Derived.Test.YtofdfffpmbgogaaGreatDoorP02
/- Part of the proof. -/
set_option linter.all false
section
namespace Go.Pi
open Go.RowKit
section
variable{P:Program}{aT:World}{E:Env}{w:World}
def kF:K->Bool
 | .new _ _| .box _ _ _| .bh _ _ _ _ _| .m5 _ _ _ _ _ _| .app _ _ _ _ _=>true
 |_=>false
theorem aeI(n:Nat):Extern.MathFloatBits.float64bits #[.float .f64 n]=pure (.int .u64 n):=rfl
theorem aeJ(n:Int):Extern.MathFloatBits.float64frombits #[.int .u64 n]=pure (.float .f64 n.toNat):=rfl
theorem Ii{α:Type}{a:Array α}{x:α}(h:a.toList=[x]):a=#[x]:=by apply Array.ext';simpa using h
theorem uN{α:Type}{a:Array α}{x y:α}(h:a.toList=[x,y]):a=#[x,y]:=by apply Array.ext';simpa using h
theorem aeK{ρ:Operand->Value}{dst:Option Tmp}{c:Call}{ty:TypeId}{pos:String}{dQ:Array Edge}{gd:Option (Nat×Bool)}{k:K}{ev:bK->PV}{fresh st:Nat}{r:PV}{u:mr}(hc:rB P c=some k)(hI:Inv P aT E w)(cF:∀x y,di x=some y->bD E (ev y) (ρ x))(eF:kF k=true->∀g,st<=g->¬E.K fresh g)(y9:∀e s b d x c g l,k= .app e s b d x->ev d= .row c g l->∀g',st<=g'->¬E.K c g')(Ea:∀f,ρ (.func f)= .func (.func f) #[] #[])
 (hr:cx ev E.H fresh st k=some (r,u)):iu P aT E w ((execOp ρ ⟨dst,.call c,ty,pos,dQ,gd⟩).run P w) r u:=by
 obtain⟨cl,as,ts⟩:=c;unfold rB at hc;simp only at hc;split at hc
 ·rename_i x t has rF;have has:=Ii has;have rF:=Ii rF;subst has;subst rF;simp only[bind,Option.bind_eq_some_iff]at hc;obtain⟨d,hd,hc⟩:=hc;split at hc
  ·simp only[Option.bind_eq_some_iff,Option.some.injEq]at hc;obtain⟨y,hy,rfl⟩:=hc;have hx:=cF x y hy;simp only[cx]at hr;cases hv:ev y with
   |str s=>
    rw[hv]at hx;simp only[hv,Option.some.injEq,Prod.mk.injEq]at hr;obtain⟨rfl,rfl⟩:=hr;refine .here hI (z:= .int .i64 s.size) ?_ (.int _ _);simp[execOp,resolve,invoke,builtin,Builtin.len_,run_underlying hd,hx.AR,goInt]
   |_=>simp[hv]at hr
  ·simp only[Option.bind_eq_some_iff,Option.some.injEq]at hc;obtain⟨y,hy,rfl⟩:=hc;have hx:=cF x y hy;have run:∀(A:Option Addr)(n c:Nat),ρ x= .slice A n c->(execOp ρ ⟨dst,.call ⟨.builtin .len,#[x],#[t]⟩,ty,pos,dQ,gd⟩).run P w= .ok (.value (.int .i64 n)) w:=by
    intro A n c hA;simp[execOp,resolve,invoke,builtin,Builtin.len_,run_underlying hd,hA,goInt]
   simp only[cx]at hr;cases hv:ev y with
   |sl xs=>
    rw[hv]at hx;simp only[hv,Option.some.injEq,Prod.mk.injEq]at hr;obtain⟨rfl,rfl⟩:=hr;generalize hz:ρ x=z at hx;cases hx with
    |oN A c=>exact .here hI (run _ _ _ hz) (.int _ _)
    |sl _ a c=>exact .here hI (run _ _ _ hz) (.int _ _)
   |ah=>
    rw[hv]at hx;simp only[hv,Option.some.injEq,Prod.mk.injEq]at hr;obtain⟨rfl,rfl⟩:=hr;exact .here hI (run _ _ _ hx.AU) (.int _ _)
   |row b g len=>
    rw[hv]at hx;simp only[hv,Option.some.injEq,Prod.mk.injEq]at hr;obtain⟨rfl,rfl⟩:=hr;obtain⟨⟨a,c,ha,_⟩,_⟩:=hx.wk;exact .here hI (run _ _ _ ha) (.int _ _)
   |_=>simp[hv]at hr
  ·cases hc
 ·rename_i d x t t2 has rF;have has:=uN has;have rF:=uN rF;subst has;subst rF;simp only[bind,Option.bind_eq_some_iff]at hc;obtain⟨e,he,s,hs,b,hb,z,hz,hc⟩:=hc;have iT:P.underlying t=some (.slice e):=by
   unfold sK at he;split at he
   ·rename_i hu;injection he with he;rw[<-he];exact hu
   ·cases he
  split at hc
  ·simp at hc
  ·rename_i sP;simp only[Option.bind_eq_some_iff]at hc;obtain⟨du,gR,hc⟩:=hc;have hu:((∃e',P.underlying t2=some (.slice e'))\/P.underlying t2=some .string)/\∃yd yx,di d=some yd/\di x=some yx/\k= .app e s b yd yx:=by
    split at hc
    ·simp only[Option.bind_eq_some_iff,Option.some.injEq]at hc;obtain⟨yd,ib,yx,wz,rfl⟩:=hc;exact⟨.inl ⟨_,gR⟩,yd,yx,ib,wz,rfl⟩
    ·simp only[Option.bind_eq_some_iff,Option.some.injEq]at hc;obtain⟨yd,ib,yx,wz,rfl⟩:=hc;exact⟨.inr gR,yd,yx,ib,wz,rfl⟩
    ·cases hc
   obtain⟨hu,yd,yx,ib,wz,rfl⟩:=hu;have:=H9 (P:=P) (aT:=aT) hI (eF rfl) (ty:=ty) iT hu hs (by omega) hb (by omega) hz (by omega) (fun c g l h=>y9 _ _ _ _ _ c g l rfl h) (cF d yd ib) (cF x yx wz) hr;simpa[execOp,resolve,invoke,builtin]using this
 ·rename_i x y has;have has:=uN has;subst has;simp only[bind,Option.bind_eq_some_iff,Option.some.injEq]at hc;obtain⟨p,hp,q,hq,rfl⟩:=hc;simp only[cx]at hr;have h1:=cF x p hp;have h2:=cF y q hq;cases sS:ev p with
  |int k1 a=>
   cases wA:ev q with
   |int k2 b=>
    rw[sS]at h1;rw[wA]at h2;simp only[sS,wA,Option.some.injEq,Prod.mk.injEq]at hr;obtain⟨rfl,rfl⟩:=hr;refine .here hI (z:= .int k1 (if b>a then b else a)) ?_ (.int _ _);simp[execOp,resolve,invoke,builtin,Builtin.max_,Builtin.max2,h1.qj,h2.qj]
   |_=>simp[sS,wA]at hr
  |_=>simp[sS]at hr
 ·rename_i x y has;have has:=uN has;subst has;simp only[bind,Option.bind_eq_some_iff,Option.some.injEq]at hc;obtain⟨p,hp,q,hq,rfl⟩:=hc;simp only[cx]at hr;have h1:=cF x p hp;have h2:=cF y q hq;cases sS:ev p with
  |int k1 a=>
   cases wA:ev q with
   |int k2 b=>
    rw[sS]at h1;rw[wA]at h2;simp only[sS,wA,Option.some.injEq,Prod.mk.injEq]at hr;obtain⟨rfl,rfl⟩:=hr;refine .here hI (z:= .int k1 (if b<a then b else a)) ?_ (.int _ _);simp[execOp,resolve,invoke,builtin,Builtin.min_,Builtin.min2,h1.qj,h2.qj]
   |_=>simp[sS,wA]at hr
  |_=>simp[sS]at hr
 ·simp only[bind,Option.bind_eq_some_iff]at hc;obtain⟨fn,km,hc⟩:=hc;split at hc
  ·split at hc
   ·cases hc
   ·simp only[Option.bind_eq_some_iff,Option.some.injEq]at hc;obtain⟨l,hl,rfl⟩:=hc;simp[cx]at hr
  ·rename_i A6;split at hc
   ·rename_i x has;have has:=Ii has;subst has;split at hc
    ·cases hc
    ·rename_i ho;have qm:fn.origin= "" :=by simpa using ho
     have cU:fn.body.isNone=true:=by rw[A6];rfl
     split at hc
     ·rename_i nW;simp only[Option.bind_eq_some_iff,Option.some.injEq]at hc;obtain⟨y,hy,rfl⟩:=hc;have hx:=cF x y hy;obtain⟨f1,f2⟩:=aeG nW qm;have hng:(fn.name== "runtime.NumGoroutine")=false:=by rw[nW];decide
      simp only[cx]at hr;split at hr
      ·rename_i n hv;rw[hv]at hx;simp only[Option.some.injEq,Prod.mk.injEq]at hr;obtain⟨rfl,rfl⟩:=hr;refine .here hI (z:= .int .u64 n) ?_ (.int _ _);simp[execOp,resolve,Deferred.ofValue,Ea,invoke,callFunc,nW,hx.adV,km,A6,f1,f2,aeI]
      ·cases hr
     ·split at hc
      ·rename_i nW;simp only[Option.bind_eq_some_iff,Option.some.injEq]at hc;obtain⟨y,hy,rfl⟩:=hc;have hx:=cF x y hy;obtain⟨f1,f2⟩:=aeH nW qm;have hng:(fn.name== "runtime.NumGoroutine")=false:=by rw[nW];decide
       simp only[cx]at hr;split at hr
       ·rename_i n hv;rw[hv]at hx;simp only[Option.some.injEq,Prod.mk.injEq]at hr;obtain⟨rfl,rfl⟩:=hr;refine .here hI (z:= .float .f64 n.toNat) ?_ (.bR _ _);simp[execOp,resolve,Deferred.ofValue,Ea,invoke,callFunc,nW,hx.qj,km,A6,f1,f2,aeJ]
       ·cases hr
      ·cases hc
   ·cases hc
 ·simp only[bind,Option.bind_eq_some_iff,Option.some.injEq]at hc;obtain⟨l,hl,rfl⟩:=hc;simp[cx]at hr
 ·cases hc
theorem aeM{ρ:Operand->Value}{o:Oper}{k:K}{ev:bK->PV}{fresh st:Nat}{r:PV}{u:mr}(hc:eE P o=some k)(hI:Inv P aT E w)(cF:∀x y,di x=some y->bD E (ev y) (ρ x))(eF:kF k=true->∀g,st<=g->¬E.K fresh g)(y9:∀e s b d x c g l,k= .app e s b d x->ev d= .row c g l->∀g',st<=g'->¬E.K c g')(Ea:∀f,ρ (.func f)= .func (.func f) #[] #[])
 (hr:cx ev E.H fresh st k=some (r,u)):iu P aT E w ((execOp ρ o).run P w) r u:=by
 obtain⟨dst,op,ty,pos,dQ,gd⟩:=o;cases op with
 |move x=>
  simp only[eE,bind,Option.bind_eq_some_iff,Option.some.injEq]at hc;obtain⟨y,hy,rfl⟩:=hc;simp only[cx,Option.some.injEq,Prod.mk.injEq]at hr;obtain⟨rfl,rfl⟩:=hr;exact .here hI (z:=ρ x) rfl (cF x y hy)
 |assign x=>
  simp only[eE,bind,Option.bind_eq_some_iff,Option.some.injEq]at hc;obtain⟨y,hy,rfl⟩:=hc;simp only[cx,Option.some.injEq,Prod.mk.injEq]at hr;obtain⟨rfl,rfl⟩:=hr;exact .here hI (z:=ρ x) rfl (cF x y hy)
 |pick c a b=>
  simp only[eE,bind,Option.bind_eq_some_iff,Option.some.injEq]at hc;obtain⟨yc,Ij,ya,hya,yb,Ot,rfl⟩:=hc;simp only[cx]at hr;cases jw:ev yc with
  |bool t=>
   simp only[jw,Option.some.injEq,Prod.mk.injEq]at hr;obtain⟨rfl,rfl⟩:=hr;have h1:=cF c yc Ij;rw[jw]at h1;refine .here hI (z:=if t then ρ a else ρ b) ?_ (by cases t;exact cF b yb Ot;exact cF a ya hya);simp only[execOp,h1.AQ,Sem.run_bind,asBool,Sem.run_pure,Result.andThen_ok]
  |_=>simp[jw]at hr
 |alloc e=>
  simp only[eE,bind,Option.bind_eq_some_iff,Option.some.injEq]at hc;obtain⟨z,hz,rfl⟩:=hc;simp only[cx,Option.some.injEq,Prod.mk.injEq]at hr;obtain⟨rfl,rfl⟩:=hr;exact aer hI (eF rfl) hz
 |box e x=>
  simp only[eE,bind,Option.bind_eq_some_iff,Option.some.injEq]at hc;obtain⟨n,hn,y,hy,rfl⟩:=hc;simp only[cx]at hr;cases fC:cellsOf (ev y)with
  |none=>simp[fC]at hr
  |some cs=>
   simp only[fC]at hr;split at hr
   ·simp only[Option.some.injEq,Prod.mk.injEq]at hr;obtain⟨rfl,rfl⟩:=hr;exact aes hI (eF rfl) (cF x y hy) fC
   ·cases hr
 |build t ps=>
  simp only[eE,bind,Option.bind_eq_some_iff,Option.some.injEq]at hc;obtain⟨l,hl,z,hz,qs,hq,rfl⟩:=hc;simp only[cx,Option.map_eq_some_iff,Prod.mk.injEq]at hr;obtain⟨cs,fC,rfl,rfl⟩:=hr;exact ad3 hI cF hz hl hq fC
 |buildSlice t len ps=>
  simp only[eE,bind,Option.bind_eq_some_iff,Option.some.injEq]at hc;obtain⟨e,he,s,hs,hc⟩:=hc;split at hc
  ·simp at hc
  ·rename_i sP;simp only[Option.bind_eq_some_iff,Option.some.injEq]at hc;obtain⟨z,hz,hc⟩:=hc;split at hc
   ·cases hc
   ·rename_i k7;simp only[Option.bind_eq_some_iff,Option.some.injEq]at hc;obtain⟨qs,hq,rfl⟩:=hc;simp only[cx,Option.map_eq_some_iff,Prod.mk.injEq]at hr;obtain⟨cs,fC,rfl,rfl⟩:=hr;have iT:P.underlying t=some (.slice e):=by
     unfold sK at he;split at he
     ·rename_i hu;injection he with he;rw[<-he];exact hu
     ·cases he
    exact ad6 hI cF (eF rfl) iT hs (by omega) (by omega) hz (by omega) hq fC
 |load t x=>
  simp only[eE,bind,Option.bind_eq_some_iff,Option.some.injEq]at hc;obtain⟨ag,sN,s,hs,y,hy,rfl⟩:=hc;exact adW hI sN hs (cF x y hy) hr
 |store t x v=>
  simp only[eE,bind,Option.bind_eq_some_iff,Option.some.injEq]at hc;obtain⟨s,hs,y,hy,z,hz,rfl⟩:=hc;exact adY hI hs (cF x y hy) (cF v z hz) hr
 |nilCheck x=>
  simp only[eE,bind,Option.bind_eq_some_iff,Option.some.injEq]at hc;obtain⟨y,hy,rfl⟩:=hc;have hx:=cF x y hy;simp only[cx]at hr;cases hv:ev y with
  |ptr b g o=>
   rw[hv]at hx;simp only[hv,Option.some.injEq,Prod.mk.injEq]at hr;obtain⟨rfl,rfl⟩:=hr;obtain⟨⟨a,ha⟩,_⟩:=hx.wj;exact .here hI (z:= .pointer (some a)) (by simp[execOp,ha]) (ha▸hx)
  |fp cs=>
   rw[hv]at hx;simp only[hv,Option.some.injEq,Prod.mk.injEq]at hr;obtain⟨rfl,rfl⟩:=hr;obtain⟨a,_,ha,_⟩:=hx.D3;exact .here hI (z:= .pointer (some a)) (by simp[execOp,ha]) (ha▸hx)
  |aj t v=>
   rw[hv]at hx;simp only[hv,Option.some.injEq,Prod.mk.injEq]at hr;obtain⟨rfl,rfl⟩:=hr;obtain⟨a,ha,_⟩:=hx.AV;exact .here hI (z:= .iface t a) (by simp[execOp,ha]) (ha▸hx)
  |kM f as bs=>
   rw[hv]at hx;cases f with
   |func f=>
    simp only[hv,Option.some.injEq,Prod.mk.injEq]at hr;obtain⟨rfl,rfl⟩:=hr;generalize hz:ρ x=z at hx;cases hx with
    |kM _ _ _ vs us hl h dB h'=>exact .here hI (z:= .func (.func f) vs.toArray us.toArray) (by simp[execOp,hz]) (.kM _ _ _ vs us hl h dB h')
   |_=>simp[hv]at hr
  |_=>simp[hv]at hr
 |binOp op t x y yt=>
  simp only[eE,bind,Option.bind_eq_some_iff]at hc;obtain⟨d,hd,hc⟩:=hc;split at hc<;>first
   |cases hc;done
   |(split at hc
     ·simp only[Option.bind_eq_some_iff,Option.some.injEq]at hc;obtain⟨a,ha,rfl⟩:=hc;simp only[cx,Option.map_eq_some_iff,Prod.mk.injEq]at hr;obtain⟨v,hv,rfl,rfl⟩:=hr;exact aef hI hd (cF x a ha) (cF _ (.c .aF) rfl) hv
     ·cases hc)
   |(simp only[Option.bind_eq_some_iff,Option.some.injEq]at hc
     obtain⟨a,ha,b,hb,rfl⟩:=hc;simp only[cx,Option.map_eq_some_iff,Prod.mk.injEq]at hr;obtain⟨v,hv,rfl,rfl⟩:=hr;first
      |exact aeb hI hd (cF x a ha) (cF y b hb) hv
      |exact ad9 hI (cF x a ha) (cF y b hb) hv
      |exact aec hI hd (cF x a ha) (cF y b hb) hv)
 |unOp op t x=>
  simp only[eE,bind,Option.bind_eq_some_iff,Option.some.injEq]at hc;obtain⟨y,hy,rfl⟩:=hc;simp only[cx,Option.map_eq_some_iff,Prod.mk.injEq]at hr;obtain⟨v,hv,rfl,rfl⟩:=hr;exact aeg hI (cF x y hy) hv
 |convert DW dst x=>
  simp only[eE,bind,Option.bind_eq_some_iff]at hc;obtain⟨ds,Eb,dd,eX,hc⟩:=hc;split at hc
  ·simp only[Option.bind_eq_some_iff,Option.some.injEq]at hc;obtain⟨y,hy,rfl⟩:=hc;have hx:=cF x y hy;simp only[cx]at hr;cases hv:ev y with
   |int k n=>
    rw[hv]at hx;simp only[hv,Option.some.injEq,Prod.mk.injEq]at hr;obtain⟨rfl,rfl⟩:=hr;refine fG hI (z:= .int _ _) ?_ (.int _ _);rw[hx.qj];simp[convert,run_underlying Eb,run_underlying eX,Conv.intToInt]
   |_=>simp[hv]at hr
  ·simp only[Option.bind_eq_some_iff,Option.some.injEq]at hc;obtain⟨y,hy,rfl⟩:=hc;have hx:=cF x y hy;simp only[cx]at hr;cases hv:ev y with
   |int k n=>
    rw[hv]at hx;simp only[hv,Option.some.injEq,Prod.mk.injEq]at hr;obtain⟨rfl,rfl⟩:=hr;refine fG hI (z:= .float _ _) ?_ (.bR _ _);rw[hx.qj];simp[convert,run_underlying Eb,run_underlying eX,Conv.intToFloat]
   |_=>simp[hv]at hr
  ·split at hc
   ·rename_i he;simp only[Option.map_eq_some_iff]at hc;obtain⟨y,hy,rfl⟩:=hc;have hx:=cF x y hy;simp only[cx]at hr;split at hr
    ·cases hr
    ·rename_i D8;cases ji:gE E.H 1 (ev y)with
     |none=>simp[ji]at hr
     |some nc=>
      obtain⟨n,cs⟩:=nc;simp only[ji,Option.map_eq_some_iff,Prod.mk.injEq]at hr;obtain⟨l,hl,rfl,rfl⟩:=hr;have hd:=aej hI hx (fun s hs=>D8 s hs) ji hl;obtain⟨n',w',E',z,bC,hn,hz,hp⟩:=hd;refine⟨n',w',E',z,?_,hn,hz,hp⟩;rw[<-bC];have jw:(convert DW dst (ρ x)).run P w=(Conv.bytesToString (ρ x)).run P w:=by
       unfold convert;simp only[Sem.run_bind,run_underlying Eb,run_underlying eX,Result.andThen_ok];obtain⟨U,_,_,_,_,_,hv⟩:=AY hI hx ji;rcases hv with⟨s',eA,_⟩|⟨A,c,hA,_⟩
       ·exact absurd eA (D8 s')
       ·rw[hA];simp only[Sem.run_bind,run_underlying he,Result.andThen_ok]
      simp only[execOp,Sem.run_bind,jw]
   ·cases hc
  ·simp only[Option.bind_eq_some_iff,Option.some.injEq]at hc;obtain⟨y,hy,rfl⟩:=hc;have hx:=cF x y hy;simp only[cx]at hr;cases hv:ev y with
   |str s=>
    rw[hv]at hx;simp only[hv,Option.some.injEq,Prod.mk.injEq]at hr;obtain⟨rfl,rfl⟩:=hr;refine fG hI (z:= .string s) ?_ (.str _);rw[hx.AR];simp[convert,run_underlying Eb,run_underlying eX]
   |_=>simp[hv]at hr
  ·cases hc
 |makeInterface t x=>
  simp only[eE,bind,Option.bind_eq_some_iff]at hc;obtain⟨d,hd,hc⟩:=hc;split at hc
  ·cases hc
  ·rename_i ze;simp only[Option.bind_eq_some_iff,Option.some.injEq]at hc;obtain⟨y,hy,rfl⟩:=hc;simp only[cx,Option.some.injEq,Prod.mk.injEq]at hr;obtain⟨rfl,rfl⟩:=hr;refine fG hI (z:= .iface t (ρ x)) ?_ (.aj _ _ _ (cF x y hy));simp only[Instr.makeInterface,Sem.run_bind,run_underlying hd,Result.andThen_ok];cases d<;>first|rfl|exact absurd rfl (ze _)
 |makeFunc fn a b=>
  simp only[eE,bind,Option.bind_eq_some_iff,Option.some.injEq]at hc;obtain⟨as,ha,bs,hb,rfl⟩:=hc;simp only[cx,Option.some.injEq,Prod.mk.injEq]at hr;obtain⟨rfl,rfl⟩:=hr;have h1:=D9 cF _ _ ha;have h2:=D9 cF _ _ hb;refine fG hI (z:= .func fn (a.map ρ) (b.map ρ)) rfl ?_;have:=bD.kM (E:=E) fn _ _ _ _ h1.1 (fun i hi=>h1.get i hi) h2.1 (fun i hi=>h2.get i hi);have e1:∀q:Array Operand,q.map ρ=(q.toList.map ρ).toArray:=fun q=>by apply Array.ext';simp
  rw[e1,e1];exact this
 |makeSlice t l c=>
  simp only[eE,bind,Option.bind_eq_some_iff]at hc;obtain⟨e,he,z,hz,s,hs,b,hb,hc⟩:=hc;split at hc
  ·simp at hc
  ·rename_i sP;simp only[Option.bind_eq_some_iff,Option.some.injEq]at hc;obtain⟨yl,eY,yc,Ij,rfl⟩:=hc;have iT:P.underlying t=some (.slice e):=by
    unfold sK at he;split at he
    ·rename_i hu;injection he with he;rw[<-he];exact hu
    ·cases he
   have hl:=cF l yl eY;have l8:=cF c yc Ij;simp only[cx]at hr;cases nT:ev yl with
   |int kl vl=>
    cases oS:ev yc with
    |int kc vc=>
     rw[nT]at hl;rw[oS]at l8;simp only[nT,oS]at hr;split at hr
     ·rename_i Ed;simp only[Option.some.injEq,Prod.mk.injEq]at hr;obtain⟨rfl,rfl⟩:=hr;have:=aet hI (eF rfl) (kl:=kl) (kc:=kc) iT hs (by omega) hb (by omega) hz (by omega) Ed;simpa only[execOp,hl.qj,l8.qj]using this
     ·cases hr
    |_=>simp[nT,oS]at hr
   |_=>simp[nT]at hr
 |slice t x lo hi mx=>
  cases mx with
  |some m=>simp[eE]at hc
  |none=>
   simp only[eE,bind,Option.bind_eq_some_iff]at hc;obtain⟨A5,lJ,kO,rE,d,hd,hc⟩:=hc;split at hc
   ·simp only[Option.bind_eq_some_iff,Option.some.injEq]at hc;obtain⟨y,hy,rfl⟩:=hc;have hx:=cF x y hy;simp only[cx]at hr;cases hv:ev y with
    |str s=>
     rw[hv]at hx;simp only[hv]at hr;cases hl:jh 0 ev A5 with
     |none=>simp[hl]at hr
     |some l=>
      cases hh:jh s.size ev kO with
      |none=>simp[hl,hh]at hr
      |some h=>
       simp only[hl,hh]at hr;split at hr
       ·rename_i hb;simp only[Option.some.injEq,Prod.mk.injEq]at hr;obtain⟨rfl,rfl⟩:=hr;have:=aev (P:=P) (aT:=aT) hI (ρ:=ρ) hd (uM cF lJ hl) (uM cF rE hh) hb.1 hb.2;simpa only[execOp,hx.AR,Option.map_none]using this
       ·cases hr
    |_=>simp[hv]at hr
   ·simp only[Option.bind_eq_some_iff,Option.some.injEq]at hc;obtain⟨s,hs,y,hy,rfl⟩:=hc;have hx:=cF x y hy;simp only[cx]at hr;cases hv:ev y with
    |sl xs=>
     rw[hv]at hx;simp only[hv]at hr;cases hl:jh 0 ev A5 with
     |none=>simp[hl]at hr
     |some l=>
      cases hh:jh xs.length ev kO with
      |none=>simp[hl,hh]at hr
      |some h=>
       simp only[hl,hh]at hr;split at hr
       ·rename_i hb;simp only[Option.some.injEq,Prod.mk.injEq]at hr;obtain⟨rfl,rfl⟩:=hr;obtain⟨A,c,sT,nU,zf⟩:=aew hx (s:=s) (by simpa using hb.2.2) hb.1 hb.2.1;have:=Ig (P:=P) (aT:=aT) hI (ρ:=ρ) (A:=A) (len:=xs.length) (cap:=c) hd hs (uM cF lJ hl) (uM cF rE hh) hb.1 (by omega) zf;simpa only[execOp,sT,Option.map_none]using this
       ·cases hr
    |ah=>
     rw[hv]at hx;simp only[hv]at hr;split at hr
     ·rename_i hl hh;simp only[Option.some.injEq,Prod.mk.injEq]at hr;obtain⟨rfl,rfl⟩:=hr;have:=Ig (P:=P) (aT:=aT) hI (ρ:=ρ) (A:=none) (len:=0) (cap:=0) (r:= .ah) hd hs (uM cF lJ hl) (uM cF rE hh) (Nat.le_refl _) (Nat.le_refl _) .ah;simpa only[execOp,hx.AU,Option.map_none]using this
     ·cases hr
    |row b g len=>
     rw[hv]at hx;simp only[hv]at hr;split at hr
     ·rename_i h hl hh;split at hr
      ·rename_i aV;simp only[Option.some.injEq,Prod.mk.injEq]at hr;obtain⟨rfl,rfl⟩:=hr;obtain⟨⟨a,c,sT,nU⟩,hk,hp⟩:=hx.wk;have:=Ig (P:=P) (aT:=aT) hI (ρ:=ρ) (A:=some a) (len:=len) (cap:=c) (r:= .row b g h) hd hs (uM cF lJ hl) (uM cF rE hh) (Nat.zero_le _) (by omega) (by
        have ea:(if c=0 then some a else(some a).map (·.add (0*s)))=some a:=by
         split
         ·rfl
         ·simp[Addr.add]
        rw[ea,Nat.sub_zero,Nat.sub_zero];refine .row b g h _ ⟨_,_,rfl,by omega⟩ hk fun ch hc hg=>?_
        obtain⟨h1,h2⟩:=hp ch hc hg;rw[sT]at h2;injection h2 with e1 _ e3;rw[e1,e3];exact⟨by omega,rfl⟩)
       simpa only[execOp,sT,Option.map_none]using this
      ·cases hr
     ·cases hr
    |_=>simp[hv]at hr
   ·cases hc
 |fieldAddr t x f=>
  simp only[eE]at hc;split at hc
  ·rename_i fs hu;simp only[bind,Option.bind_eq_some_iff]at hc;obtain⟨fd,hfd,s,hs,hc⟩:=hc;split at hc
   ·simp at hc
   ·rename_i dj;simp only[Option.bind_eq_some_iff,Option.some.injEq]at hc;obtain⟨y,hy,rfl⟩:=hc;have hx:=cF x y hy;have bC:∀a:Addr,(Instr.fieldAt t (.pointer (some a)) f).run P w= .ok (.pointer (some (a.add fd.offset))) w:=by
     intro a;simp only[Instr.fieldAt,Sem.run_bind,run_underlying hu,Result.andThen_ok,hfd,Instr.sureAddr,Sem.run_pure,fieldPlace,pz hs,dj,if_false]
    simp only[cx]at hr;cases hv:ev y with
    |ptr b g o=>
     rw[hv]at hx;simp only[hv,Option.some.injEq,Prod.mk.injEq]at hr;obtain⟨rfl,rfl⟩:=hr;obtain⟨⟨a,ha⟩,hk,hp⟩:=hx.wj;refine fG hI (by rw[ha];exact bC a) (.ptr _ _ _ _ ⟨_,rfl⟩ hk fun ch hc hg=>?_);have:=hp ch hc hg;rw[ha]at this;injection this with e1;injection e1 with e1;rw[e1];unfold Addr.add;split<;>simp_all
    |fp cs=>
     rw[hv]at hx;simp only[hv,Option.some.injEq,Prod.mk.injEq]at hr;obtain⟨rfl,rfl⟩:=hr;obtain⟨a,U,ha,hf,hF,hR⟩:=hx.D3;refine fG hI (by rw[ha];exact bC a) (.fp _ _ (fun j=>U (fd.offset+j)) (fun c hc=>hf c (List.mem_of_mem_drop hc)) (fun j hj=>?_) fun j hj=>?_)
     ·rw[D2];exact hF _ (by simp at hj;omega)
     ·simp only[List.getElem_drop];exact hR _ (by simp at hj;omega)
    |_=>simp[hv]at hr
  ·cases hc
 |indexAddr t x i=>
  simp only[eE,bind,Option.bind_eq_some_iff,Option.some.injEq]at hc;obtain⟨e,he,s,hs,y,hy,z,hz,rfl⟩:=hc;have iT:P.underlying t=some (.slice e):=by
   unfold sK at he;split at he
   ·rename_i hu;injection he with he;rw[<-he];exact hu
   ·cases he
  simp only[cx]at hr;exact aey hI iT hs (cF x y hy) (cF i z hz) hr
 |index t x i=>
  simp only[eE,bind,Option.bind_eq_some_iff]at hc;obtain⟨d,hd,hc⟩:=hc;split at hc
  ·simp only[Option.bind_eq_some_iff,Option.some.injEq]at hc;obtain⟨y,hy,z,hz,rfl⟩:=hc;have hx:=cF x y hy;have hi:=cF i z hz;simp only[cx]at hr;cases hv:ev y with
   |str s=>
    rw[hv]at hx;simp only[hv]at hr;cases hn:m8 s.size (ev z)with
    |none=>simp[hn]at hr
    |some n=>
     simp only[hn,Option.some.injEq,Prod.mk.injEq]at hr;obtain⟨rfl,rfl⟩:=hr;obtain⟨k,hk,cE⟩:=Ih hi hn;refine fG hI (z:= .int .u8 (s.data.toList.getD n 0).toNat) ?_ (.int _ _);rw[hx.AR,hk];simp only[Instr.index,asIntOf,Sem.run_bind,Sem.run_pure,Result.andThen_ok,run_underlying hd];rw[if_pos (by omega)];have e1:s[((n:Int).toNat)]?=some (s.data.toList.getD n 0):=by
      simp only[Int.toNat_natCast];rw[getElem?_pos s n cE];congr 1;rw[List.getD_eq_getElem?_getD,List.getElem?_eq_getElem (by simpa using cE)];rfl
     rw[e1];rfl
   |_=>simp[hv]at hr
  ·cases hc
 |typeAssert x xt t ok=>
  cases ok with
  |false=>simp[eE]at hc
  |true=>
   simp only[eE,bind,Option.bind_eq_some_iff]at hc;obtain⟨d,hd,i,hi,hc⟩:=hc;split at hc
   ·cases hc
   ·cases hc
   ·rename_i ze m9;split at hc
    ·rename_i z0 jH;simp only[Option.bind_eq_some_iff,Option.some.injEq]at hc;obtain⟨z,hz,y,hy,rfl⟩:=hc;have hx:=cF x y hy;have y6:=(HR hz E).1;have Ou:(zeroValue t).run P w= .ok z0 w:=by simp[zeroValue,y4 hi,jH]
     have Ik:∀ms,d≠ .interface ms:=fun ms e=>ze ms e
     simp only[cx]at hr;have Il:∀(p:PV)(q:Value)(b:Bool),bD E p q->bD E (.bZ [p,.bool b]) (.tuple #[q,.bool b]):=fun p q b A7=>(b9.cons A7 (.cons (.bool b) (.nil E))).bZ
     cases hv:ev y with
     |aF=>
      rw[hv]at hx;simp only[hv,Option.some.injEq,Prod.mk.injEq]at hr;obtain⟨rfl,rfl⟩:=hr;refine fG hI (z:= .tuple #[z0,.bool false]) ?_ (Il _ _ _ y6);rw[hx.wh];simp only[Instr.typeAssert,Sem.run_bind,run_underlying hd,Result.andThen_ok];cases d<;>first|exact absurd rfl (Ik _)|simp[Ou]
     |aj u v=>
      rw[hv]at hx;obtain⟨q,hq,hqr⟩:=hx.AV;simp only[hv]at hr;split at hr
      ·rename_i Im;simp only[Option.some.injEq,Prod.mk.injEq]at hr;obtain⟨rfl,rfl⟩:=hr;refine fG hI (z:= .tuple #[q,.bool true]) ?_ (Il _ _ _ hqr);rw[hq];simp only[Instr.typeAssert,Sem.run_bind,run_underlying hd,Result.andThen_ok];cases d<;>first|exact absurd rfl (Ik _)|simp[Im]
      ·rename_i Im;simp only[Option.some.injEq,Prod.mk.injEq]at hr;obtain⟨rfl,rfl⟩:=hr;refine fG hI (z:= .tuple #[z0,.bool false]) ?_ (Il _ _ _ y6);rw[hq];simp only[Instr.typeAssert,Sem.run_bind,run_underlying hd,Result.andThen_ok];cases d<;>first|exact absurd rfl (Ik _)|simp[Im,Ou]
     |_=>simp[hv]at hr
    ·cases hc
 |extract x i=>
  simp only[eE,bind,Option.bind_eq_some_iff,Option.some.injEq]at hc;obtain⟨y,hy,rfl⟩:=hc;have hx:=cF x y hy;simp only[cx]at hr;cases hv:ev y with
  |bZ vs=>
   rw[hv]at hx;simp only[hv,Option.map_eq_some_iff,Prod.mk.injEq]at hr;obtain⟨v,Io,rfl,rfl⟩:=hr;obtain⟨us,hus,hR⟩:=hx.N4;obtain⟨cE,Io⟩:=List.getElem?_eq_some_iff.1 Io;have aeR:i<us.length:=by rw[<-hR.1];exact cE
   refine fG hI (z:=us[i]) ?_ (by have:=hR.get i cE;rw[Io]at this;exact this);rw[hus];simp[Instr.extract,aeR]
  |_=>simp[hv]at hr
 |call c=>
  simp only[eE]at hc;exact aeK hc hI cF eF y9 Ea hr
 |_=>simp[eE]at hc
end
end Go.Pi
end
section
namespace Go.Pi
open Go.RowKit
mutual
def aw:PV->Bool
 | .ptr _ _ _=>false
 | .row _ _ _=>false
 | .agg cs=>aP cs
 | .bZ vs=>aP vs
 | .aj _ v=>aw v
 | .kM _ a b=>aP a&&aP b
 | .sl xs=>jx xs
 | .fp cs=>aP cs
 | .alt x y=>aw x&&aw y
 |_=>true
def aP:List PV->Bool
 |[]=>true
 |x::xs=>aw x&&aP xs
def jx:List (List PV)->Bool
 |[]=>true
 |x::xs=>aP x&&jx xs
end
theorem qn{xs:List PV}(h:aP xs=true):∀x,x∈xs->aw x=true:=by
 induction xs with
 |nil=>intro x hx;cases hx
 |cons y ys ih=>
  simp only[aP,Bool.and_eq_true]at h;intro x hx;rcases List.mem_cons.1 hx with rfl|hx
  ·exact h.1
  ·exact ih h.2 x hx
theorem aeS{xs:List PV}(h:∀x,x∈xs->aw x=true):aP xs=true:=by
 induction xs with
 |nil=>rfl
 |cons y ys ih=>simp only[aP,Bool.and_eq_true];exact⟨h y (by simp),ih fun x hx=>h x (by simp[hx])⟩
theorem zg{xs:List (List PV)}(h:jx xs=true):∀x,x∈xs->aP x=true:=by
 induction xs with
 |nil=>intro x hx;cases hx
 |cons y ys ih=>
  simp only[jx,Bool.and_eq_true]at h;intro x hx;rcases List.mem_cons.1 hx with rfl|hx
  ·exact h.1
  ·exact ih h.2 x hx
theorem qo{xs:List (List PV)}(h:∀x,x∈xs->aP x=true):jx xs=true:=by
 induction xs with
 |nil=>rfl
 |cons y ys ih=>simp only[jx,Bool.and_eq_true];exact⟨h y (by simp),ih fun x hx=>h x (by simp[hx])⟩
theorem aeT{xs ys:List PV}:aP (xs++ys)=(aP xs&&aP ys):=by
 induction xs with
 |nil=>simp[aP]
 |cons x xs ih=>simp[aP,ih,Bool.and_assoc]
theorem bD.deep{E E':Env}(hF:∀a u,E.F a=some u->E'.F a=some u){x:PV}{v:Value}(h:bD E x v):aw x=true->bD E' x v:=by
 induction h with
 |undef v=>intro _;exact .undef v
 |bool b=>intro _;exact .bool b
 |int k n=>intro _;exact .int k n
 |bR k n=>intro _;exact .bR k n
 |nan k n h=>intro _;exact .nan k n h
 |str s=>intro _;exact .str s
 |bF=>intro _;exact .bF
 |oM=>intro _;exact .oM
 |aF=>intro _;exact .aF
 |ah=>intro _;exact .ah
 |agg cs vs hf hl _ ih=>intro hd;simp only[aw]at hd;exact .agg cs vs hf hl fun i hi=>ih i hi (qn hd _ (List.getElem_mem _))
 |bZ cs vs hl _ ih=>intro hd;simp only[aw]at hd;exact .bZ cs vs hl fun i hi=>ih i hi (qn hd _ (List.getElem_mem _))
 |aj t x v _ ih=>intro hd;simp only[aw]at hd;exact .aj t x v (ih hd)
 |kM f cs ds vs us hl _ dB _ ih HP=>
  intro hd;simp only[aw,Bool.and_eq_true]at hd;exact .kM f cs ds vs us hl (fun i hi=>ih i hi (qn hd.1 _ (List.getElem_mem _))) dB fun i hi=>HP i hi (qn hd.2 _ (List.getElem_mem _))
 |oN A c=>intro _;exact .oN A c
 |sl xs a c s U hc hs hf Ip _ ih=>
  intro hd;simp only[aw]at hd;exact .sl xs a c s U hc hs hf (fun i j hi hj=>hF _ _ (Ip i j hi hj)) fun i hi j hj=>ih i hi j hj (qn (zg hd _ (List.getElem_mem _)) _ (List.getElem_mem _))
 |fp cs a U hf Ip _ ih=>
  intro hd;simp only[aw]at hd;exact .fp cs a U hf (fun j hj=>hF _ _ (Ip j hj)) fun j hj=>ih j hj (qn hd _ (List.getElem_mem _))
 |qh x y v ho _ ih=>intro hd;simp only[aw,Bool.and_eq_true]at hd;exact .qh x y v ho (ih hd.1)
 |ru x y v ho _ ih=>intro hd;simp only[aw,Bool.and_eq_true]at hd;exact .ru x y v ho (ih hd.2)
 |ptr b g off v hv hk h=>intro hd;simp[aw]at hd
 |row b g len v hv hk h=>intro hd;simp[aw]at hd
def group(s len:Nat)(cs:List PV):List (List PV):=(List.range len).map fun i=>(cs.drop (i*s)).take s
def eh(f:PV->Option (PV×List Nat)):List PV->Option (List PV×List Nat)
 |[]=>some ([],[])
 |x::xs=>
  if aP (x::xs)then some (x::xs,[])else
  match f x,eh f xs with
  |some (y,ids),some (ys,jds)=>some (y::ys,ids++jds)
  |_,_=>none
def settle:Nat->al->PV->Option (PV×List Nat)
 |0,_,x=>if aw x then some (x,[])else none
 |n+1,H,x=>
  if aw x then some (x,[])else
  match x with
  | .row b g len=>match H b with
    |some c=>if c.gen=g/\len*c.s<=c.cells.length then
      (eh (settle n H) (c.cells.take (len*c.s))).map fun r=>(.sl (group c.s len r.1),b::r.2)else none
    |none=>none
  | .ptr b g off=>match H b with
    |some c=>if c.gen=g/\off<=c.cells.length then
      (eh (settle n H) (c.cells.drop off)).map fun r=>(.fp r.1,b::r.2)else none
    |none=>none
  | .agg cs=>(eh (settle n H) cs).map fun r=>(.agg r.1,r.2)
  | .bZ cs=>(eh (settle n H) cs).map fun r=>(.bZ r.1,r.2)
  | .aj t v=>(settle n H v).map fun r=>(.aj t r.1,r.2)
  |_=>none
open Classical in
noncomputable def Env.freeze(E:Env)(w:World)(T:List Nat):Env:=
 ⟨E.K,fun a=>if∃b c,b∈T/\E.H b=some c/\E.β b=a.block/\a.spot=none/\a.off<c.cells.length then w.cell? a else E.F a,E.β,E.κ,fun b=>if b∈T then none else E.H b⟩
def al.drop(H:al)(T:List Nat):al:=fun b=>if b∈T then none else H b
section
variable{P:Program}{aT:World}{E:Env}{w:World}
theorem Ov(hI:Inv P aT E w)(T:List Nat){a:Addr}{u:Value}(h:E.F a=some u):(E.freeze w T).F a=some u:=by
 simp only[Env.freeze];split
 ·rename_i hc;obtain⟨b,c,_,hb,he,_⟩:=hc;have:=(hI.chunk b c hb).free a he.symm;rw[this]at h;cases h
 ·exact h
theorem A8(hI:Inv P aT E w)(T:List Nat):Le E (E.freeze w T):=by
 refine⟨fun _ _ h=>h,fun a u h=>Ov hI T h,fun b c' hc _=>?_⟩;simp only[Env.freeze]at hc;split at hc
 ·cases hc
 ·exact⟨c',hc,rfl,rfl,rfl⟩
theorem A9(hI:Inv P aT E w)(T:List Nat):Inv P aT (E.freeze w T) w:=by
 refine⟨hI.below,fun a u hu=>?_,fun a u hu=>Ov hI T (hI.old a u hu),fun b c hc=>?_⟩
 ·simp only[Env.freeze]at hu;split at hu
  ·exact hu
  ·exact hI.cell a u hu
 ·have Iq:=hc;simp only[Env.freeze]at hc;split at hc
  ·cases hc
  ·rename_i hT;obtain⟨u,l,o,ap,f,⟨cs,fC,r1,r2,r3⟩,fl⟩:=hI.chunk b c hc;refine⟨u,l,o,fun b' c' eS he=>?_,fun a ha=>?_,⟨cs,fC,r1,r2,r3.mono (A8 hI T)⟩,fl⟩
   ·simp only[Env.freeze]at eS;split at eS
    ·cases eS
    ·exact ap b' c' eS he
   ·simp only[Env.freeze];split
    ·rename_i hh;obtain⟨b',c',hbT,eS,he,_⟩:=hh;have:=ap b' c' eS (he.trans ha);subst this;exact absurd hbT hT
    ·exact f a ha
theorem Ow{T:List Nat}{b:Nat}{c:Chunk}(hb:E.H b=some c)(hT:b∈T){off:Nat}(ho:off<c.cells.length){u:Value}(hu:w.cell? ⟨E.β b,off,none⟩=some u):(E.freeze w T).F ⟨E.β b,off,none⟩=some u:=by
 simp only[Env.freeze];rw[if_pos ⟨b,c,hT,hb,rfl,rfl,ho⟩];exact hu
theorem Ir{n:Nat}{H:al}{x y:PV}{ids:List Nat}(h:settle n H x=some (y,ids))(hf:x.flat=true):y.flat=true:=by
 have dc:(if aw x then some (x,([]:List Nat))else none)=some (y,ids)->y.flat=true:=by
  intro h;split at h
  ·simp only[Option.some.injEq,Prod.mk.injEq]at h;rw[<-h.1];exact hf
  ·cases h
 cases n with
 |zero=>exact dc h
 |succ n=>
  simp only[settle]at h;split at h
  ·simp only[Option.some.injEq,Prod.mk.injEq]at h;rw[<-h.1];exact hf
  ·split at h
   ·split at h
    ·split at h
     ·simp only[Option.map_eq_some_iff,Prod.mk.injEq]at h;obtain⟨r,_,rfl,_⟩:=h;rfl
     ·cases h
    ·cases h
   ·split at h
    ·split at h
     ·simp only[Option.map_eq_some_iff,Prod.mk.injEq]at h;obtain⟨r,_,rfl,_⟩:=h;rfl
     ·cases h
    ·cases h
   ·simp[PV.flat]at hf
   ·simp[PV.flat]at hf
   ·simp only[Option.map_eq_some_iff,Prod.mk.injEq]at h;obtain⟨r,_,rfl,_⟩:=h;rfl
   ·cases h
theorem Ba{f:PV->Option (PV×List Nat)}{T:List Nat}(hI:Inv P aT E w)
 (hf:∀(x y:PV)(v:Value)(ids:List Nat),f x=some (y,ids)->(∀b,b∈ids->b∈T)->bD E x v->bD (E.freeze w T) y v/\aw y=true/\(x.flat=true->y.flat=true)):
 ∀(xs ys:List PV)(vs:List Value)(ids:List Nat),eh f xs=some (ys,ids)->(∀b,b∈ids->b∈T)->b9 E xs vs->b9 (E.freeze w T) ys vs/\aP ys=true/\((∀x,x∈xs->x.flat=true)->∀y,y∈ys->y.flat=true):=by
 intro xs
 induction xs with
 |nil=>
  intro ys vs ids h _ hR;simp only[eh,Option.some.injEq,Prod.mk.injEq]at h;obtain⟨rfl,rfl⟩:=h;have:vs=[]:=List.eq_nil_of_length_eq_zero (by rw[<-hR.1];rfl);subst this;exact⟨.nil _,rfl,fun _ y hy=>by cases hy⟩
 |cons x xs ih=>
  intro ys vs ids h hT hR;simp only[eh]at h;split at h
  ·rename_i hd;simp only[Option.some.injEq,Prod.mk.injEq]at h;obtain⟨rfl,rfl⟩:=h;exact⟨hR.mono (A8 hI T),hd,fun h=>h⟩
  ·obtain⟨v,us,rfl,hv,rD⟩:=hR.head;split at h
   ·rename_i y i1 uO i2 h1 h2;simp only[Option.some.injEq,Prod.mk.injEq]at h;obtain⟨rfl,rfl⟩:=h;obtain⟨a1,a2,a3⟩:=hf x y v i1 h1 (fun b hb=>hT b (by simp[hb])) hv;obtain⟨b1,b2,b3⟩:=ih uO us i2 h2 (fun b hb=>hT b (by simp[hb])) rD;refine⟨.cons a1 b1,by simp[aP,a2,b2],fun sR z hz=>?_⟩;rcases List.mem_cons.1 hz with rfl|hz
    ·exact a3 (sR x (by simp))
    ·exact b3 (fun q hq=>sR q (by simp[hq])) z hz
   ·cases h
theorem Ox{T:List Nat}(hI:Inv P aT E w):∀(n:Nat)(x y:PV)(v:Value)(ids:List Nat),settle n E.H x=some (y,ids)->(∀b,b∈ids->b∈T)->bD E x v->bD (E.freeze w T) y v/\aw y=true/\(x.flat=true->y.flat=true):=by
 intro n
 induction n with
 |zero=>
  intro x y v ids h hT hx;refine⟨?_,?_,Ir h⟩;all_goals
   simp only[settle]at h;split at h
   ·rename_i hd;simp only[Option.some.injEq,Prod.mk.injEq]at h;obtain⟨rfl,rfl⟩:=h;first|exact hx.mono (A8 hI T)|exact hd
   ·cases h
 |succ n ih=>
  intro x y v ids h hT hx;have sR:=Ir h
  suffices hh:bD (E.freeze w T) y v/\aw y=true from⟨hh.1,hh.2,sR⟩
  simp only[settle]at h;split at h
  ·rename_i hd;simp only[Option.some.injEq,Prod.mk.injEq]at h;obtain⟨rfl,rfl⟩:=h;exact⟨hx.mono (A8 hI T),hd⟩
  ·split at h
   ·rename_i b g len _;split at h
    ·rename_i c hc;split at h
     ·rename_i hg;simp only[Option.map_eq_some_iff,Prod.mk.injEq]at h;obtain⟨⟨cs,i2⟩,hs,rfl,rfl⟩:=h;obtain⟨_,hk,hp⟩:=hx.wk;obtain⟨aV,hv⟩:=hp c hc hg.1;subst hv;obtain⟨U,Oy,Bb,Ee⟩:=D4 hI hc 0 (len*c.s) (by omega);simp only[List.drop_zero,Nat.zero_add]at Bb Ee;obtain⟨k1,k2,k3⟩:=Ba hI (fun x y v ids h hT hx=>ih x y v ids h hT hx) _ _ U i2 hs (fun b' eS=>hT b' (by simp[eS])) Bb;have bW:cs.length=len*c.s:=by rw[k1.1,Oy]
      have sQ:=k3 fun x hx=>(hI.chunk b c hc).flat x (List.mem_of_mem_take hx)
      have Bc:(group c.s len cs).length=len:=by simp[group]
      have qp:∀i(hi:i<(group c.s len cs).length),(group c.s len cs)[i]=(cs.drop (i*c.s)).take c.s:=by intro i hi;simp[group]
      have jI:∀i j,i<len->j<c.s->i*c.s+j<len*c.s:=by
       intro i j hi hj;have:(i+1)*c.s<=len*c.s:=Nat.mul_le_mul_right _ hi;rw[Nat.succ_mul]at this;omega
      refine⟨?_,?_⟩
      ·have key:=bD.sl (E:=E.freeze w T) (group c.s len cs) ⟨E.β b,0,none⟩ (E.κ b) c.s (fun i j=>U.getD (i*c.s+j) default) (by rw[Bc];exact aV)
        (fun i hi=>by
         rw[qp i hi];have:=jI i;rw[Bc]at hi;simp;rcases Nat.eq_zero_or_pos c.s with h0|h0
         ·omega
         ·have:=jI i (c.s - 1) hi (by omega);omega)
        (fun x hx q hq=>by
         obtain⟨i,hi,rfl⟩:=List.getElem_of_mem hx;rw[qp i hi]at hq;exact sQ q (List.mem_of_mem_drop (List.mem_of_mem_take hq)))
        (fun i j hi hj=>by
         rw[Bc]at hi;have cE:=jI i j hi hj;have e:(⟨E.β b,0,none⟩:Addr).add (i*c.s+j)=⟨E.β b,i*c.s+j,none⟩:=by unfold Addr.add;split<;>simp_all
         rw[e];refine Ow hc (hT b (by simp)) (by omega) ?_;have h2:U[i*c.s+j]?=some (U.getD (i*c.s+j) default):=by
          rw[List.getD_eq_getElem?_getD,List.getElem?_eq_getElem (by omega)];rfl
         exact Ee _ _ h2)
        (fun i hi j hj=>by
         have kO:=hi;rw[Bc]at kO;have qq:j<c.s:=by rw[qp i hi]at hj;simp at hj;omega
         have cE:=jI i j kO qq;have e:(group c.s len cs)[i][j]=cs[i*c.s+j]'(by omega):=by
          simp only[qp i hi,List.getElem_take,List.getElem_drop]
         rw[e];have:=k1.get (i*c.s+j) (by omega);rw[List.getD_eq_getElem?_getD,List.getElem?_eq_getElem (by omega)];exact this)
       rw[Bc]at key;exact key
      ·simp only[aw];refine qo fun x hx=>aeS fun q hq=>?_
       obtain⟨i,hi,rfl⟩:=List.getElem_of_mem hx;rw[qp i hi]at hq;exact qn k2 q (List.mem_of_mem_drop (List.mem_of_mem_take hq))
     ·cases h
    ·cases h
   ·rename_i b g off _;split at h
    ·rename_i c hc;split at h
     ·rename_i hg;simp only[Option.map_eq_some_iff,Prod.mk.injEq]at h;obtain⟨⟨cs,i2⟩,hs,rfl,rfl⟩:=h;obtain⟨_,hk,hp⟩:=hx.wj;have hv:=hp c hc hg.1;subst hv;obtain⟨U,Oy,Bb,Ee⟩:=D4 hI hc off (c.cells.length - off) (by omega);rw[List.take_of_length_le (by simp)]at Bb;obtain⟨k1,k2,k3⟩:=Ba hI (fun x y v ids h hT hx=>ih x y v ids h hT hx) _ _ U i2 hs (fun b' eS=>hT b' (by simp[eS])) Bb;have sQ:=k3 fun x hx=>(hI.chunk b c hc).flat x (List.mem_of_mem_drop hx)
      refine⟨.fp cs _ (fun j=>U.getD j default) sQ (fun j hj=>?_) (fun j hj=>?_),by simp only[aw];exact k2⟩
      ·have qq:j<U.length:=by rw[<-k1.1];exact hj
       have e:(⟨E.β b,off,none⟩:Addr).add j=⟨E.β b,off+j,none⟩:=by unfold Addr.add;split<;>simp_all
       rw[e];refine Ow hc (hT b (by simp)) (by omega) (Ee j _ ?_);rw[List.getD_eq_getElem?_getD,List.getElem?_eq_getElem qq];rfl
      ·have qq:j<U.length:=by rw[<-k1.1];exact hj
       have:=k1.get j hj;simp only[List.getD_eq_getElem?_getD,List.getElem?_eq_getElem qq];exact this
     ·cases h
    ·cases h
   ·rename_i oR;simp only[Option.map_eq_some_iff,Prod.mk.injEq]at h;obtain⟨⟨cs,i2⟩,hs,rfl,rfl⟩:=h;obtain⟨vs,rfl,hR,aeW⟩:=hx.DU;obtain⟨k1,k2,k3⟩:=Ba hI (fun x y v ids h hT hx=>ih x y v ids h hT hx) _ _ vs i2 hs hT hR;exact⟨k1.agg (k3 aeW),by simp only[aw];exact k2⟩
   ·rename_i oR;simp only[Option.map_eq_some_iff,Prod.mk.injEq]at h;obtain⟨⟨cs,i2⟩,hs,rfl,rfl⟩:=h;obtain⟨vs,rfl,hR⟩:=hx.N4;obtain⟨k1,k2,_⟩:=Ba hI (fun x y v ids h hT hx=>ih x y v ids h hT hx) _ _ vs i2 hs hT hR;exact⟨k1.bZ,by simp only[aw];exact k2⟩
   ·rename_i t v0 _;simp only[Option.map_eq_some_iff,Prod.mk.injEq]at h;obtain⟨⟨y0,i2⟩,hs,rfl,rfl⟩:=h;obtain⟨u,rfl,hu⟩:=hx.AV;obtain⟨k1,k2,_⟩:=ih _ _ u i2 hs hT hu;exact⟨.aj t y0 u k1,by simp only[aw];exact k2⟩
   ·cases h
end
end Go.Pi
end
section
namespace Go.Pi
open Go.RowKit
structure XO where
 dst:Option Nat
 gd:Option (Nat×Bool)
 id:Nat
 k:K
inductive XC where
 |ng(ops:List XO)
 |uP(ops:List XO)(ps:List (Nat×Nat))
 |cond(c:bK)(a b:List XC)
 |block(id:Nat)(body:List XC)
 |loop(body:List XC)
 |exit(id:Nat)
 |ret
inductive RV where
 |tmp(t:Nat)
 |cell(t:Nat)(ag:Bool)(n:Nat)
structure FX where
 np:Nat
 n:Nat
 jJ:List RV
 body:List XC
structure St where
 t:Nat->PV
 H:al
 n:Nat
def put(t:Nat->PV)(d:Option Nat)(v:PV):Nat->PV:=
 match d with
 |some d=>fun x=>if x=d then v else t x
 |none=>t
def ev(G:Nat->PV)(t:Nat->PV):bK->PV
 | .t n=>t n
 | .c v=>v
 | .g n=>G n
inductive Ex where
 |normal
 |exit(id:Nat)
 |ret
abbrev aS:=Nat->List PV->Option Chunk->Option (PV×List PV)
def depth:Nat:=30
def runK(ev:bK->PV)(H:al)(id st:Nat):K->Option (PV×al)
 | .app e s b d x=>
   match settle depth H (ev x)with
   |some (y,ids)=>(iU (H.drop ids) id st e s b (ev d) y).map fun r=>(r.1,(H.drop ids).fK r.2)
   |none=>none
 |k=>(cx ev H id st k).map fun r=>(r.1,H.fK r.2)
def lh(bJ:aS)(H:al)(f:Nat):List PV->Option (PV×al)
 | .ptr b g 0::rest=>
   match H b,eh (settle depth H) rest with
   |some c,some (ys,ids)=>
    if c.gen=g/\aP c.cells=true/\ids.contains b=false then
     (bJ f (.ptr 0 0 0::ys) (some ⟨c.e,0,c.cells,c.s⟩)).bind fun r=>if r.2.length=c.cells.length then some (r.1,(H.drop ids).put b (some ⟨c.e,c.gen,r.2,c.s⟩))else none
    else none
   |_,_=>none
 |args=>
  match eh (settle depth H) args with
  |some (ys,ids)=>(bJ f ys none).map fun r=>(r.1,H.drop ids)
  |none=>none
def lj(f:Nat):Bool:=f==167
def Ef:PV->PV->Bool
 | .int k n,.int k' n'=>decide (k=k')&&decide (n=n')
 | .bool a,.bool b=>decide (a=b)
 | .str a,.str b=>decide (a.data=b.data)
 |_,_=>false
def wB:List PV->List PV->Bool
 |[],[]=>true
 |x::xs,y::ys=>Ef x y&&wB xs ys
 |_,_=>false
def zh(bJ:aS)(H:al)(f:Nat):List PV->Option (PV×al)
 | .ptr b g 0::rest=>
   match lh bJ H f (.ptr b g 0::rest),H b,eh (settle depth H) rest with
   |some (r,H1),some c,some (_,[])=>match H1 b with
    |some c1=>if wB c1.cells c.cells=true then some (r,H)else none
    |none=>none
   |_,_,_=>none
 |_=>none
def lK(bJ:aS)(H:al)(f:Nat)(args:List PV):Option (PV×al):=if lj f=true then zh bJ H f args else lh bJ H f args
theorem aeX{a b:PV}(h:Ef a b=true):a=b:=by
 unfold Ef at h;split at h
 ·simp only[Bool.and_eq_true,decide_eq_true_eq]at h;rw[h.1,h.2]
 ·simp only[decide_eq_true_eq]at h;rw[h]
 ·rename_i a b;simp only[decide_eq_true_eq]at h;cases a;cases b;simp only at h;rw[h]
 ·cases h
theorem Oz:∀{xs ys:List PV},wB xs ys=true->xs=ys
 |[],[],_=>rfl
 |x::xs,y::ys,h=>by
  simp only[wB,Bool.and_eq_true]at h;rw[aeX h.1,Oz h.2]
 |[],_::_,h=>by cases h
 |_::_,[],h=>by cases h
theorem al.aeY(H:al):H.drop []=H:=by funext b;simp[al.drop]
theorem OA{bJ:aS}{H H':al}{f:Nat}{args:List PV}{r:PV}(h:zh bJ H f args=some (r,H')):
 H'=H/\lh bJ H f args=some (r,H):=by
 unfold zh at h;split at h
 ·rename_i b g rest;split at h
  ·rename_i r1 H1 c ys h1 h2 h3;split at h
   ·rename_i c1 h4;split at h
    ·rename_i he;simp only[Option.some.injEq,Prod.mk.injEq]at h;obtain⟨rfl,rfl⟩:=h;refine⟨rfl,?_⟩;rw[h1];have rG:=h1;simp only[lh,h2,h3]at rG;split at rG
     ·simp only[Option.bind_eq_some_iff]at rG;obtain⟨⟨r',cells⟩,pB,rG⟩:=rG;split at rG
      ·simp only[Option.some.injEq,Prod.mk.injEq]at rG;obtain⟨rfl,rfl⟩:=rG;simp only[al.fT,Option.some.injEq]at h4;subst h4;have e:=Oz he;simp only at e;subst e;have:(H.drop []).put b (some ⟨c.e,c.gen,c.cells,c.s⟩)=H:=by
        rw[al.aeY];funext x;by_cases hx:x=b
        ·subst hx;rw[al.fT];exact h2.symm
        ·rw[al.gh _ _ hx]
       rw[this]
      ·cases rG
     ·cases rG
    ·cases h
   ·cases h
  ·cases h
 ·cases h
theorem OB{bJ:aS}{H H':al}{f:Nat}{args:List PV}{r:PV}(h:lK bJ H f args=some (r,H')):lh bJ H f args=some (r,H'):=by
 unfold lK at h;split at h
 ·obtain⟨rfl,h⟩:=OA h;exact h
 ·exact h
def gW(bJ:aS)(ev:bK->PV)(H:al)(id st:Nat):K->Option (PV×al)
 | .call f as=>lK bJ H f (as.map ev)
 | .m7 fo as=>match ev fo with
   | .kM (.func f) first Is=>lK bJ H f (first++as.map ev++Is)
   |_=>none
 |k=>runK ev H id st k
def gS(bJ:aS)(G:Nat->PV)(i:Nat)(o:XO)(s:St):Option St:=
 match o.gd with
 |none=>(gW bJ (ev G s.t) s.H o.id (s.n+i) o.k).map fun r=>⟨put s.t o.dst r.1,r.2,s.n⟩
 |some (g,eZ)=>
  match s.t g with
  | .bool b=>if b=eZ then(gW bJ (ev G s.t) s.H o.id (s.n+i) o.k).map fun r=>⟨put s.t o.dst r.1,r.2,s.n⟩else some ⟨put s.t o.dst (.bZ []),s.H,s.n⟩
  | .bZ _=>some ⟨put s.t o.dst (.bZ []),s.H,s.n⟩
  |_=>none
def qt(bJ:aS)(G:Nat->PV):Nat->List XO->St->Option St
 |_,[],s=>some s
 |i,o::os,s=>(gS bJ G i o s).bind (qt bJ G (i+1) os)
def jj(H:al):List PV->List Nat
 | .ptr b _ 0::rest=>b::((eh (settle depth H) rest).map (·.2)).getD []
 |args=>((eh (settle depth H) args).map (·.2)).getD []
def bU(ev:bK->PV)(H:al)(id:Nat):K->List Nat×List Nat
 | .ld _ _ x=>match ev x with
   | .ptr b _ _=>([b],[])
   |_=>([],[])
 | .py x=>match ev x with
   | .row b _ _=>([b],[])
   |_=>([],[])
 | .st _ x _=>match ev x with
   | .ptr b _ _=>([],[b])
   |_=>([],[])
 | .app _ _ _ d x=>
   match settle depth H (ev x)with
   |some (_,ids)=>([],(match ev d with| .row b _ _=>[b]|_=>[id])++ids)
   |none=>([],[])
 | .new _ _=>([],[id])
 | .box _ _ _=>([],[id])
 | .bh _ _ _ _ _=>([],[id])
 | .m5 _ _ _ _ _ _=>([],[id])
 | .call f as=>if lj f=true then(jj H (as.map ev),[])else([],jj H (as.map ev))
 |_=>([],[])
def ed(G:Nat->PV)(x:XO)(s:St):List Nat×List Nat:=
 match x.gd with
 |none=>bU (ev G s.t) s.H x.id x.k
 |some (g,eZ)=>
  match s.t g with
  | .bool b=>if b=eZ then bU (ev G s.t) s.H x.id x.k else([],[])
  |_=>([],[])
def nh(bJ:aS)(G:Nat->PV):Nat->List XO->St->Option (St×List (List Nat×List Nat))
 |_,[],s=>some (s,[])
 |i,o::os,s=>
  match gS bJ G i o s with
  |some s'=>(nh bJ G (i+1) os s').map fun r=>(r.1,ed G o s::r.2)
  |none=>none
def wC(a b:List Nat):Bool:=a.all fun x=>!b.contains x
def uQ(ft:List (List Nat×List Nat))(ps:List (Nat×Nat)):Bool:=
 ps.all fun p=>
  match ft[p.1]?,ft[p.2]? with
  |some x,some y=>wC x.2 (y.1++y.2)&&wC x.1 y.2
  |_,_=>false
def uR(bJ:aS)(G:Nat->PV)(ops:List XO)(ps:List (Nat×Nat))(s:St):Option St:=
 match nh bJ G 0 ops s with
 |some (s',ft)=>if uQ ft ps then some s' else none
 |none=>none
def rounds(body:St->Option (Ex×St)):Nat->St->Option (Ex×St)
 |0,_=>none
 |n+1,s=>(body s).bind fun r=>match r.1 with
  | .normal=>rounds body n r.2
  |e=>some (e,r.2)
mutual
def fU(bJ:aS)(G:Nat->PV)(gk:Nat):XC->St->Option (Ex×St)
 | .ng ops,s=>(qt bJ G 0 ops s).map fun s'=>(.normal,⟨s'.t,s'.H,s'.n+ops.length⟩)
 | .uP ops ps,s=>(uR bJ G ops ps s).map fun s'=>(.normal,⟨s'.t,s'.H,s'.n+ops.length⟩)
 | .cond c a b,s=>match ev G s.t c with
   | .bool t=>if t then iw bJ G gk a s else iw bJ G gk b s
   |_=>none
 | .block id body,s=>(iw bJ G gk body s).map fun r=>match r.1 with
   | .exit j=>if j=id then(.normal,r.2)else r
   |_=>r
 | .loop body,s=>rounds (iw bJ G gk body) gk s
 | .exit id,s=>some (.exit id,s)
 | .ret,s=>some (.ret,s)
def iw(bJ:aS)(G:Nat->PV)(gk:Nat):List XC->St->Option (Ex×St)
 |[],s=>some (.normal,s)
 |c::cs,s=>(fU bJ G gk c s).bind fun r=>match r.1 with
  | .normal=>iw bJ G gk cs r.2
  |e=>some (e,r.2)
end
end Go.Pi
end
section
namespace Go.Pi
open Go.RowKit
def sU(ops:Array Oper):Nat->Nat->Nat->Bool
 |0,_,_=>false
 |n+1,i,j=>match ops[j]? with
  |some o=>o.after.any fun e=>Region.binds .any e&&(e.on==i||sU ops n i e.on)
  |none=>false
def kW:K->Bool
 | .new _ _| .box _ _ _| .bh _ _ _ _ _| .m5 _ _ _ _ _ _| .st _ _ _| .app _ _ _ _ _| .call _ _=>true
 |_=>false
def zi:K->Bool
 | .new _ _| .box _ _ _| .bh _ _ _ _ _| .m5 _ _ _ _ _ _=>true
 |_=>false
def kR:K->Bool
 | .ld _ _ _| .py _=>true
 | .call f _=>lj f
 |_=>false
def kV:K->Bool
 | .m7 _ _=>true
 |_=>false
def wD(P:Program)(N:Nat)(ops:Array Oper)(rid i:Nat)(o:Oper):Option XO:=do
 let k <-eE P o
 let gd <-match o.guard with
  |none=>some none
  |some (j,eZ)=>match(ops[j]?).bind (·.dst)with
   |some d=>some (some (d,eZ))
   |none=>none
 match o.dst with
 |some d=>if d<N then some ⟨o.dst,gd,1+rid*1000+i,k⟩else none
 |none=>some ⟨o.dst,gd,1+rid*1000+i,k⟩
def qu(P:Program)(N:Nat)(ops:Array Oper)(rid:Nat):Nat->List Oper->Option (List XO)
 |_,[]=>some []
 |i,o::os=>do some ((<-wD P N ops rid i o)::(<-qu P N ops rid (i+1) os))
def It(x y:XO):Bool:=
 (kW x.k&&kW y.k&&!(zi x.k&&zi y.k&&x.id !=y.id))||(kW x.k&&kR y.k)||(kR x.k&&kW y.k)
def Bd(ops:Array Oper)(xs:List XO):List (Nat×Nat):=
 (xs.zipIdx).flatMap fun q=>((xs.zipIdx).filter fun p=>p.2<q.2&&It p.1 q.1&&!sU ops ops.size p.2 q.2).map fun p=>(p.2,q.2)
def qv:K->List bK
 | .mv x=>[x]
 | .pick c a b=>[c,a,b]
 | .new _ _=>[]
 | .box _ _ x=>[x]
 | .build _ ps=>ps.map (·.2.2)
 | .bh _ _ _ _ ps=>ps.map (·.2.2)
 | .ld _ _ x=>[x]
 | .st _ x v=>[x,v]
 | .v8 x=>[x]
 | .bin _ x y=>[x,y]
 | .mZ _ x y=>[x,y]
 | .v9 _ x y=>[x,y]
 | .mI _ x y=>[x,y]
 | .un _ x=>[x]
 | .conv _ x=>[x]
 | .py x=>[x]
 | .yX x=>[x]
 | .cL _ x=>[x]
 | .wa _ as bs=>as++bs
 | .m5 _ _ _ _ l c=>[l,c]
 | .jF x lo hi=>x::(lo.toList++hi.toList)
 | .kj _ x lo hi=>x::(lo.toList++hi.toList)
 | .fa _ x=>[x]
 | .ix _ x i=>[x,i]
 | .sx x i=>[x,i]
 | .ta _ _ x=>[x]
 | .ext x _=>[x]
 | .len x=>[x]
 | .dP x=>[x]
 | .app _ _ _ d x=>[d,x]
 | .mx x y=>[x,y]
 | .mn x y=>[x,y]
 | .rz x=>[x]
 | .wb x=>[x]
 | .we _ x=>[x]
 | .call _ as=>as
 | .m7 f as=>f::as
def aeZ:bK->Option Nat
 | .t n=>some n
 |_=>none
def looks(x:XO):List Nat:=(qv x.k).filterMap aeZ++(match x.gd with|some (g,_)=>[g]|none=>[])
def Eg(x y:XO):Bool:=
 (match x.dst with
  |some d=>!(looks y).contains d&&y.dst !=some d
  |none=>true)&&
 (match y.dst with
  |some d=>!(looks x).contains d
  |none=>true)
def Be(ops:Array Oper)(xs:List XO):Bool:=
 (ops.toList.zipIdx.all fun q=>q.1.after.all fun e=>!Region.binds .any e||e.on<q.2)&&
 (xs.zipIdx.all fun q=>xs.zipIdx.all fun p=>!(p.2<q.2)||Eg p.1 q.1||sU ops ops.size p.2 q.2)
def l9(P:Program)(N:Nat):Code->Option (List XC)
 | .skip=>some []
 | .region id ops false=>do some [.ng (<-qu P N ops id 0 ops.toList)]
 | .region id ops true=>do
   let xs <-qu P N ops id 0 ops.toList
   if Be ops xs&&xs.all (fun x=>!kV x.k)then some [.uP xs (Bd ops xs)]else none
 | .seq a b=>do some ((<-l9 P N a)++(<-l9 P N b))
 | .cond c a b=>do some [.cond (<-di c) (<-l9 P N a) (<-l9 P N b)]
 | .block id a=>do some [.block id (<-l9 P N a)]
 | .loop a=>do some [.loop (<-l9 P N a)]
 | .exit id=>some [.exit id]
 | .ret=>some [.ret]
 |_=>none
def uS(P:Program):List ResultVar->Option (List RV)
 |[]=>some []
 | .tmp t::rs=>do some (.tmp t::(<-uS P rs))
 | .cell a t::rs=>do
   let ag <-yY P t
   let s <-im P t
   some (.cell a ag (if ag then s else 1)::(<-uS P rs))
def wE(P:Program)(fn:Func):Option FX:=do
 let c <-fn.body
 some ⟨fn.params.size+fn.nfree,fn.ntmps,<-uS P fn.results.toList,<-l9 P fn.ntmps c⟩
structure Ext(E:Env)(w:World)(E':Env)(w':World):Prop where
 le:Le E E'
 size:w.heap.size<=w'.heap.size
 known:∀a u,E'.F a=some u->E.F a=some u\/w.heap.size<=a.block\/∃b c,E.H b=some c/\E.β b=a.block
 frame:∀i,i<w.heap.size->(∀b c,E.H b=some c->E.β b≠i)->w'.heap[i]?=w.heap[i]?
 own:∀b c,E'.H b=some c->w.heap.size<=E'.β b\/∃b' c',E.H b'=some c'/\E.β b'=E'.β b
theorem Ext.refl(E:Env)(w:World):Ext E w E w:=⟨Le.refl E,Nat.le_refl _,fun _ _ h=> .inl h,fun _ _ _=>rfl,fun b c h=> .inr ⟨b,c,h,rfl⟩⟩
theorem Ext.trans{E E1 E2:Env}{w w1 w2:World}(h:Ext E w E1 w1)(k:Ext E1 w1 E2 w2):Ext E w E2 w2:=by
 refine⟨h.le.trans k.le,Nat.le_trans h.size k.size,fun a u hu=>?_,fun i hi hn=>?_,fun b c hc=>?_⟩
 ·rcases k.known a u hu with hu|hu|⟨b,c,hc,he⟩
  ·exact h.known a u hu
  ·exact .inr (.inl (Nat.le_trans h.size hu))
  ·rcases h.own b c hc with ho|⟨b',c',eS,iT⟩
   ·exact .inr (.inl (he▸ho))
   ·exact .inr (.inr ⟨b',c',eS,iT.trans he⟩)
 ·rw[<-h.frame i hi hn];refine k.frame i (Nat.lt_of_lt_of_le hi h.size) fun b c hc he=>?_
  rcases h.own b c hc with ho|⟨b',c',eS,iT⟩
  ·omega
  ·exact hn b' c' eS (iT.trans he)
 ·rcases k.own b c hc with ho|⟨b1,c1,dG,uT⟩
  ·exact .inl (Nat.le_trans h.size ho)
  ·rcases h.own b1 c1 dG with ho|⟨b',c',eS,iT⟩
   ·exact .inl (uT▸ho)
   ·exact .inr ⟨b',c',eS,iT.trans uT⟩
section
variable{P:Program}{aT:World}{E:Env}{w:World}
theorem Ext.freeze(hI:Inv P aT E w)(T:List Nat):Ext E w (E.freeze w T) w:=by
 refine⟨A8 hI T,Nat.le_refl _,fun a u hu=>?_,fun _ _ _=>rfl,fun b c hc=>?_⟩
 ·simp only[Env.freeze]at hu;split at hu
  ·rename_i h;obtain⟨b,c,_,hb,he,_⟩:=h;exact .inr (.inr ⟨b,c,hb,he⟩)
  ·exact .inl hu
 ·simp only[Env.freeze]at hc;split at hc
  ·cases hc
  ·exact .inr ⟨b,c,hc,rfl⟩
theorem Ext.alike{w':World}(ha:Alike w w'):Ext E w E w':=⟨Le.refl E,by rw[ha.1];exact Nat.le_refl _,fun _ _ h=> .inl h,fun i _ _=>by rw[ha.1],fun b c h=> .inr ⟨b,c,h,rfl⟩⟩
theorem Ext.post{E':Env}{w':World}{u:mr}(hp:oQ P aT E E' w w' u):Ext E w E' w':=by
 refine⟨hp.le,hp.size,fun a v hv=> .inl (hp.known▸hv),fun i hi hn=>hp.frame i hi fun b c hu dW=>?_,fun b c hc=>?_⟩
 ·cases hc:E.H b with
  |none=>exact absurd hc dW
  |some c'=>exact hn b c' hc
 ·by_cases h:∃c0,u=some (b,c0)
  ·obtain⟨c0,h⟩:=h;rcases hp.HU b c0 h with h1|⟨c',h1,h2⟩
   ·exact .inl h1
   ·exact .inr ⟨b,c',h1,h2⟩
  ·have dW:∀c0,u≠some (b,c0):=fun c0 e=>h ⟨c0,e⟩
   have y7:=(hp.place b dW).1;have hH:E'.H b=E.H b:=by
    rw[hp.heap];cases u with
    |none=>rfl
    |some p=>
     obtain⟨b0,c0⟩:=p;exact al.gh _ _ (fun e=>dW c0 (by rw[e]))
   exact .inr ⟨b,c,hH▸hc,y7.symm⟩
end
end Go.Pi
end
section
namespace Go.Pi
open Go.RowKit
def H0(ch:Option Chunk):al:=fun b=>if b=0 then ch else none
structure Iu(P:Program)(aT:World)(E:Env)(w:World)(ch:Option Chunk)(r:PV)(cells:List PV)(v:Value)(E':Env)(w':World):Prop where
 pC:bD E' r v
 deep:aw r=true
 inv:Inv P aT E' w'
 ext:Ext E w E' w'
 chunk:∀c,ch=some c->E'.H 0=some ⟨c.e,0,cells,c.s⟩/\aP cells=true
def OC(P:Program)(f:Nat):Prop:=∃fn,P.funcs[f]?=some fn/\fn.body.isNone=false/\(fn.name== "runtime.NumGoroutine")=false
def ic(P:Program)(aT:World)(bJ:aS):Prop:=
 ∀f args ch r cells,bJ f args ch=some (r,cells)->OC P f/\((∀c,ch=some c->c.gen=0)->∀(E:Env)(w:World)(vs:List Value),Inv P aT E w->E.H=H0 ch->(∀b g,E.K b g->g<1)->b9 E args vs->
  Calls P f vs.toArray w fun e w'=>∃v E',e= .returned v/\Iu P aT E w ch r cells v E' w')
section
variable{P:Program}{aT:World}{E:Env}{w:World}
theorem b9.deep{E E':Env}(hF:∀a u,E.F a=some u->E'.F a=some u){xs:List PV}{vs:List Value}(h:b9 E xs vs)(hd:aP xs=true):b9 E' xs vs:=
 ⟨h.1,fun i c v hc hv=>(h.2 i c v hc hv).deep hF (qn hd c (List.mem_of_getElem? hc))⟩
theorem Eh(hI:Inv P aT E w){n:Nat}{xs ys:List PV}{vs:List Value}{ids:List Nat}(h:eh (settle n E.H) xs=some (ys,ids))(hR:b9 E xs vs):
 b9 (E.freeze w ids) ys vs/\aP ys=true:=
 let ⟨a,b,_⟩:=Ba (T:=ids) hI (fun x y v i h hT hx=>Ox hI n x y v i h hT hx) xs ys vs ids h (fun _ h=>h) hR
 ⟨a,b⟩
structure Iw(P:Program)(aT:World)(E:Env)(w:World)(r:PV)(H':al)(v:Value)(E':Env)(w':World):Prop where
 pC:bD E' r v
 inv:Inv P aT E' w'
 ext:Ext E w E' w'
 heap:E'.H=H'
 used:E'.K=E.K
theorem ae0{bJ:aS}(hS:ic P aT bJ)(hI:Inv P aT E w){f:Nat}{args ys:List PV}{ids:List Nat}{vs:List Value}{r:PV}{cells:List PV}(eC:eh (settle depth E.H) args=some (ys,ids))(hR:b9 E args vs)
 (bC:bJ f ys none=some (r,cells)):Calls P f vs.toArray w fun e w'=>∃v E',e= .returned v/\Iw P aT E w r (E.H.drop ids) v E' w':=by
 obtain⟨h1,h2⟩:=Eh hI eC hR;have iH:=A9 hI ids;have nX:=Ext.freeze hI ids;let E1:=E.freeze w ids
 let Ec:Env:=⟨fun _ _=>False,E1.F,E.β,E.κ,H0 none⟩
 have Ix:Inv P aT Ec w:=⟨iH.below,iH.cell,iH.old,fun b c hc=>by simp[Ec,H0]at hc⟩;refine((hS f ys none r cells bC).2 (fun c h=>by cases h) Ec w vs Ix rfl (fun _ _ h=>h.elim) (b9.deep (E:=E1) (E':=Ec) (fun _ _ h=>h) h1 h2)).mono ?_;rintro e w' ⟨v,E2,rfl,hb⟩;let E':Env:=⟨E.K,E2.F,E.β,E.κ,E.H.drop ids⟩
 have aV:Le E1 E':=⟨fun _ _ h=>h,fun a u h=>hb.ext.le.F a u h,fun b c' hc _=>⟨c',hc,rfl,rfl,rfl⟩⟩;have Bf:∀i,i<w.heap.size->w'.heap[i]?=w.heap[i]?:=fun i hi=>hb.ext.frame i hi fun b c hc=>by simp[Ec,H0]at hc
 refine⟨v,E',rfl,bD.deep (E:=E2) (E':=E') (fun _ _ h=>h) hb.pC hb.deep,⟨hb.inv.below,hb.inv.cell,hb.inv.old,fun x c hc=>?_⟩,⟨nX.le.trans aV,hb.ext.size,fun a u hu=>?_,fun i hi _=>Bf i hi,fun x c hc=>?_⟩,rfl,rfl⟩
 ·have hx:=iH.chunk x c hc;have cE:=iH.AN (b:=x) hc;refine⟨hx.used,hx.last,hx.own,hx.apart,fun a ha=>?_,?_,hx.flat⟩
  ·show E2.F a=none;cases hF:E2.F a with
   |none=>rfl
   |some u=>
    rcases hb.ext.known a u hF with h|h|⟨b,c',h,_⟩
    ·have:=hx.free a ha;rw[show E1.F a=some u from h]at this;cases this
    ·have:a.block=E.β x:=ha;have h':w.heap.size<=a.block:=h;have:E.β x<w.heap.size:=cE;omega
    ·simp[Ec,H0]at h
  ·obtain⟨cs,h1,h2,h3,h4⟩:=hx.cells;exact⟨cs,(Bf _ cE).trans h1,h2,h3,h4.mono aV⟩
 ·rcases hb.ext.known a u hu with h|h|⟨b,c',h,_⟩
  ·exact nX.known a u h
  ·exact .inr (.inl h)
  ·simp[Ec,H0]at h
 ·exact nX.own x c hc
theorem ae1{bJ:aS}(hS:ic P aT bJ)(hI:Inv P aT E w){f b g:Nat}{rest ys:List PV}{ids:List Nat}{vs:List Value}{r:PV}{cells:List PV}{c:Chunk}(hc:E.H b=some c)(hg:c.gen=g)(gF:aP c.cells=true)(OD:ids.contains b=false)
 (eC:eh (settle depth E.H) rest=some (ys,ids))(hR:b9 E (.ptr b g 0::rest) vs)(bC:bJ f (.ptr 0 0 0::ys) (some ⟨c.e,0,c.cells,c.s⟩)=some (r,cells))(ew:cells.length=c.cells.length):
 Calls P f vs.toArray w fun e w'=>∃v E',e= .returned v/\Iw P aT E w r ((E.H.drop ids).put b (some ⟨c.e,c.gen,cells,c.s⟩)) v E' w':=by
 obtain⟨v0,us,rfl,lr,hRr⟩:=hR.head;obtain⟨h1,h2⟩:=Eh hI eC hRr;have iH:=A9 hI ids;have nX:=Ext.freeze hI ids;have eS:b∉ids:=by simpa using OD
 let E1:=E.freeze w ids
 have cy:E1.H b=some c:=by show(if b∈ids then none else E.H b)=_;rw[if_neg eS,hc]
 have gG:=iH.chunk b c cy;let Ec:Env:=⟨fun x y=>x=0/\y=0,E1.F,fun _=>E.β b,fun _=>E.κ b,H0 (some ⟨c.e,0,c.cells,c.s⟩)⟩
 have Ix:Inv P aT Ec w:=by
  refine⟨iH.below,iH.cell,iH.old,fun x c' hx=>?_⟩;simp only[Ec,H0]at hx;split at hx
  ·rename_i bY;subst bY;injection hx with hx;subst hx;refine⟨⟨rfl,rfl⟩,fun g' eO hk=>by have:=hk.2;have:0<g':=eO;omega,gG.own,fun b' gQ eS _=>?_,gG.free,?_,gG.flat⟩
   ·simp only[Ec,H0]at eS;split at eS
    ·assumption
    ·cases eS
   ·obtain⟨cs,k1,k2,k3,k4⟩:=gG.cells;exact⟨cs,k1,k2,k3,b9.deep (E:=E1) (E':=Ec) (fun _ _ h=>h) k4 gF⟩
  ·cases hx
 have ae3:b9 Ec (.ptr 0 0 0::ys) (v0::us):=by
  refine .cons ?_ (b9.deep (E:=E1) (E':=Ec) (fun _ _ h=>h) h1 h2);obtain⟨hv,_,hp⟩:=lr.wj;exact .ptr 0 0 0 v0 hv ⟨rfl,rfl⟩ fun _ _ _=>hp c hc hg
 refine((hS f _ _ r cells bC).2 (fun c' h=>by injection h with h;rw[<-h]) Ec w (v0::us) Ix rfl (fun _ _ h=>by have:=h.2;omega) ae3).mono ?_;rintro e w' ⟨v,E2,rfl,fD⟩;obtain⟨nY,ae4⟩:=fD.chunk _ rfl;have OE:E2.β 0=E.β b:=by
  obtain⟨_,_,_,h3,_⟩:=fD.ext.le.H 0 _ nY ⟨rfl,rfl⟩;exact h3
 have ae5:E2.κ 0=E.κ b:=by
  obtain⟨_,_,_,_,h3⟩:=fD.ext.le.H 0 _ nY ⟨rfl,rfl⟩;exact h3
 let E':Env:=⟨E.K,E2.F,E.β,E.κ,(E.H.drop ids).put b (some ⟨c.e,c.gen,cells,c.s⟩)⟩
 have aV:Le E1 E':=by
  refine⟨fun _ _ h=>h,fun a u h=>fD.ext.le.F a u h,fun x c' hx _=>?_⟩;by_cases e:x=b
  ·subst e;simp only[E',al.fT,Option.some.injEq]at hx;subst hx;exact⟨c,cy,rfl,rfl,rfl⟩
  ·simp only[E',al.gh _ _ e]at hx;exact⟨c',hx,rfl,rfl,rfl⟩
 have aAC:∀i,(∃x c',Ec.H x=some c'/\Ec.β x=i)->i=E.β b:=by
  rintro i ⟨x,c',_,h⟩;exact h.symm
 have Bf:∀i,i<w.heap.size->i≠E.β b->w'.heap[i]?=w.heap[i]?:=fun i hi dW=>fD.ext.frame i hi fun x c' hx he=>dW he.symm
 refine⟨v,E',rfl,bD.deep (E:=E2) (E':=E') (fun _ _ h=>h) fD.pC fD.deep,⟨fD.inv.below,fD.inv.cell,fD.inv.old,fun x c' hx=>?_⟩,⟨nX.le.trans aV,fD.ext.size,fun a u hu=>?_,fun i hi hn=>?_,fun x c' hx=>?_⟩,rfl,rfl⟩
 ·have OG:∀y gQ,E'.H y=some gQ->∃c3,E1.H y=some c3:=by
   intro y gQ hy;by_cases e:y=b
   ·subst e;exact⟨c,cy⟩
   ·simp only[E',al.gh _ _ e]at hy;exact⟨gQ,hy⟩
  by_cases e:x=b
  ·subst e;simp only[E',al.fT,Option.some.injEq]at hx;subst hx;have h0:=fD.inv.chunk 0 _ nY;refine⟨gG.used,gG.last,gG.own,fun y gQ hy he=>?_,fun a ha=>h0.free a (by rw[OE];exact ha),?_,h0.flat⟩
   ·obtain⟨c3,h3⟩:=OG y gQ hy;exact gG.apart y c3 h3 he
   ·obtain⟨cs,k1,k2,k3,k4⟩:=h0.cells;rw[OE]at k1;rw[ae5]at k3;exact⟨cs,k1,k2,k3,b9.deep (E:=E2) (E':=E') (fun _ _ h=>h) k4 ae4⟩
  ·simp only[E',al.gh _ _ e]at hx;have qw:=iH.chunk x c' hx;have cE:=iH.AN (b:=x) hx;have dW:E.β x≠E.β b:=fun h=>e (gG.apart x c' hx h)
   refine⟨qw.used,qw.last,qw.own,fun y gQ hy he=>?_,fun a ha=>?_,?_,qw.flat⟩
   ·obtain⟨c3,h3⟩:=OG y gQ hy;exact qw.apart y c3 h3 he
   ·show E2.F a=none;have Oh:a.block=E.β x:=ha;cases hF:E2.F a with
    |none=>rfl
    |some u=>
     rcases fD.ext.known a u hF with h|h|⟨y,gQ,h,he⟩
     ·have:=qw.free a ha;rw[show E1.F a=some u from h]at this;cases this
     ·have:E.β x<w.heap.size:=cE;omega
     ·have:E.β b=a.block:=he;omega
   ·obtain⟨cs,k1,k2,k3,k4⟩:=qw.cells;exact⟨cs,(Bf _ cE dW).trans k1,k2,k3,k4.mono aV⟩
 ·rcases fD.ext.known a u hu with h|h|⟨y,gQ,h,he⟩
  ·exact nX.known a u h
  ·exact .inr (.inl h)
  ·exact .inr (.inr ⟨b,c,hc,he⟩)
 ·exact Bf i hi (fun e=>hn b c hc e.symm)
 ·by_cases e:x=b
  ·subst e;exact .inr ⟨x,c,hc,rfl⟩
  ·simp only[E',al.gh _ _ e]at hx;exact nX.own x c' hx
theorem ae6{bJ:aS}(hS:ic P aT bJ){H H':al}{f:Nat}{args:List PV}{r:PV}(bC:lK bJ H f args=some (r,H')):OC P f:=by
 have bC:=OB bC;unfold lh at bC;split at bC
 ·split at bC
  ·split at bC
   ·simp only[Option.bind_eq_some_iff]at bC;obtain⟨⟨r',cells⟩,pB,_⟩:=bC;exact(hS _ _ _ _ _ pB).1
   ·cases bC
  ·cases bC
 ·split at bC
  ·simp only[Option.map_eq_some_iff,Prod.mk.injEq]at bC;obtain⟨⟨r',cells⟩,pB,_⟩:=bC;exact(hS _ _ _ _ _ pB).1
  ·cases bC
theorem OH{bJ:aS}(hS:ic P aT bJ)(hI:Inv P aT E w){f:Nat}{args:List PV}{vs:List Value}{r:PV}{H':al}(hR:b9 E args vs)(bC:lK bJ E.H f args=some (r,H')):
 Calls P f vs.toArray w fun e w'=>∃v E',e= .returned v/\Iw P aT E w r H' v E' w':=by
 have bC:=OB bC;unfold lh at bC;split at bC
 ·rename_i b g rest;split at bC
  ·rename_i c ys ids hc eC;split at bC
   ·rename_i sP;simp only[Option.bind_eq_some_iff]at bC;obtain⟨⟨r',cells⟩,pB,bC⟩:=bC;split at bC
    ·rename_i ew;simp only[Option.some.injEq,Prod.mk.injEq]at bC;obtain⟨rfl,rfl⟩:=bC;exact ae1 hS hI hc sP.1 sP.2.1 sP.2.2 eC hR pB ew
    ·cases bC
   ·cases bC
  ·cases bC
 ·split at bC
  ·rename_i ys ids eC;simp only[Option.map_eq_some_iff,Prod.mk.injEq]at bC;obtain⟨⟨r',cells⟩,pB,rfl,rfl⟩:=bC;exact ae0 hS hI eC hR pB
  ·cases bC
end
end Go.Pi
end
