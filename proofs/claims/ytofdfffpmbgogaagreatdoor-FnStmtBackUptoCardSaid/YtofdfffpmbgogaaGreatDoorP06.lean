import Derived.Test.YtofdfffpmbgogaaGreatDoorP05
/- Part of the proof. -/
set_option linter.all false
section
namespace Go.Pi
open Go.RowKit
abbrev er:=Option (List (List Nat×List Nat)×List (Nat×Nat))
def push(tr:er)(f:List Nat×List Nat):er:=
 match tr with
 |none=>none
 |some p=>some (p.1++[f],p.2)
def sZ(tr:er)(f:List (List Nat×List Nat)):er:=
 match tr with
 |none=>none
 |some p=>some (p.1++f,p.2)
def qB:er->Bool
 |none=>true
 |some p=>uQ p.1 p.2
theorem Pv{tr:er}{f:List Nat×List Nat}{fs:List (List Nat×List Nat)}:sZ (push tr f) fs=sZ tr (f::fs):=by
 cases tr<;>simp[push,sZ]
theorem Pw{bJ:aS}{G:Nat->PV}:∀(os:List XO)(i:Nat)(s:St),(nh bJ G i os s).map (·.1)=qt bJ G i os s:=by
 intro os
 induction os with
 |nil=>intro i s;rfl
 |cons o os ih=>
  intro i s;simp only[nh,qt];cases h:gS bJ G i o s with
  |none=>rfl
  |some s1=>
   simp only[Option.bind_some,<-ih (i+1) s1];cases nh bJ G (i+1) os s1<;>rfl
inductive Wk where
 |code(c:XC)
 |ops(i:Nat)(os:List XO)(len:Nat)(tr:er)
 |uZ(id:Nat)
 |u5(body:List XC)
section
variable(T:Nat->Option FX)(X:aS)(G:Nat->PV)
def Fn(f:Nat)(args:List PV)(ch:Option Chunk)(r:PV)(cells:List PV):Prop:=∃n,gl T X G n f args ch=some (r,cells)
def RC(c:XC)(s:St)(K:Ex->St->Prop):Prop:=∃n e s',fU (gl T X G n) G n c s=some (e,s')/\K e s'
def RL(c:List XC)(s:St)(K:Ex->St->Prop):Prop:=∃n e s',iw (gl T X G n) G n c s=some (e,s')/\K e s'
def RO(i:Nat)(os:List XO)(tr:er)(s:St)(K:St->Prop):Prop:=∃n s' ft,nh (gl T X G n) G i os s=some (s',ft)/\qB (sZ tr ft)=true/\K s'
def dQ(Q:Ex->St->Prop):List Wk->Ex->St->Prop
 |[],e,s=>Q e s
 | .code c::w,.normal,s=>RC T X G c s (dQ Q w)
 | .code _::w,e,s=>dQ Q w e s
 | .ops i os len tr::w,.normal,s=>RO T X G i os tr s fun s'=>dQ Q w .normal ⟨s'.t,s'.H,s'.n+len⟩
 | .ops _ _ _ _::w,e,s=>dQ Q w e s
 | .uZ id::w,.exit j,s=>if j=id then dQ Q w .normal s else dQ Q w (.exit j) s
 | .uZ _::w,e,s=>dQ Q w e s
 | .u5 b::w,.normal,s=>RC T X G (.loop b) s (dQ Q w)
 | .u5 _::w,e,s=>dQ Q w e s
def M(w:List Wk)(s:St)(Q:Ex->St->Prop):Prop:=dQ T X G Q w .normal s
end
section
variable{T:Nat->Option FX}{X:aS}{G:Nat->PV}{Q:Ex->St->Prop}{w:List Wk}{s:St}
theorem Ew(b:List XC)(e:Ex)(he:e≠ .normal):dQ T X G Q (b.map .code++w) e s↔dQ T X G Q w e s:=by
 induction b with
 |nil=>exact Iff.rfl
 |cons c cs ih=>cases e with
  |normal=>exact absurd rfl he
  |exit id=>simpa[dQ]using ih
  |ret=>simpa[dQ]using ih
theorem af6{n m:Nat}(h:n<=m){c:XC}{s:St}{r}(hr:fU (gl T X G n) G n c s=some r):fU (gl T X G m) G m c s=some r:=Pu (uY n m h) h c s r hr
theorem Bt{n m:Nat}(h:n<=m){c:List XC}{s:St}{r}(hr:iw (gl T X G n) G n c s=some r):iw (gl T X G m) G m c s=some r:=wS (uY n m h) h c s r hr
theorem wT(b:List XC):∀s,M T X G (b.map .code++w) s Q↔RL T X G b s (dQ T X G Q w):=by
 induction b with
 |nil=>
  intro s;constructor
  ·intro h;exact⟨0,.normal,s,rfl,h⟩
  ·rintro⟨n,e,s',h,hk⟩;simp only[iw,Option.some.injEq,Prod.mk.injEq]at h;obtain⟨rfl,rfl⟩:=h;exact hk
 |cons c cs ih=>
  intro s;constructor
  ·rintro⟨n,e,s1,h1,hk⟩;cases e with
   |normal=>
    obtain⟨m,e2,s2,h2,jL⟩:=(ih s1).1 hk;refine⟨max n m,e2,s2,?_,jL⟩;simp only[iw,Option.bind_eq_some_iff];exact⟨_,af6 (Nat.le_max_left _ _) h1,Bt (Nat.le_max_right _ _) h2⟩
   |exit id=>
    refine⟨n,.exit id,s1,?_,(Ew cs _ (by simp)).1 hk⟩;simp only[iw,Option.bind_eq_some_iff];exact⟨_,h1,rfl⟩
   |ret=>
    refine⟨n,.ret,s1,?_,(Ew cs _ (by simp)).1 hk⟩;simp only[iw,Option.bind_eq_some_iff];exact⟨_,h1,rfl⟩
  ·rintro⟨n,e,s1,h1,hk⟩;simp only[iw,Option.bind_eq_some_iff]at h1;obtain⟨⟨e0,s0⟩,h0,h2⟩:=h1;refine⟨n,e0,s0,h0,?_⟩;cases e0 with
   |normal=>exact(ih s0).2 ⟨n,e,s1,h2,hk⟩
   |exit id=>
    simp only[Option.some.injEq,Prod.mk.injEq]at h2;obtain⟨rfl,rfl⟩:=h2;exact(Ew cs _ (by simp)).2 hk
   |ret=>
    simp only[Option.some.injEq,Prod.mk.injEq]at h2;obtain⟨rfl,rfl⟩:=h2;exact(Ew cs _ (by simp)).2 hk
theorem af7:M T X G [] s Q↔Q .normal s:=Iff.rfl
def MB(T:Nat->Option FX)(X:aS)(G:Nat->PV)(v:PV)(a b:List XC)(w:List Wk)(s:St)(Q:Ex->St->Prop):Prop:=
 match v with
 | .bool v=>if v=true then M T X G (a.map .code++w) s Q else M T X G (b.map .code++w) s Q
 |_=>False
theorem af8{v:Bool}{a b:List XC}:MB T X G (.bool v) a b w s Q↔if v=true then M T X G (a.map .code++w) s Q else M T X G (b.map .code++w) s Q:=Iff.rfl
theorem af9{c:bK}{a b:List XC}{t:Nat->PV}{H:al}{n:Nat}:M T X G (.code (.cond c a b)::w) ⟨t,H,n⟩ Q↔MB T X G (ev G t c) a b w ⟨t,H,n⟩ Q:=by
 constructor
 ·rintro⟨m,e,s1,h,hk⟩;simp only[fU]at h;split at h
  ·rename_i v hv;rw[hv,af8];cases v with
   |true=>simp only[if_true]at h⊢;exact(wT a _).2 ⟨m,e,s1,h,hk⟩
   |false=>simp only[Bool.false_eq_true,if_false]at h⊢;exact(wT b _).2 ⟨m,e,s1,h,hk⟩
  ·cases h
 ·intro h;unfold MB at h;split at h
  ·rename_i v hv;cases v with
   |true=>
    simp only[if_true]at h;obtain⟨m,e,s1,h1,hk⟩:=(wT a _).1 h;exact⟨m,e,s1,by simp only[fU,hv,if_true];exact h1,hk⟩
   |false=>
    simp only[Bool.false_eq_true,if_false]at h;obtain⟨m,e,s1,h1,hk⟩:=(wT b _).1 h;exact⟨m,e,s1,by simp only[fU,hv,Bool.false_eq_true,if_false];exact h1,hk⟩
  ·exact h.elim
theorem cV{id:Nat}{b:List XC}:M T X G (.code (.block id b)::w) s Q↔M T X G (b.map .code++ .uZ id::w) s Q:=by
 rw[wT];constructor
 ·rintro⟨m,e,s1,h,hk⟩;simp only[fU,Option.map_eq_some_iff]at h;obtain⟨⟨e0,s0⟩,h0,h2⟩:=h;refine⟨m,e0,s0,h0,?_⟩;cases e0 with
  |normal=>simp only[Prod.mk.injEq]at h2;obtain⟨rfl,rfl⟩:=h2;exact hk
  |exit j=>
   simp only at h2;simp only[dQ];split at h2
   ·rename_i hj;simp only[Prod.mk.injEq]at h2;obtain⟨rfl,rfl⟩:=h2;rw[if_pos hj];exact hk
   ·rename_i hj;simp only[Prod.mk.injEq]at h2;obtain⟨rfl,rfl⟩:=h2;rw[if_neg hj];exact hk
  |ret=>simp only[Prod.mk.injEq]at h2;obtain⟨rfl,rfl⟩:=h2;exact hk
 ·rintro⟨m,e0,s0,h0,hk⟩;cases e0 with
  |normal=>exact⟨m,.normal,s0,by simp only[fU,h0,Option.map_some],hk⟩
  |exit j=>
   simp only[dQ]at hk;by_cases hj:j=id
   ·rw[if_pos hj]at hk;exact⟨m,.normal,s0,by simp only[fU,h0,Option.map_some,if_pos hj],hk⟩
   ·rw[if_neg hj]at hk;exact⟨m,.exit j,s0,by simp only[fU,h0,Option.map_some,if_neg hj],hk⟩
  |ret=>exact⟨m,.ret,s0,by simp only[fU,h0,Option.map_some],hk⟩
theorem aga{id:Nat}:M T X G (.code (.exit id)::w) s Q↔dQ T X G Q w (.exit id) s:=by
 constructor
 ·rintro⟨m,e,s1,h,hk⟩;simp only[fU,Option.some.injEq,Prod.mk.injEq]at h;obtain⟨rfl,rfl⟩:=h;exact hk
 ·intro h;exact⟨0,_,_,rfl,h⟩
theorem agb:M T X G (.code .ret::w) s Q↔dQ T X G Q w .ret s:=by
 constructor
 ·rintro⟨m,e,s1,h,hk⟩;simp only[fU,Option.some.injEq,Prod.mk.injEq]at h;obtain⟨rfl,rfl⟩:=h;exact hk
 ·intro h;exact⟨0,_,_,rfl,h⟩
theorem agc{e:Ex}:dQ T X G Q [] e s↔Q e s:=Iff.rfl
theorem agd{c:XC}{j:Nat}:dQ T X G Q (.code c::w) (.exit j) s↔dQ T X G Q w (.exit j) s:=Iff.rfl
theorem age{i j:Nat}:dQ T X G Q (.uZ i::w) (.exit j) s↔if j=i then M T X G w s Q else dQ T X G Q w (.exit j) s:=Iff.rfl
theorem agf{b:List XC}{j:Nat}:dQ T X G Q (.u5 b::w) (.exit j) s↔dQ T X G Q w (.exit j) s:=Iff.rfl
theorem agh{i:Nat}:M T X G (.uZ i::w) s Q↔M T X G w s Q:=Iff.rfl
theorem agi{b:List XC}:M T X G (.u5 b::w) s Q↔M T X G (.code (.loop b)::w) s Q:=Iff.rfl
theorem Ey{b:List XC}(h:M T X G (b.map .code++ .u5 b::w) s Q):M T X G (.code (.loop b)::w) s Q:=by
 obtain⟨n,e,s1,h1,hk⟩:=(wT b s).1 h;cases e with
 |normal=>
  obtain⟨m,e2,s2,h2,jL⟩:=hk;refine⟨max n m+1,e2,s2,?_,jL⟩;simp only[fU]at h2⊢;simp only[rounds,Option.bind_eq_some_iff];refine⟨_,Bt (by omega) h1,?_⟩;exact Pt (fun s r hr=>Bt (by omega) hr) _ _ _ _ (by omega) h2
 |exit id=>
  refine⟨n+1,.exit id,s1,?_,hk⟩;simp only[fU,rounds,Option.bind_eq_some_iff];exact⟨_,Bt (by omega) h1,rfl⟩
 |ret=>
  refine⟨n+1,.ret,s1,?_,hk⟩;simp only[fU,rounds,Option.bind_eq_some_iff];exact⟨_,Bt (by omega) h1,rfl⟩
theorem b5{b:List XC}(I:Nat->St->Prop)(round:∀n s1,I n s1->(∀m,m<n->∀s2,I m s2->M T X G (.u5 b::w) s2 Q)->M T X G (b.map .code++ .u5 b::w) s1 Q){n:Nat}(h:I n s):M T X G (.code (.loop b)::w) s Q:=by
 have key:∀n s,I n s->M T X G (.code (.loop b)::w) s Q:=by
  intro n
  induction n using Nat.strongRecOn with
  |_ n ih=>intro s h;exact Ey (round n s h fun m hm s2 h2=>ih m hm s2 h2)
 exact key n s h
theorem Px{tr:er}:sZ tr []=tr:=by cases tr<;>simp[sZ]
theorem cG{ops:List XO}:M T X G (.code (.ng ops)::w) s Q↔M T X G (.ops 0 ops ops.length none::w) s Q:=by
 constructor
 ·rintro⟨m,e,s1,h,hk⟩;simp only[fU,Option.map_eq_some_iff,Prod.mk.injEq,<-Pw]at h;obtain⟨s',⟨r,h1,rfl⟩,rfl,rfl⟩:=h;exact⟨m,r.1,r.2,h1,rfl,hk⟩
 ·rintro⟨m,s',ft,h1,_,hk⟩;exact⟨m,.normal,_,by simp only[fU,<-Pw,h1,Option.map_some],hk⟩
theorem gr{ops:List XO}{ps:List (Nat×Nat)}:M T X G (.code (.uP ops ps)::w) s Q↔M T X G (.ops 0 ops ops.length (some ([],ps))::w) s Q:=by
 constructor
 ·rintro⟨m,e,s1,h,hk⟩;simp only[fU,Option.map_eq_some_iff,Prod.mk.injEq,uR]at h;obtain⟨s',h1,rfl,rfl⟩:=h;split at h1
  ·rename_i s2 ft h2;split at h1
   ·rename_i h3;simp only[Option.some.injEq]at h1;subst h1;exact⟨m,s2,ft,h2,by simpa[qB,sZ]using h3,hk⟩
   ·cases h1
  ·cases h1
 ·rintro⟨m,s',ft,h1,h2,hk⟩;have h2:uQ ft ps=true:=by simpa[qB,sZ]using h2
  exact⟨m,.normal,_,by simp only[fU,uR,h1,h2,if_true,Option.map_some],hk⟩
theorem gX{ops:List XO}:M T X G (.code (.uP ops [])::w) s Q↔M T X G (.ops 0 ops ops.length none::w) s Q:=by
 rw[gr];constructor
 ·rintro⟨m,s',ft,h1,h2,hk⟩;exact⟨m,s',ft,h1,rfl,hk⟩
 ·rintro⟨m,s',ft,h1,h2,hk⟩;exact⟨m,s',ft,h1,by simp[qB,sZ,uQ],hk⟩
theorem Py{i len:Nat}{tr:er}{t:Nat->PV}{H:al}{n:Nat}:M T X G (.ops i [] len tr::w) ⟨t,H,n⟩ Q↔qB tr=true/\M T X G w ⟨t,H,n+len⟩ Q:=by
 constructor
 ·rintro⟨m,s',ft,h,hc,hk⟩;simp only[nh,Option.some.injEq,Prod.mk.injEq]at h;obtain⟨rfl,rfl⟩:=h;rw[Px]at hc;exact⟨hc,hk⟩
 ·rintro⟨hc,h⟩;exact⟨0,_,[],rfl,by rw[Px];exact hc,h⟩
def MR(T:Nat->Option FX)(X:aS)(G:Nat->PV)(r:Option (PV×al))(d:Option Nat)(i:Nat)(os:List XO)(len:Nat)(tr:er)(w:List Wk)(t:Nat->PV)(n:Nat)(Q:Ex->St->Prop):Prop:=
 match r with
 |some r=>M T X G (.ops i os len tr::w) ⟨put t d r.1,r.2,n⟩ Q
 |none=>False
def MC(T:Nat->Option FX)(X:aS)(G:Nat->PV)(f:Nat)(args:List PV)(d:Option Nat)(i:Nat)(os:List XO)(len:Nat)(tr:er)(w:List Wk)(t:Nat->PV)(H:al)(n:Nat)(Q:Ex->St->Prop):Prop:=
 ∃m r,lK (gl T X G m) H f args=some r/\M T X G (.ops i os len tr::w) ⟨put t d r.1,r.2,n⟩ Q
theorem kp{v:PV}{H:al}{d:Option Nat}{i:Nat}{os:List XO}{len n:Nat}{tr:er}{t:Nat->PV}:MR T X G (some (v,H)) d i os len tr w t n Q↔M T X G (.ops i os len tr::w) ⟨put t d v,H,n⟩ Q:=Iff.rfl
theorem Ez{i len:Nat}{tr:er}{o:XO}{os:List XO}:M T X G (.ops i (o::os) len tr::w) s Q↔∃m s1,gS (gl T X G m) G i o s=some s1/\M T X G (.ops (i+1) os len (push tr (ed G o s))::w) s1 Q:=by
 constructor
 ·rintro⟨m,s',ft,h,hc,hk⟩;simp only[nh]at h;split at h
  ·rename_i s1 h1;simp only[Option.map_eq_some_iff,Prod.mk.injEq]at h;obtain⟨⟨s2,ft2⟩,h2,rfl,rfl⟩:=h;exact⟨m,s1,h1,m,s2,ft2,h2,by rw[Pv];exact hc,hk⟩
  ·cases h
 ·rintro⟨m,s1,h1,m2,s',ft,h2,hc,hk⟩;refine⟨max m m2,s',ed G o s::ft,?_,by rw[<-Pv];exact hc,hk⟩;simp only[nh,IX (uY _ _ (Nat.le_max_left m m2)) h1,Ps (uY _ _ (Nat.le_max_right m m2)) _ _ _ _ h2,Option.map_some]
def kGo:K->Bool
 | .call _ _| .m7 _ _=>true
 |_=>false
theorem fZ{i len id:Nat}{tr:er}{d:Option Nat}{k:K}{os:List XO}{t:Nat->PV}{H:al}{n:Nat}(hk:kGo k=false):M T X G (.ops i (⟨d,none,id,k⟩::os) len tr::w) ⟨t,H,n⟩ Q↔MR T X G (runK (ev G t) H id (n+i) k) d (i+1) os len (push tr (bU (ev G t) H id k)) w t n Q:=by
 have uW:∀cf,gW cf (ev G t) H id (n+i) k=runK (ev G t) H id (n+i) k:=by intro cf;cases k<;>first|rfl|cases hk
 rw[Ez];constructor
 ·rintro⟨m,s1,h,h2⟩;simp only[gS,uW,Option.map_eq_some_iff]at h;obtain⟨⟨v,H'⟩,h,rfl⟩:=h;rw[h];exact h2
 ·intro h;cases hr:runK (ev G t) H id (n+i) k with
  |none=>rw[hr]at h;exact h.elim
  |some r=>
   rw[hr]at h;exact⟨0,_,by simp only[gS,uW,hr,Option.map_some],h⟩
theorem agl{i len id f:Nat}{tr:er}{d:Option Nat}{as:List bK}{os:List XO}{t:Nat->PV}{H:al}{n:Nat}:M T X G (.ops i (⟨d,none,id,.call f as⟩::os) len tr::w) ⟨t,H,n⟩ Q↔
 MC T X G f (as.map (ev G t)) d (i+1) os len (push tr (bU (ev G t) H id (.call f as))) w t H n Q:=by
 rw[Ez];constructor
 ·rintro⟨m,s1,h,h2⟩;simp only[gS,gW,Option.map_eq_some_iff]at h;obtain⟨r,h,rfl⟩:=h;exact⟨m,r,h,h2⟩
 ·rintro⟨m,r,h,h2⟩;exact⟨m,_,by simp only[gS,gW,h,Option.map_some],h2⟩
def MG(T:Nat->Option FX)(X:aS)(G:Nat->PV)(v:PV)(eZ:Bool)(o:XO)(i:Nat)(os:List XO)(len:Nat)(tr:er)(w:List Wk)(s:St)(Q:Ex->St->Prop):Prop:=
 match v with
 | .bool b=>if b=eZ then M T X G (.ops i (o::os) len tr::w) s Q else M T X G (.ops (i+1) os len (push tr ([],[]))::w) ⟨put s.t o.dst (.bZ []),s.H,s.n⟩ Q
 | .bZ _=>M T X G (.ops (i+1) os len (push tr ([],[]))::w) ⟨put s.t o.dst (.bZ []),s.H,s.n⟩ Q
 |_=>False
theorem agm{i len id g:Nat}{tr:er}{eZ:Bool}{d:Option Nat}{k:K}{os:List XO}{t:Nat->PV}{H:al}{n:Nat}:M T X G (.ops i (⟨d,some (g,eZ),id,k⟩::os) len tr::w) ⟨t,H,n⟩ Q↔MG T X G (t g) eZ ⟨d,none,id,k⟩ i os len tr w ⟨t,H,n⟩ Q:=by
 unfold MG;rw[Ez];split
 ·rename_i b hb;split
  ·rename_i lM;rw[Ez];have e:ed G ⟨d,some (g,eZ),id,k⟩ ⟨t,H,n⟩=ed G ⟨d,none,id,k⟩ ⟨t,H,n⟩:=by simp only[ed,hb,if_pos lM]
   rw[e];constructor
   ·rintro⟨m,s1,h,h2⟩;exact⟨m,s1,by simpa only[gS,hb,if_pos lM]using h,h2⟩
   ·rintro⟨m,s1,h,h2⟩;exact⟨m,s1,by simpa only[gS,hb,if_pos lM]using h,h2⟩
  ·rename_i lM;have e:ed G ⟨d,some (g,eZ),id,k⟩ ⟨t,H,n⟩=([],[]):=by simp only[ed,hb,if_neg lM]
   rw[e];constructor
   ·rintro⟨m,s1,h,h2⟩;simp only[gS,hb,if_neg lM,Option.some.injEq]at h;subst h;exact h2
   ·intro h;exact⟨0,_,by simp only[gS,hb,if_neg lM],h⟩
 ·rename_i l hb;have e:ed G ⟨d,some (g,eZ),id,k⟩ ⟨t,H,n⟩=([],[]):=by simp only[ed,hb]
  rw[e];constructor
  ·rintro⟨m,s1,h,h2⟩;simp only[gS,hb,Option.some.injEq]at h;subst h;exact h2
  ·intro h;exact⟨0,_,by simp only[gS,hb],h⟩
 ·rename_i h1 h2;constructor
  ·rintro⟨m,s1,h,_⟩;unfold gS at h;simp only at h;cases hg:t g with
   |bool b=>exact(h1 b hg).elim
   |bZ l=>exact(h2 l hg).elim
   |_=>simp[hg]at h
  ·intro h;exact h.elim
theorem pH{f i len n:Nat}(eT:lj f=false){tr:er}{d:Option Nat}{os:List XO}{t:Nat->PV}{H:al}{args ys:List PV}{ids:List Nat}(dW:∀b g rest,args≠ .ptr b g 0::rest)(hs:eh (settle depth H) args=some (ys,ids))
 (h:∃r cells,Fn T X G f ys none r cells/\M T X G (.ops i os len tr::w) ⟨put t d r,H.drop ids,n⟩ Q):MC T X G f args d i os len tr w t H n Q:=by
 obtain⟨r,cells,⟨m,hm⟩,h⟩:=h;refine⟨m,(r,H.drop ids),?_,h⟩;unfold lK;rw[if_neg (by simp[eT])];unfold lh;split
 ·rename_i b g rest;exact absurd rfl (dW b g rest)
 ·simp only[hs,hm,Option.map_some]
theorem qC{f i len n b g:Nat}(eT:lj f=false){tr:er}{d:Option Nat}{os:List XO}{t:Nat->PV}{H:al}{rest ys:List PV}{ids:List Nat}{c:Chunk}(hb:H b=some c)(hg:c.gen=g)(hd:aP c.cells=true)(hs:eh (settle depth H) rest=some (ys,ids))(hi:ids.contains b=false)
 (h:∃r cells,Fn T X G f (.ptr 0 0 0::ys) (some ⟨c.e,0,c.cells,c.s⟩) r cells/\cells.length=c.cells.length/\M T X G (.ops i os len tr::w) ⟨put t d r,(H.drop ids).put b (some ⟨c.e,c.gen,cells,c.s⟩),n⟩ Q):
 MC T X G f (.ptr b g 0::rest) d i os len tr w t H n Q:=by
 obtain⟨r,cells,⟨m,hm⟩,hl,h⟩:=h;refine⟨m,(r,(H.drop ids).put b (some ⟨c.e,c.gen,cells,c.s⟩)),?_,h⟩;unfold lK;rw[if_neg (by simp[eT])];simp only[lh,hb,hs,if_pos (⟨hg,hd,hi⟩:c.gen=g/\aP c.cells=true/\ids.contains b=false),hm,Option.bind_some,if_pos hl]
theorem agn{f i len n b g:Nat}(eT:lj f=true){tr:er}{d:Option Nat}{os:List XO}{t:Nat->PV}{H:al}{rest ys:List PV}{c:Chunk}(hb:H b=some c)(hg:c.gen=g)(hd:aP c.cells=true)(hs:eh (settle depth H) rest=some (ys,[]))(he:wB c.cells c.cells=true)
 (h:∃r,Fn T X G f (.ptr 0 0 0::ys) (some ⟨c.e,0,c.cells,c.s⟩) r c.cells/\M T X G (.ops i os len tr::w) ⟨put t d r,H,n⟩ Q):
 MC T X G f (.ptr b g 0::rest) d i os len tr w t H n Q:=by
 obtain⟨r,⟨m,hm⟩,h⟩:=h;refine⟨m,(r,H),?_,h⟩;unfold lK;rw[if_pos eT];have h0:lh (gl T X G m) H f (.ptr b g 0::rest)=some (r,(H.drop []).put b (some ⟨c.e,c.gen,c.cells,c.s⟩)):=by
  simp only[lh,hb,hs,if_pos (⟨hg,hd,rfl⟩:c.gen=g/\aP c.cells=true/\[].contains b=false),hm,Option.bind_some,if_true]
 simp only[zh,h0,hb,hs,al.fT,if_pos he]
def EA(R:PV->List PV->Prop)(x:Option (List PV×List Nat)):Prop:=
 match x with
 |some (r::cells,ids)=>ids.contains 0=false/\R r cells
 |_=>False
def wU(jJ:List RV)(ch:Option Chunk)(R:PV->List PV->Prop)(s:St):Prop:=
 match rJ s.t s.H jJ,Br ch s.H with
 |some vs,some cs=>EA R (eh (settle depth s.H) (wQ vs::cs))
 |_,_=>False
theorem Pz{R:PV->List PV->Prop}{r:PV}{cells:List PV}{ids:List Nat}:EA R (some (r::cells,ids))↔ids.contains 0=false/\R r cells:=Iff.rfl
theorem ly{f:PV->Option (PV×List Nat)}{xs:List PV}(h:aP xs=true):eh f xs=some (xs,[]):=by
 cases xs with
 |nil=>rfl
 |cons x xs=>simp only[eh,h,if_true]
def Fin(jJ:List RV)(ch:Option Chunk)(R:PV->List PV->Prop)(e:Ex)(s:St):Prop:=
 match e with
 | .exit _=>False
 | .normal=>wU jJ ch R s
 | .ret=>wU jJ ch R s
theorem ago{jJ:List RV}{ch:Option Chunk}{R:PV->List PV->Prop}:Fin jJ ch R .ret s↔wU jJ ch R s:=Iff.rfl
theorem agp{jJ:List RV}{ch:Option Chunk}{R:PV->List PV->Prop}:Fin jJ ch R .normal s↔wU jJ ch R s:=Iff.rfl
theorem ay{f:Nat}{np N:Nat}{jJ:List RV}{body:List XC}(hT:T f=some ⟨np,N,jJ,body⟩){args:List PV}{ch:Option Chunk}(hl:args.length<=N){R:PV->List PV->Prop}
 (h:M T X G (body.map .code++[]) ⟨fun i=>args.getD i .undef,H0 ch,1⟩ (Fin jJ ch R))(ha:qA f args=none:=by rfl):∃r cells,Fn T X G f args ch r cells/\R r cells:=by
 obtain⟨m,e,s,bC,hf⟩:=(wT body _).1 h;have hf:Fin jJ ch R e s:=hf;have key:∀e,(∀j,e≠ .exit j)->iw (gl T X G m) G m body ⟨fun i=>args.getD i .undef,H0 ch,1⟩=some (e,s)->wU jJ ch R s->∃r cells,Fn T X G f args ch r cells/\R r cells:=by
  intro e he bC hf;unfold wU at hf;split at hf
  ·rename_i vs cs h1 h2;unfold EA at hf;split at hf
   ·rename_i r cells ids h3;refine⟨r,cells,⟨m+1,?_⟩,hf.2⟩;simp only[gl,hT,ha,sX,if_pos hl,bC];cases e with
    |exit j=>exact absurd rfl (he j)
    |normal=>simp only[h1,h2,h3,hf.1];rfl
    |ret=>simp only[h1,h2,h3,hf.1];rfl
   ·exact hf.elim
  ·exact hf.elim
 cases e with
 |exit j=>exact hf.elim
 |normal=>exact key .normal (fun j h=>by cases h) bC hf
 |ret=>exact key .ret (fun j h=>by cases h) bC hf
theorem PA{f:Nat}{args a b:List PV}{ch:Option Chunk}{r:PV}{cells:List PV}(ht:qA f args=some (a,b))(na:qA f a=none)(nb:qA f b=none)
 (ha:Fn T X G f a ch r cells)(hb:Fn T X G f b ch r cells)(hT:∃fx,T f=some fx):Fn T X G f args ch r cells:=by
 obtain⟨fx,hT⟩:=hT;obtain⟨n,ha⟩:=ha;obtain⟨m,hb⟩:=hb;have h1:=uY _ _ (Nat.le_trans (Nat.le_max_left n m) (Nat.le_succ _)) _ _ _ _ ha;have h2:=uY _ _ (Nat.le_trans (Nat.le_max_right n m) (Nat.le_succ _)) _ _ _ _ hb;refine⟨max n m+1,?_⟩;simp only[Nat.succ_eq_add_one,gl,hT,na]at h1;simp only[Nat.succ_eq_add_one,gl,hT,nb]at h2;simp only[gl,hT,ht];exact Pm h1 h2
end
end Go.Pi
end
section
namespace Go.Pi
open Go.RowKit
section
variable{T:Nat->Option FX}{X:aS}{G:Nat->PV}{Q:Ex->St->Prop}{w:List Wk}
variable{i len id n:Nat}{tr:er}{d:Option Nat}{os:List XO}{t:Nat->PV}{H:al}
theorem agq(x:bK):M T X G (.ops i (⟨d,none,id,.mv x⟩::os) len tr::w) ⟨t,H,n⟩ Q↔MR T X G (runK (ev G t) H id (n+i) (.mv x)) d (i+1) os len (push tr (bU (ev G t) H id (.mv x))) w t n Q:=fZ rfl
theorem agr(c a b:bK):M T X G (.ops i (⟨d,none,id,.pick c a b⟩::os) len tr::w) ⟨t,H,n⟩ Q↔MR T X G (runK (ev G t) H id (n+i) (.pick c a b)) d (i+1) os len (push tr (bU (ev G t) H id (.pick c a b))) w t n Q:=fZ rfl
theorem ags(e:Nat)(z:List PV):M T X G (.ops i (⟨d,none,id,.new e z⟩::os) len tr::w) ⟨t,H,n⟩ Q↔MR T X G (runK (ev G t) H id (n+i) (.new e z)) d (i+1) os len (push tr (bU (ev G t) H id (.new e z))) w t n Q:=fZ rfl
theorem agt(e m:Nat)(x:bK):M T X G (.ops i (⟨d,none,id,.box e m x⟩::os) len tr::w) ⟨t,H,n⟩ Q↔MR T X G (runK (ev G t) H id (n+i) (.box e m x)) d (i+1) os len (push tr (bU (ev G t) H id (.box e m x))) w t n Q:=fZ rfl
theorem agu(z:List PV)(ps:List (Nat×Nat×bK)):M T X G (.ops i (⟨d,none,id,.build z ps⟩::os) len tr::w) ⟨t,H,n⟩ Q↔MR T X G (runK (ev G t) H id (n+i) (.build z ps)) d (i+1) os len (push tr (bU (ev G t) H id (.build z ps))) w t n Q:=fZ rfl
theorem agv(e s l:Nat)(z:List PV)(ps:List (Nat×Nat×bK)):M T X G (.ops i (⟨d,none,id,.bh e s l z ps⟩::os) len tr::w) ⟨t,H,n⟩ Q↔MR T X G (runK (ev G t) H id (n+i) (.bh e s l z ps)) d (i+1) os len (push tr (bU (ev G t) H id (.bh e s l z ps))) w t n Q:=fZ rfl
theorem I0(ag:Bool)(m:Nat)(x:bK):M T X G (.ops i (⟨d,none,id,.ld ag m x⟩::os) len tr::w) ⟨t,H,n⟩ Q↔MR T X G (runK (ev G t) H id (n+i) (.ld ag m x)) d (i+1) os len (push tr (bU (ev G t) H id (.ld ag m x))) w t n Q:=fZ rfl
theorem PB(m:Nat)(x v:bK):M T X G (.ops i (⟨d,none,id,.st m x v⟩::os) len tr::w) ⟨t,H,n⟩ Q↔MR T X G (runK (ev G t) H id (n+i) (.st m x v)) d (i+1) os len (push tr (bU (ev G t) H id (.st m x v))) w t n Q:=fZ rfl
theorem agw(x:bK):M T X G (.ops i (⟨d,none,id,.v8 x⟩::os) len tr::w) ⟨t,H,n⟩ Q↔MR T X G (runK (ev G t) H id (n+i) (.v8 x)) d (i+1) os len (push tr (bU (ev G t) H id (.v8 x))) w t n Q:=fZ rfl
theorem agx(op:BinOp)(x y:bK):M T X G (.ops i (⟨d,none,id,.bin op x y⟩::os) len tr::w) ⟨t,H,n⟩ Q↔MR T X G (runK (ev G t) H id (n+i) (.bin op x y)) d (i+1) os len (push tr (bU (ev G t) H id (.bin op x y))) w t n Q:=fZ rfl
theorem agy(op:BinOp)(x y:bK):M T X G (.ops i (⟨d,none,id,.mZ op x y⟩::os) len tr::w) ⟨t,H,n⟩ Q↔MR T X G (runK (ev G t) H id (n+i) (.mZ op x y)) d (i+1) os len (push tr (bU (ev G t) H id (.mZ op x y))) w t n Q:=fZ rfl
theorem agz(op:BinOp)(x y:bK):M T X G (.ops i (⟨d,none,id,.v9 op x y⟩::os) len tr::w) ⟨t,H,n⟩ Q↔MR T X G (runK (ev G t) H id (n+i) (.v9 op x y)) d (i+1) os len (push tr (bU (ev G t) H id (.v9 op x y))) w t n Q:=fZ rfl
theorem agA(op:BinOp)(x y:bK):M T X G (.ops i (⟨d,none,id,.mI op x y⟩::os) len tr::w) ⟨t,H,n⟩ Q↔MR T X G (runK (ev G t) H id (n+i) (.mI op x y)) d (i+1) os len (push tr (bU (ev G t) H id (.mI op x y))) w t n Q:=fZ rfl
theorem agB(op:UnOp)(x:bK):M T X G (.ops i (⟨d,none,id,.un op x⟩::os) len tr::w) ⟨t,H,n⟩ Q↔MR T X G (runK (ev G t) H id (n+i) (.un op x)) d (i+1) os len (push tr (bU (ev G t) H id (.un op x))) w t n Q:=fZ rfl
theorem agC(k:IntKind)(x:bK):M T X G (.ops i (⟨d,none,id,.conv k x⟩::os) len tr::w) ⟨t,H,n⟩ Q↔MR T X G (runK (ev G t) H id (n+i) (.conv k x)) d (i+1) os len (push tr (bU (ev G t) H id (.conv k x))) w t n Q:=fZ rfl
theorem agD(x:bK):M T X G (.ops i (⟨d,none,id,.py x⟩::os) len tr::w) ⟨t,H,n⟩ Q↔MR T X G (runK (ev G t) H id (n+i) (.py x)) d (i+1) os len (push tr (bU (ev G t) H id (.py x))) w t n Q:=fZ rfl
theorem agE(x:bK):M T X G (.ops i (⟨d,none,id,.yX x⟩::os) len tr::w) ⟨t,H,n⟩ Q↔MR T X G (runK (ev G t) H id (n+i) (.yX x)) d (i+1) os len (push tr (bU (ev G t) H id (.yX x))) w t n Q:=fZ rfl
theorem agF(ty:Nat)(x:bK):M T X G (.ops i (⟨d,none,id,.cL ty x⟩::os) len tr::w) ⟨t,H,n⟩ Q↔MR T X G (runK (ev G t) H id (n+i) (.cL ty x)) d (i+1) os len (push tr (bU (ev G t) H id (.cL ty x))) w t n Q:=fZ rfl
theorem agG(e s b:Nat)(z:List PV)(l c:bK):M T X G (.ops i (⟨d,none,id,.m5 e s b z l c⟩::os) len tr::w) ⟨t,H,n⟩ Q↔MR T X G (runK (ev G t) H id (n+i) (.m5 e s b z l c)) d (i+1) os len (push tr (bU (ev G t) H id (.m5 e s b z l c))) w t n Q:=fZ rfl
theorem agH(x:bK)(lo hi:Option bK):M T X G (.ops i (⟨d,none,id,.jF x lo hi⟩::os) len tr::w) ⟨t,H,n⟩ Q↔MR T X G (runK (ev G t) H id (n+i) (.jF x lo hi)) d (i+1) os len (push tr (bU (ev G t) H id (.jF x lo hi))) w t n Q:=fZ rfl
theorem PC(s:Nat)(x:bK)(lo hi:Option bK):M T X G (.ops i (⟨d,none,id,.kj s x lo hi⟩::os) len tr::w) ⟨t,H,n⟩ Q↔MR T X G (runK (ev G t) H id (n+i) (.kj s x lo hi)) d (i+1) os len (push tr (bU (ev G t) H id (.kj s x lo hi))) w t n Q:=fZ rfl
theorem PD(off:Nat)(x:bK):M T X G (.ops i (⟨d,none,id,.fa off x⟩::os) len tr::w) ⟨t,H,n⟩ Q↔MR T X G (runK (ev G t) H id (n+i) (.fa off x)) d (i+1) os len (push tr (bU (ev G t) H id (.fa off x))) w t n Q:=fZ rfl
theorem agI(s:Nat)(x j:bK):M T X G (.ops i (⟨d,none,id,.ix s x j⟩::os) len tr::w) ⟨t,H,n⟩ Q↔MR T X G (runK (ev G t) H id (n+i) (.ix s x j)) d (i+1) os len (push tr (bU (ev G t) H id (.ix s x j))) w t n Q:=fZ rfl
theorem agJ(x j:bK):M T X G (.ops i (⟨d,none,id,.sx x j⟩::os) len tr::w) ⟨t,H,n⟩ Q↔MR T X G (runK (ev G t) H id (n+i) (.sx x j)) d (i+1) os len (push tr (bU (ev G t) H id (.sx x j))) w t n Q:=fZ rfl
theorem agK(ty:Nat)(z:PV)(x:bK):M T X G (.ops i (⟨d,none,id,.ta ty z x⟩::os) len tr::w) ⟨t,H,n⟩ Q↔MR T X G (runK (ev G t) H id (n+i) (.ta ty z x)) d (i+1) os len (push tr (bU (ev G t) H id (.ta ty z x))) w t n Q:=fZ rfl
theorem agL(x:bK)(j:Nat):M T X G (.ops i (⟨d,none,id,.ext x j⟩::os) len tr::w) ⟨t,H,n⟩ Q↔MR T X G (runK (ev G t) H id (n+i) (.ext x j)) d (i+1) os len (push tr (bU (ev G t) H id (.ext x j))) w t n Q:=fZ rfl
theorem I1(x:bK):M T X G (.ops i (⟨d,none,id,.len x⟩::os) len tr::w) ⟨t,H,n⟩ Q↔MR T X G (runK (ev G t) H id (n+i) (.len x)) d (i+1) os len (push tr (bU (ev G t) H id (.len x))) w t n Q:=fZ rfl
theorem agM(x:bK):M T X G (.ops i (⟨d,none,id,.dP x⟩::os) len tr::w) ⟨t,H,n⟩ Q↔MR T X G (runK (ev G t) H id (n+i) (.dP x)) d (i+1) os len (push tr (bU (ev G t) H id (.dP x))) w t n Q:=fZ rfl
theorem EB(e s b:Nat)(y x:bK):M T X G (.ops i (⟨d,none,id,.app e s b y x⟩::os) len tr::w) ⟨t,H,n⟩ Q↔MR T X G (runK (ev G t) H id (n+i) (.app e s b y x)) d (i+1) os len (push tr (bU (ev G t) H id (.app e s b y x))) w t n Q:=fZ rfl
theorem agN(x y:bK):M T X G (.ops i (⟨d,none,id,.mx x y⟩::os) len tr::w) ⟨t,H,n⟩ Q↔MR T X G (runK (ev G t) H id (n+i) (.mx x y)) d (i+1) os len (push tr (bU (ev G t) H id (.mx x y))) w t n Q:=fZ rfl
theorem agO(x y:bK):M T X G (.ops i (⟨d,none,id,.mn x y⟩::os) len tr::w) ⟨t,H,n⟩ Q↔MR T X G (runK (ev G t) H id (n+i) (.mn x y)) d (i+1) os len (push tr (bU (ev G t) H id (.mn x y))) w t n Q:=fZ rfl
theorem agP(x:bK):M T X G (.ops i (⟨d,none,id,.rz x⟩::os) len tr::w) ⟨t,H,n⟩ Q↔MR T X G (runK (ev G t) H id (n+i) (.rz x)) d (i+1) os len (push tr (bU (ev G t) H id (.rz x))) w t n Q:=fZ rfl
theorem agQ(x:bK):M T X G (.ops i (⟨d,none,id,.wb x⟩::os) len tr::w) ⟨t,H,n⟩ Q↔MR T X G (runK (ev G t) H id (n+i) (.wb x)) d (i+1) os len (push tr (bU (ev G t) H id (.wb x))) w t n Q:=fZ rfl
theorem agR(k:FloatKind)(x:bK):M T X G (.ops i (⟨d,none,id,.we k x⟩::os) len tr::w) ⟨t,H,n⟩ Q↔MR T X G (runK (ev G t) H id (n+i) (.we k x)) d (i+1) os len (push tr (bU (ev G t) H id (.we k x))) w t n Q:=fZ rfl
theorem fT{t:Nat->PV}{d:Nat}{v:PV}:put t (some d) v d=v:=if_pos rfl
theorem qD{t:Nat->PV}{d x:Nat}{v:PV}(h:x≠d):put t (some d) v x=t x:=if_neg h
end
end Go.Pi
end
section
namespace Go.Pi
open Go.RowKit
set_option maxRecDepth 10000 in
theorem PE{H:al}{b g len:Nat}{c:Chunk}(hb:H b=some c)(hg:c.gen=g)(hl:len*c.s<=c.cells.length)(hd:aP (c.cells.take (len*c.s))=true):
 settle depth H (.row b g len)=some (.sl (group c.s len (c.cells.take (len*c.s))),[b]):=by
 show settle (29+1) H (.row b g len)=_;simp only[settle,aw,Bool.false_eq_true,if_false,hb,if_pos (⟨hg,hl⟩:c.gen=g/\len*c.s<=c.cells.length),ly hd,Option.map_some]
theorem PF{s:Nat}{xs:List (List PV)}{i:Nat}(hi:i<xs.length)(hs:xs[i].length=s):db s (.sl xs) (.int .i64 (i:Int))=some (.fp xs[i],none):=by
 have h1:m8 xs.length (.int .i64 (i:Int))=some i:=by
  simp only[m8];rw[if_pos ⟨by omega,by omega⟩];rfl
 simp only[db,h1,List.getElem?_eq_getElem hi,if_pos hs]
theorem I2(s:Nat):∀(ys:List (List PV)),(∀y,y∈ys->y.length=s)->group s ys.length ys.flatten=ys:=by
 intro ys h;have bW:∀(zs:List (List PV)),(∀y,y∈zs->y.length=s)->zs.flatten.length=zs.length*s:=by
  intro zs
  induction zs with
  |nil=>intro _;simp
  |cons z zs ih=>intro h;simp only[List.flatten_cons,List.length_append,List.length_cons,ih (fun y hy=>h y (by simp[hy])),h z (by simp)];rw[Nat.succ_mul];omega
 apply List.ext_getElem
 ·simp[group]
 ·intro i h1 h2;simp only[group,List.getElem_map,List.getElem_range];have key:∀(zs:List (List PV))(i:Nat)(hi:i<zs.length),(∀y,y∈zs->y.length=s)->(zs.flatten.drop (i*s)).take s=zs[i]:=by
   intro zs
   induction zs with
   |nil=>intro i hi;simp at hi
   |cons z zs ih=>
    intro i hi hz;have k7:=hz z (by simp);cases i with
    |zero=>simp[<-k7]
    |succ i=>
     have:(i+1)*s=z.length+i*s:=by rw[k7,Nat.succ_mul];omega
     rw[List.flatten_cons,this,<-List.drop_drop,List.drop_left];simpa using ih i (by simpa using hi) (fun y hy=>hz y (by simp[hy]))
  exact key ys i h2 h
theorem wV{s:Nat}{zs:List (List PV)}(h:∀y,y∈zs->y.length=s):zs.flatten.length=zs.length*s:=by
 induction zs with
 |nil=>simp
 |cons z zs ih=>simp only[List.flatten_cons,List.length_append,List.length_cons,ih (fun y hy=>h y (by simp[hy])),h z (by simp)];rw[Nat.succ_mul];omega
theorem I3{zs:List (List PV)}(h:∀y,y∈zs->aP y=true):aP zs.flatten=true:=by
 induction zs with
 |nil=>rfl
 |cons z zs ih=>rw[List.flatten_cons,aeT,h z (by simp),ih (fun y hy=>h y (by simp[hy]))];rfl
theorem agS{H:al}{b g e s:Nat}{c:List PV}(hb:H b=some ⟨e,g,c,s⟩)(hl:c.length=s)(hd:aP c=true):settle depth H (.row b g 1)=some (.sl [c],[b]):=by
 have e1:c.take (1*s)=c:=List.take_of_length_le (by omega);rw[PE hb rfl (by show 1*s<=c.length;omega) (by show aP (c.take (1*s))=true;rw[e1];exact hd)];show some (PV.sl (group s 1 (c.take (1*s))),[b])=_;rw[e1];have:group s 1 c=[c]:=by simp only[group,List.range_succ,List.range_zero,List.nil_append,List.map_cons,List.map_nil,Nat.zero_mul,List.drop_zero];rw[List.take_of_length_le (by omega)]
 rw[this]
theorem wrap_i64{n:Int}(h1:-9223372036854775808<=n)(h2:n<9223372036854775808):IntKind.wrap .i64 n=n:=by
 have e:IntKind.wrap .i64 n=if n % 18446744073709551616≥9223372036854775808 then n % 18446744073709551616 - 18446744073709551616 else n % 18446744073709551616:=by
  simp[IntKind.wrap,IntKind.signed,IntKind.bits]
 rw[e];split<;>omega
theorem PG{t:Nat->PV}{v:PV}:put t none v=t:=rfl
def aX(A:List Nat)(H:al)(e s:Nat)(v:PV)(ys:List (List PV)):Prop:=
 (∀y,y∈ys->y.length=s/\aP y=true)/\((ys=[]/\v= .ah)\/∃id st,id∈A/\v= .row id st ys.length/\H id=some ⟨e,st,ys.flatten,s⟩)
theorem aX.nil{A:List Nat}{H:al}{e s:Nat}:aX A H e s .ah []:=⟨fun y hy=>absurd hy (by simp),.inl ⟨rfl,rfl⟩⟩
theorem aX.frame{A:List Nat}{H H':al}{e s:Nat}{v:PV}{ys:List (List PV)}(h:aX A H e s v ys)(hA:∀b,b∈A->H' b=H b):aX A H' e s v ys:=
 ⟨h.1,h.2.imp id fun⟨b,st,h1,h2,h3⟩=>⟨b,st,h1,h2,(hA b h1).trans h3⟩⟩
theorem aX.settle{A:List Nat}{H:al}{e s:Nat}{v:PV}{ys:List (List PV)}(h:aX A H e s v ys):∃y ids,Go.Pi.settle depth H v=some (y,ids)/\(∀b,b∈ids->b∈A)/\((ys=[]/\y= .ah)\/y= .sl ys)/\aw y=true:=by
 rcases h.2 with⟨rfl,rfl⟩|⟨id,st,hA,rfl,hH⟩
 ·exact⟨.ah,[],rfl,fun b hb=>(by cases hb),.inl ⟨rfl,rfl⟩,rfl⟩
 ·have hl:=wV (fun y hy=>(h.1 y hy).1);have e1:ys.flatten.take (ys.length*s)=ys.flatten:=List.take_of_length_le (by omega);refine⟨.sl ys,[id],?_,fun b hb=>?_,.inr rfl,?_⟩
  ·rw[PE hH rfl (by show ys.length*s<=ys.flatten.length;omega) (by rw[e1];exact I3 fun y hy=>(h.1 y hy).2)];show some (PV.sl (group s ys.length (ys.flatten.take (ys.length*s))),[id])=_;rw[e1,I2 s ys fun y hy=>(h.1 y hy).1]
  ·simp only[List.mem_singleton]at hb;subst hb;exact hA
  ·simp only[aw];exact qo fun y hy=>(h.1 y hy).2
section
variable{T:Nat->Option FX}{X:aS}{G:Nat->PV}{Q:Ex->St->Prop}{w:List Wk}
theorem PH{A:List Nat}{i len id n e s b:Nat}{tr:er}{d:Option Nat}{os:List XO}{t:Nat->PV}{H:al}{y x:bK}{ys zs:List (List PV)}{ids:List Nat}
 (hs:Go.Pi.settle depth H (ev G t x)=some (.sl zs,ids))(hg:aX A H e s (ev G t y) ys)(kn:id∈A)(qE:∀b,b∈ids->b∉A)(hz:∀z,z∈zs->z.length=s/\aP z=true)(dW:zs≠[])(hB:(ys.length+zs.length)*b<=140737488355328)
 (h:∀v H' fb,aX A H' e s v (ys++zs)->(∀c,c∉A->c∉ids->H' c=H c)->(tr=none->fb=none)->M T X G (.ops (i+1) os len fb::w) ⟨put t d v,H',n⟩ Q):M T X G (.ops i (⟨d,none,id,.app e s b y x⟩::os) len tr::w) ⟨t,H,n⟩ Q:=by
 have ji:gE (H.drop ids) s (.sl zs)=some (zs.length,zs.flatten):=by
  simp only[gE];rw[if_pos];simp only[List.all_eq_true,beq_iff_eq];exact fun z wH=>(hz z wH).1
 have iv:zs.length≠0:=fun h0=>dW (List.length_eq_zero_iff.1 h0)
 have lg:∀y,y∈ys++zs->y.length=s/\aP y=true:=by
  intro y hy;rcases List.mem_append.1 hy with hy|hy
  ·exact hg.1 y hy
  ·exact hz y hy
 rw[EB];rcases hg.2 with⟨rfl,hv⟩|⟨c,st,hA,hv,hH⟩
 ·have ha:iU (H.drop ids) id (n+i) e s b (ev G t y) (.sl zs)=some (.row id (n+i) zs.length,some (id,⟨e,n+i,zs.flatten,s⟩)):=by
   simp only[iU,ji,if_neg iv,hv];rw[if_pos (by simpa using hB)]
  simp only[runK,hs,ha,Option.map_some,kp];refine h _ _ _ ⟨lg,.inr ⟨id,n+i,kn,by simp,by simp[al.fK,al.fT]⟩⟩ (fun c hc hi=>?_) (fun ht=>by subst ht;rfl);simp only[al.fK];rw[al.gh _ _ (fun e=>hc (by rw[e];exact kn))];simp only[al.drop,if_neg hi]
 ·have hl:=wV (fun y hy=>(hg.1 y hy).1);have hd:(H.drop ids) c=some ⟨e,st,ys.flatten,s⟩:=by simp only[al.drop,if_neg (fun hi=>qE c hi hA),hH]
  have e1:ys.flatten.take (ys.length*s)=ys.flatten:=List.take_of_length_le (by omega);have ha:iU (H.drop ids) id (n+i) e s b (ev G t y) (.sl zs)=some (.row c (n+i) (ys.length+zs.length),some (c,⟨e,n+i,ys.flatten++zs.flatten,s⟩)):=by
   simp only[iU,ji,if_neg iv,hv,hd,e1];rw[if_pos (by refine⟨?_,?_,?_,?_⟩<;>first|trivial|omega)]
  simp only[runK,hs,ha,Option.map_some,kp];refine h _ _ _ ⟨lg,.inr ⟨c,n+i,hA,by simp,by simp[al.fK,al.fT]⟩⟩ (fun c' hc hi=>?_) (fun ht=>by subst ht;rfl);simp only[al.fK];rw[al.gh _ _ (fun e=>hc (by rw[e];exact hA))];simp only[al.drop,if_neg hi]
end
end Go.Pi
end
section
namespace Go.Pi
def ae:PV->List (List PV)
 | .sl xs=>xs
 |_=>[]
def aQ(v:PV):Prop:=v= .ah\/∃xs,v= .sl xs/\xs.length<=1048576
theorem aQ.ah:aQ .ah:= .inl rfl
theorem aQ.sl{xs:List (List PV)}(h:xs.length<=1048576):aQ (.sl xs):= .inr ⟨xs,rfl,h⟩
theorem aQ.len{v:PV}(h:aQ v):(ae v).length<=1048576:=by
 rcases h with rfl|⟨xs,rfl,h⟩
 ·simp[ae]
 ·exact h
def PI(v:PV):Prop:=∃n,v= .bR .f64 n/\n<18446744073709551616
def pI(v:PV):Prop:=aQ v/\∀x,x∈ae v->∃n:Int,x=[.int .u16 n]/\0<=n/\n<65536
def Rg(n:Int):Prop:=-9223372036854775808<=n/\n<9223372036854775808
mutual
inductive aR:List PV->Prop
 |mk (kind op aA chain flags:Int) (num str:PV) (text:ByteArray) (kids bf parts aC aG:PV) (hn:PI num) (hs:pI str) (ht:text.size<=1048576)
   (lk:aQ kids) (hk:∀x,x∈ae kids->aR x) (lp:aQ bf) (hp:∀x,x∈ae bf->jl x) (lq:aQ parts) (hq:∀x,x∈ae parts->iV x)
   (lf:aQ aC) (hf:∀x,x∈ae aC->gu x) (lc:aQ aG) (hc:∀x,x∈ae aG->gH x)
   (hd:aP [.int .i64 kind,.int .i64 op,.int .i64 aA,.int .i64 chain,.int .i64 flags,num,str,.str text,kids,bf,parts,aC,aG]=true):
   aR [.int .i64 kind,.int .i64 op,.int .i64 aA,.int .i64 chain,.int .i64 flags,num,str,.str text,kids,bf,parts,aC,aG]
inductive jl:List PV->Prop
 |mk (kind flags:Int) (key value:PV) (lk:aQ key) (hk:∀x,x∈ae key->aR x) (lv:aQ value) (hv:∀x,x∈ae value->aR x)
   (hr:Rg flags) (hd:aP [.int .i64 kind,.int .i64 flags,key,value]=true):jl [.int .i64 kind,.int .i64 flags,key,value]
inductive iV:List PV->Prop
 |mk (value str:PV) (text:ByteArray) (lv:aQ value) (hv:∀x,x∈ae value->aR x) (hs:pI str) (ht:text.size<=1048576)
   (hd:aP [value,str,.str text]=true):iV [value,str,.str text]
inductive eP:List PV->Prop
 |mk (kind aA:Int) (cj:PV) (rest:Bool) (li:aQ cj) (hi:∀x,x∈ae cj->iz x)
   (hd:aP [.int .i64 kind,.int .i64 aA,cj,.bool rest]=true):eP [.int .i64 kind,.int .i64 aA,cj,.bool rest]
inductive iz:List PV->Prop
 |mk (flags:Int) (key dC:PV) (b0 b1 b2 b3:PV) (lk:aQ key) (hk:∀x,x∈ae key->aR x) (ld:aQ dC) (qF:∀x,x∈ae dC->aR x) (hb:eP [b0,b1,b2,b3])
   (hr:Rg flags) (hd:aP [.int .i64 flags,key,dC,b0,b1,b2,b3]=true):iz [.int .i64 flags,key,dC,b0,b1,b2,b3]
inductive jm:List PV->Prop
 |mk (b0 b1 b2 b3 dC:PV) (hb:eP [b0,b1,b2,b3]) (ld:aQ dC) (qF:∀x,x∈ae dC->aR x)
   (hd:aP [b0,b1,b2,b3,dC]=true):jm [b0,b1,b2,b3,dC]
inductive gu:List PV->Prop
 |mk (name flags:Int) (args body:PV) (la:aQ args) (ha:∀x,x∈ae args->jm x) (lb:aQ body) (hb:∀x,x∈ae body->bH x)
   (hr:Rg flags) (hd:aP [.int .i64 name,.int .i64 flags,args,body]=true):gu [.int .i64 name,.int .i64 flags,args,body]
inductive iI:List PV->Prop
 |mk (kind flags:Int) (key value init block:PV) (lk:aQ key) (hk:∀x,x∈ae key->aR x) (lv:aQ value) (hv:∀x,x∈ae value->aR x) (li:aQ init) (hi:∀x,x∈ae init->aR x) (lb:aQ block) (hb:∀x,x∈ae block->bH x)
   (hr:Rg flags) (hd:aP [.int .i64 kind,.int .i64 flags,key,value,init,block]=true):iI [.int .i64 kind,.int .i64 flags,key,value,init,block]
inductive gH:List PV->Prop
 |mk (name:Int) (ext fM:PV) (le:aQ ext) (he:∀x,x∈ae ext->aR x) (lm:aQ fM) (hm:∀x,x∈ae fM->iI x)
   (hd:aP [.int .i64 name,ext,fM]=true):gH [.int .i64 name,ext,fM]
inductive jn:List PV->Prop
 |mk (b0 b1 b2 b3 value:PV) (hb:eP [b0,b1,b2,b3]) (lv:aQ value) (hv:∀x,x∈ae value->aR x)
   (hd:aP [b0,b1,b2,b3,value]=true):jn [b0,b1,b2,b3,value]
inductive jo:List PV->Prop
 |mk (value body:PV) (lv:aQ value) (hv:∀x,x∈ae value->aR x) (lb:aQ body) (hb:∀x,x∈ae body->bH x)
   (hd:aP [value,body]=true):jo [value,body]
inductive bH:List PV->Prop
 |mk (kind op aA flags:Int) (str exprs kids decls cases aC aG:PV) (hs:pI str) (le:aQ exprs) (he:∀x,x∈ae exprs->aR x) (lk:aQ kids) (hk:∀x,x∈ae kids->bH x)
   (ld:aQ decls) (gF:∀x,x∈ae decls->jn x) (lc:aQ cases) (hc:∀x,x∈ae cases->jo x) (lf:aQ aC) (hf:∀x,x∈ae aC->gu x) (ll:aQ aG) (ew:∀x,x∈ae aG->gH x)
   (hr:Rg flags) (hd:aP [.int .i64 kind,.int .i64 op,.int .i64 aA,.int .i64 flags,str,exprs,kids,decls,cases,aC,aG]=true):
   bH [.int .i64 kind,.int .i64 op,.int .i64 aA,.int .i64 flags,str,exprs,kids,decls,cases,aC,aG]
end
inductive Node:List PV->Prop
 |mk (k num at_:Int) (text more:ByteArray) (kids:PV) (lk:kids= .ah\/∃xs,kids= .sl xs) (hk:∀x,x∈ae kids->Node x) (hd:aP [.int .i64 k,.str text,.str more,.int .u64 num,kids,.int .i64 at_]=true):
   Node [.int .i64 k,.str text,.str more,.int .u64 num,kids,.int .i64 at_]
theorem Node.len{c:List PV}(h:Node c):c.length=6:=by cases h;rfl
theorem Node.deep{c:List PV}(h:Node c):aP c=true:=by cases h;assumption
theorem cK{cells:List PV}{v:PV}{x:List PV}(hv:v∈cells)(hx:x∈ae v):SizeOf.sizeOf x<SizeOf.sizeOf cells:=by
 have h1:=List.sizeOf_lt_of_mem hv;cases v with
 |sl xs=>
  have h2:=List.sizeOf_lt_of_mem (show x∈xs from hx);simp only[PV.sl.sizeOf_spec]at h1;omega
 |_=>cases hx
theorem PJ{s i:Nat}{v:PV}(h:aQ v)(hi:i<(ae v).length)(hs:(ae v)[i].length=s):db s v (.int .i64 (i:Int))=some (.fp (ae v)[i],none):=by
 rcases h with rfl|⟨xs,rfl,_⟩
 ·simp[ae]at hi
 ·exact PF hi hs
end Go.Pi
end
