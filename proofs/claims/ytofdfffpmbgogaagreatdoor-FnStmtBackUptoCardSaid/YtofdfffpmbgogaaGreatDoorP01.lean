import Derived.Below
import Derived.Laws.Append
import Derived.Laws.Entries
import Derived.Orders
/- Part of the proof. -/
set_option linter.all false
section
namespace Go.Pi
open Go.RowKit
inductive PV where
 |undef
 |bool(b:Bool)
 |int(k:IntKind)(n:Int)
 |bR(k:FloatKind)(bits:Nat)
 |nan(k:FloatKind)
 |str(s:ByteArray)
 |bF|oM|aF|ah
 |agg(cs:List PV)
 |bZ(vs:List PV)
 |aj(t:TypeId)(v:PV)
 |kM(f:Fn)(first aAv:List PV)
 |sl(xs:List (List PV))
 |fp(cs:List PV)
 |ptr(b g off:Nat)
 |row(b g len:Nat)
 |alt(x y:PV)
 deriving Inhabited
structure Chunk where
 e:TypeId
 gen:Nat
 cells:List PV
 s:Nat
abbrev al:=Nat->Option Chunk
structure Env where
 K:Nat->Nat->Prop
 F:Addr->Option Value
 β:Nat->Nat
 κ:Nat->Nat
 H:al
def PV.flat:PV->Bool
 | .agg _| .bZ _| .undef=>false
 |_=>true
inductive bD(E:Env):PV->Value->Prop where
 |undef (v:Value):bD E .undef v
 |bool (b:Bool):bD E (.bool b) (.bool b)
 |int (k:IntKind) (n:Int):bD E (.int k n) (.int k n)
 |bR (k:FloatKind) (n:Nat):bD E (.bR k n) (.float k n)
 |nan (k:FloatKind) (n:Nat) (h:∀m,k.format.order n m=none/\k.format.order m n=none):bD E (.nan k) (.float k n)
 |str (s:ByteArray):bD E (.str s) (.string s)
 |bF:bD E .bF (.pointer none)
 |oM:bD E .oM .nilFunc
 |aF:bD E .aF .nilIface
 |ah:bD E .ah (.slice none 0 0)
 |agg (cs:List PV) (vs:List Value) (hf:∀c,c∈cs->c.flat=true) (hl:cs.length=vs.length) (h:∀(i:Nat)(hi:i<cs.length),bD E cs[i] (vs[i]'(hl▸hi))):bD E (.agg cs) (.agg vs.toArray)
 |bZ (cs:List PV) (vs:List Value) (hl:cs.length=vs.length) (h:∀(i:Nat)(hi:i<cs.length),bD E cs[i] (vs[i]'(hl▸hi))):bD E (.bZ cs) (.tuple vs.toArray)
 |aj (t:TypeId) (x:PV) (v:Value) (h:bD E x v):bD E (.aj t x) (.iface t v)
 |kM (f:Fn) (cs ds:List PV) (vs us:List Value) (hl:cs.length=vs.length) (h:∀(i:Nat)(hi:i<cs.length),bD E cs[i] (vs[i]'(hl▸hi)))
   (dB:ds.length=us.length) (h':∀(i:Nat)(hi:i<ds.length),bD E ds[i] (us[i]'(dB▸hi))):bD E (.kM f cs ds) (.func f vs.toArray us.toArray)
 |oN (A:Option Addr) (c:Nat):bD E (.sl []) (.slice A 0 c)
 |sl (xs:List (List PV)) (a:Addr) (c s:Nat) (U:Nat->Nat->Value) (hc:xs.length<=c) (hs:∀(i:Nat)(hi:i<xs.length),xs[i].length=s) (hf:∀x,x∈xs->∀c,c∈x->c.flat=true)
   (hF:∀(i j:Nat),i<xs.length->j<s->E.F (a.add (i*s+j))=some (U i j))
   (h:∀(i:Nat)(hi:i<xs.length)(j:Nat)(hj:j<xs[i].length),bD E xs[i][j] (U i j)):bD E (.sl xs) (.slice (some a) xs.length c)
 |fp (cs:List PV) (a:Addr) (U:Nat->Value) (hf:∀c,c∈cs->c.flat=true) (hF:∀j,j<cs.length->E.F (a.add j)=some (U j))
   (h:∀(j:Nat)(hj:j<cs.length),bD E cs[j] (U j)):bD E (.fp cs) (.pointer (some a))
 |ptr (b g off:Nat) (v:Value) (hv:∃a,v= .pointer (some a)) (hk:E.K b g) (h:∀c,E.H b=some c->c.gen=g->v= .pointer (some ⟨E.β b,off,none⟩)):bD E (.ptr b g off) v
 |row (b g len:Nat) (v:Value) (hv:∃a c,v= .slice (some a) len c/\len<=c) (hk:E.K b g) (h:∀c,E.H b=some c->c.gen=g->len<=E.κ b/\v= .slice (some ⟨E.β b,0,none⟩) len (E.κ b)):bD E (.row b g len) v
 |qh (x y:PV) (v:Value) (ho:v.oneCell'=true) (h:bD E x v):bD E (.alt x y) v
 |ru (x y:PV) (v:Value) (ho:v.oneCell'=true) (h:bD E y v):bD E (.alt x y) v
structure Le(E E':Env):Prop where
 K:∀b g,E.K b g->E'.K b g
 F:∀a u,E.F a=some u->E'.F a=some u
 H:∀b c',E'.H b=some c'->E.K b c'.gen->∃c,E.H b=some c/\c.gen=c'.gen/\E'.β b=E.β b/\E'.κ b=E.κ b
theorem Le.refl(E:Env):Le E E:=⟨fun _ _ h=>h,fun _ _ h=>h,fun _ c' h _=>⟨c',h,rfl,rfl,rfl⟩⟩
theorem Le.trans{E E' N3:Env}(h:Le E E')(k:Le E' N3):Le E N3:=
 ⟨fun b g x=>k.K b g (h.K b g x),fun a u x=>k.F a u (h.F a u x),fun b gQ hc hk=>by
  obtain⟨c',h1,h2,h3,h4⟩:=k.H b gQ hc (h.K _ _ hk);obtain⟨c,g1,g2,g3,g4⟩:=h.H b c' h1 (h2▸hk);exact⟨c,g1,g2.trans h2,h3.trans g3,h4.trans g4⟩⟩
theorem bD.mono{E E':Env}(hE:Le E E'){x:PV}{v:Value}(h:bD E x v):bD E' x v:=by
 induction h with
 |undef v=>exact .undef v
 |bool b=>exact .bool b
 |int k n=>exact .int k n
 |bR k n=>exact .bR k n
 |nan k n h=>exact .nan k n h
 |str s=>exact .str s
 |bF=>exact .bF
 |oM=>exact .oM
 |aF=>exact .aF
 |ah=>exact .ah
 |agg cs vs hf hl _ ih=>exact .agg cs vs hf hl ih
 |bZ cs vs hl _ ih=>exact .bZ cs vs hl ih
 |aj t x v _ ih=>exact .aj t x v ih
 |kM f cs ds vs us hl _ dB _ ih HP=>exact .kM f cs ds vs us hl ih dB HP
 |oN A c=>exact .oN A c
 |sl xs a c s U hc hs hf hF _ ih=>exact .sl xs a c s U hc hs hf (fun i j hi hj=>hE.F _ _ (hF i j hi hj)) ih
 |fp cs a U hf hF _ ih=>exact .fp cs a U hf (fun j hj=>hE.F _ _ (hF j hj)) ih
 |ptr b g off v hv hk h=>
  refine .ptr b g off v hv (hE.K _ _ hk) fun c' hc hg=>?_
  obtain⟨c,h1,h2,h3,_⟩:=hE.H b c' hc (hg▸hk);rw[h c h1 (h2.trans hg),h3]
 |qh x y v ho _ ih=>exact .qh x y v ho ih
 |ru x y v ho _ ih=>exact .ru x y v ho ih
 |row b g len v hv hk h=>
  refine .row b g len v hv (hE.K _ _ hk) fun c' hc hg=>?_
  obtain⟨c,h1,h2,h3,h4⟩:=hE.H b c' hc (hg▸hk);rw[h3,h4];exact h c h1 (h2.trans hg)
def b9(E:Env)(cs:List PV)(vs:List Value):Prop:=cs.length=vs.length/\∀(i:Nat)(c:PV)(v:Value),cs[i]?=some c->vs[i]?=some v->bD E c v
theorem b9.mono{E E':Env}(hE:Le E E'){cs:List PV}{vs:List Value}(h:b9 E cs vs):b9 E' cs vs:=⟨h.1,fun i c v hc hv=>(h.2 i c v hc hv).mono hE⟩
theorem b9.nil(E:Env):b9 E [] []:=⟨rfl,fun i c v h=>by simp at h⟩
theorem b9.cons{E:Env}{c:PV}{v:Value}{cs:List PV}{vs:List Value}(h:bD E c v)(hs:b9 E cs vs):b9 E (c::cs) (v::vs):=by
 refine⟨by simp[hs.1],fun i d u hd hu=>?_⟩;cases i with
 |zero=>simp at hd hu;subst hd;subst hu;exact h
 |succ i=>simp at hd hu;exact hs.2 i d u hd hu
theorem b9.head{E:Env}{c:PV}{cs:List PV}{vs:List Value}(h:b9 E (c::cs) vs):∃v us,vs=v::us/\bD E c v/\b9 E cs us:=by
 obtain⟨hl,h⟩:=h;cases vs with
 |nil=>simp at hl
 |cons v us=>exact⟨v,us,rfl,h 0 c v (by simp) (by simp),by simpa using hl,fun i d u hd hu=>h (i+1) d u (by simpa using hd) (by simpa using hu)⟩
theorem b9.append{E:Env}{cs ds:List PV}{vs us:List Value}(h:b9 E cs vs)(k:b9 E ds us):b9 E (cs++ds) (vs++us):=by
 induction cs generalizing vs with
 |nil=>have:=h.1;cases vs with|nil=>exact k|cons=>simp at this
 |cons c cs ih=>obtain⟨v,ws,rfl,h1,h2⟩:=h.head;exact .cons h1 (ih h2)
theorem b9.get{E:Env}{cs:List PV}{vs:List Value}(h:b9 E cs vs)(i:Nat)(hi:i<cs.length):bD E cs[i] (vs[i]'(h.1▸hi)):=
 h.2 i _ _ (by simp[hi]) (by simp[h.1▸hi])
theorem b9.agg{E:Env}{cs:List PV}{vs:List Value}(h:b9 E cs vs)(hf:∀c,c∈cs->c.flat=true):bD E (.agg cs) (.agg vs.toArray):= .agg cs vs hf h.1 fun i hi=>h.get i hi
theorem b9.bZ{E:Env}{cs:List PV}{vs:List Value}(h:b9 E cs vs):bD E (.bZ cs) (.tuple vs.toArray):= .bZ cs vs h.1 fun i hi=>h.get i hi
theorem b9.mk{E:Env}{cs:List PV}{vs:List Value}(hl:cs.length=vs.length)(h:∀(i:Nat)(hi:i<cs.length),bD E cs[i] (vs[i]'(hl▸hi))):b9 E cs vs:=
 ⟨hl,fun i c v hc hv=>by
  obtain⟨h1,rfl⟩:=List.getElem?_eq_some_iff.1 hc;obtain⟨h2,rfl⟩:=List.getElem?_eq_some_iff.1 hv;exact h i h1⟩
theorem bD.DU{E:Env}{cs:List PV}{v:Value}(h:bD E (.agg cs) v):∃vs,v= .agg vs.toArray/\b9 E cs vs/\∀c,c∈cs->c.flat=true:=by cases h with|agg _ vs hf hl h=>exact⟨vs,rfl,.mk hl h,hf⟩
theorem bD.N4{E:Env}{cs:List PV}{v:Value}(h:bD E (.bZ cs) v):∃vs,v= .tuple vs.toArray/\b9 E cs vs:=by cases h with|bZ _ vs hl h=>exact⟨vs,rfl,.mk hl h⟩
theorem b9.take{E:Env}{cs:List PV}{vs:List Value}(h:b9 E cs vs)(n:Nat):b9 E (cs.take n) (vs.take n):=
 ⟨by simp[h.1],fun i c v hc hv=>by
  rw[List.getElem?_take]at hc hv;split at hc
  ·rename_i hi;rw[if_pos hi]at hv;exact h.2 i c v hc hv
  ·cases hc⟩
theorem b9.drop{E:Env}{cs:List PV}{vs:List Value}(h:b9 E cs vs)(n:Nat):b9 E (cs.drop n) (vs.drop n):=
 ⟨by simp[h.1],fun i c v hc hv=>by
  rw[List.getElem?_drop]at hc hv;exact h.2 _ c v hc hv⟩
theorem b9.set{E:Env}{cs:List PV}{vs:List Value}(h:b9 E cs vs)(i:Nat){c:PV}{v:Value}(hv:bD E c v):b9 E (cs.set i c) (vs.set i v):=
 ⟨by simp[h.1],fun j d u hd hu=>by
  rw[List.getElem?_set]at hd hu;split at hd
  ·rename_i e;rw[if_pos e]at hu;split at hd
   ·rename_i e2;rw[if_pos (h.1▸e2)]at hu;cases hd;cases hu;exact hv
   ·cases hd
  ·rename_i e;rw[if_neg e]at hu;exact h.2 j d u hd hu⟩
theorem bD.AM{E:Env}{x:PV}{v:Value}(h:bD E x v)(hf:x.flat=true):v.oneCell'=true:=by
 cases h with
 |ptr b g off v hv hk h=>obtain⟨a,rfl⟩:=hv;rfl
 |row b g len v hv hk h=>obtain⟨a,c,rfl,_⟩:=hv;rfl
 |qh _ _ _ ho _=>exact ho
 |ru _ _ _ ho _=>exact ho
 |undef=>simp[PV.flat]at hf
 |agg=>simp[PV.flat]at hf
 |bZ=>simp[PV.flat]at hf
 |_=>rfl
structure adP(P:Program)(E:Env)(w:World)(base b:Nat)(c:Chunk):Prop where
 used:E.K b c.gen
 last:∀g,c.gen<g->¬E.K b g
 own:base<=E.β b
 apart:∀b' c',E.H b'=some c'->E.β b'=E.β b->b'=b
 free:∀a,a.block=E.β b->E.F a=none
 cells:∃cs:Array Value,w.heap[E.β b]?=some (.cells cs c.e (0,0))/\c.cells.length<=cs.size/\(∀i,P.info? c.e=some i->E.κ b*i.size<=cs.size)/\b9 E c.cells (cs.toList.take c.cells.length)
 flat:∀x,x∈c.cells->x.flat=true
structure Inv(P:Program)(aT:World)(E:Env)(w:World):Prop where
 below:Below aT.heap.size aT w
 cell:∀a u,E.F a=some u->w.cell? a=some u
 old:∀a u,aT.cell? a=some u->E.F a=some u
 chunk:∀b c,E.H b=some c->adP P E w aT.heap.size b c
end Go.Pi
end
section
namespace Go.Pi
open Go.RowKit
def al.put(H:al)(b:Nat)(c:Option Chunk):al:=fun x=>if x=b then c else H x
theorem al.fT(H:al)(b:Nat)(c:Option Chunk):H.put b c b=c:=by simp[al.put]
theorem al.gh(H:al){b x:Nat}(c:Option Chunk)(h:x≠b):H.put b c x=H x:=by simp[al.put,h]
def Alike(w w':World):Prop:=w'.heap=w.heap/\w'.os=w.os/\w'.tape=w.tape/\w'.output=w.output
theorem Alike.refl(w:World):Alike w w:=⟨rfl,rfl,rfl,rfl⟩
theorem Alike.drew(w:World):Alike w w.drew:=⟨rfl,rfl,rfl,rfl⟩
theorem HQ{w w':World}{a:Addr}(h:w'.heap[a.block]?=w.heap[a.block]?):w'.cell? a=w.cell? a:=by simp[World.cell?,h]
theorem Inv.alike{P:Program}{aT:World}{E:Env}{w w':World}(h:Inv P aT E w)(ha:Alike w w'):Inv P aT E w':=by
 obtain⟨h1,h2,h3,h4⟩:=ha;refine⟨⟨h2.trans h.below.os,h3.trans h.below.tape,h4.trans h.below.output,by rw[h1];exact h.below.size,fun k hk=>by rw[h1];exact h.below.block k hk⟩,
  fun a u hu=>by rw[HQ (w:=w) (by rw[h1])];exact h.cell a u hu,h.old,fun b c hc=>?_⟩
 obtain⟨u,l,o,ap,f,⟨cs,fC,r⟩,fl⟩:=h.chunk b c hc;exact⟨u,l,o,ap,f,⟨cs,by rw[h1];exact fC,r⟩,fl⟩
theorem Inv.AN{P:Program}{aT:World}{E:Env}{w:World}(h:Inv P aT E w){b:Nat}{c:Chunk}(hc:E.H b=some c):E.β b<w.heap.size:=by
 obtain⟨cs,fC,_⟩:=(h.chunk b c hc).cells;exact(Array.getElem?_eq_some_iff.1 fC).1
def Env.new(E:Env)(n b cap:Nat)(c:Chunk):Env:=
 ⟨fun x y=>E.K x y\/(x=b/\y=c.gen),E.F,fun x=>if x=b then n else E.β x,fun x=>if x=b then cap else E.κ x,E.H.put b (some c)⟩
theorem N5{E:Env}{n b cap:Nat}{c:Chunk}(hg:∀g',c.gen<=g'->¬E.K b g'):Le E (E.new n b cap c):=by
 refine⟨fun _ _ h=> .inl h,fun _ _ h=>h,fun x c' hx hk=>?_⟩;by_cases e:x=b
 ·subst e;simp[Env.new,al.fT]at hx;subst hx;exact absurd hk (hg _ (Nat.le_refl _))
 ·simp only[Env.new,al.gh _ _ e]at hx;exact⟨c',hx,rfl,by simp[Env.new,e],by simp[Env.new,e]⟩
theorem adQ{P:Program}{aT:World}{E:Env}{w:World}(hI:Inv P aT E w)(b cap:Nat)(c:Chunk)(hg:∀g',c.gen<=g'->¬E.K b g')
 (hf:∀x,x∈c.cells->x.flat=true)(cs:Array Value)(hl:c.cells.length<=cs.size)(mq:∀i,P.info? c.e=some i->cap*i.size<=cs.size)
 (hR:b9 E c.cells (cs.toList.take c.cells.length)):Inv P aT (E.new w.heap.size b cap c) (w.alloc (.cells cs c.e)):=by
 have aV:=N5 (n:=w.heap.size) (cap:=cap) hg;have cE:∀a u,E.F a=some u->a.block<w.heap.size:=fun a u hu=>World.block_lt_of_cell? w a (hI.cell a u hu)
 have hold:∀k,k<w.heap.size->(w.alloc (.cells cs c.e)).heap[k]?=w.heap[k]?:=fun k hk=>Below.heap_alloc _ _ _ hk
 refine⟨hI.below.alloc hI.below.size _,fun a u hu=>?_,hI.old,fun x c' hx=>?_⟩
 ·rw[HQ (w:=w) (hold _ (cE a u hu))];exact hI.cell a u hu
 ·by_cases e:x=b
  ·subst e;simp only[Env.new,al.fT,Option.some.injEq]at hx;subst hx;refine⟨.inr ⟨rfl,rfl⟩,fun g rv hk=>?_,?_,fun b' c' eS he=>?_,fun a ha=>?_,⟨cs,?_,hl,?_,hR.mono aV⟩,hf⟩
   ·rcases hk with hk|⟨_,hk⟩
    ·exact hg g (by omega) hk
    ·omega
   ·simp only[Env.new,if_pos];exact hI.below.size
   ·by_cases e':b'=x
    ·exact e'
    ·simp only[Env.new,al.gh _ _ e',if_neg e',if_pos]at eS he;have:=hI.AN eS;omega
   ·simp only[Env.new,if_pos]at ha⊢;cases hF:E.F a with
    |none=>rfl
    |some u=>have:=cE a u hF;omega
   ·show(w.heap.push (.cells cs c.e))[(if x=x then w.heap.size else E.β x)]?=_;rw[if_pos rfl];simp
   ·simpa[Env.new]using mq
  ·simp only[Env.new,al.gh _ _ e]at hx;have hb:=hI.AN hx;obtain⟨u,l,o,ap,f,⟨oO,fC,r1,r2,r3⟩,fl⟩:=hI.chunk x c' hx;refine⟨.inl u,fun g rv hk=>?_,by simpa[Env.new,e]using o,fun b' gQ eS he=>?_,by simpa[Env.new,e]using f,⟨oO,?_,r1,by simpa[Env.new,e]using r2,r3.mono aV⟩,fl⟩
   ·rcases hk with hk|⟨hk,_⟩
    ·exact l g rv hk
    ·exact e hk
   ·by_cases e':b'=b
    ·subst e';simp only[Env.new,if_pos,if_neg e]at he;omega
    ·simp only[Env.new,al.gh _ _ e',if_neg e',if_neg e]at eS he;exact ap b' gQ eS he
   ·simp only[Env.new,if_neg e];rw[hold _ hb];exact fC
def Env.set(E:Env)(b:Nat)(c:Chunk):Env:=⟨fun x y=>E.K x y\/(x=b/\y=c.gen),E.F,E.β,E.κ,E.H.put b (some c)⟩
theorem N6{E:Env}{b:Nat}{c c':Chunk}(hb:E.H b=some c)(hl:∀g,c.gen<g->¬E.K b g)(hg:c.gen<=c'.gen):Le E (E.set b c'):=by
 refine⟨fun _ _ h=> .inl h,fun _ _ h=>h,fun x gQ hx hk=>?_⟩;by_cases e:x=b
 ·subst e;simp[Env.set,al.fT]at hx;subst hx;refine⟨c,hb,?_,rfl,rfl⟩;by_cases h:c.gen<c'.gen
  ·exact absurd hk (hl _ h)
  ·omega
 ·simp only[Env.set,al.gh _ _ e]at hx;exact⟨gQ,hx,rfl,rfl,rfl⟩
def World.setBlock(w:World)(k:Nat)(o:Obj):World:={w with heap:=w.heap.setIfInBounds k o}
theorem DV(w:World)(k i:Nat)(o:Obj)(h:i≠k):(World.setBlock w k o).heap[i]?=w.heap[i]?:=by
 simp[World.setBlock,Array.getElem?_setIfInBounds];intro e;exact absurd e.symm h
theorem N7(w:World)(k:Nat)(o:Obj)(h:k<w.heap.size):(World.setBlock w k o).heap[k]?=some o:=by
 simp[World.setBlock,h]
theorem adR{P:Program}{aT:World}{E:Env}{w:World}(hI:Inv P aT E w){b:Nat}{c c':Chunk}(hb:E.H b=some c)(he:c'.e=c.e)(hg:c.gen<=c'.gen)
 (hf:∀x,x∈c'.cells->x.flat=true)(oO:Array Value)(hl:c'.cells.length<=oO.size)
 (mq:∀i,P.info? c.e=some i->E.κ b*i.size<=oO.size)(hR:b9 E c'.cells (oO.toList.take c'.cells.length)):
 Inv P aT (E.set b c') (World.setBlock w (E.β b) (.cells oO c.e (0,0))):=by
 have hh:=hI.chunk b c hb;have aV:=N6 hb hh.last hg;have cE:=hI.AN hb;refine⟨?_,fun a u hu=>?_,hI.old,fun x gQ hx=>?_⟩
 ·refine hI.below.trans ⟨rfl,rfl,rfl,by simp[World.setBlock],fun k hk=>DV _ _ _ _ ?_⟩;have:=hh.own;omega
 ·have dW:a.block≠E.β b:=fun e=>by have:=hh.free a e;simp only[Env.set]at hu;rw[this]at hu;cases hu
  rw[HQ (w:=w) (DV _ _ _ _ dW)];exact hI.cell a u hu
 ·by_cases e:x=b
  ·subst e;simp only[Env.set,al.fT,Option.some.injEq]at hx;subst hx;refine⟨.inr ⟨rfl,rfl⟩,fun g rv hk=>?_,hh.own,fun b' gQ eS iT=>?_,hh.free,⟨oO,?_,hl,by rw[he];exact mq,hR.mono aV⟩,hf⟩
   ·rcases hk with hk|⟨_,hk⟩
    ·exact hh.last g (by omega) hk
    ·omega
   ·by_cases e':b'=x
    ·exact e'
    ·simp only[Env.set,al.gh _ _ e']at eS;exact hh.apart b' gQ eS iT
   ·rw[he];exact N7 _ _ _ cE
  ·simp only[Env.set,al.gh _ _ e]at hx;obtain⟨u,l,o,ap,f,⟨cs,fC,r1,r2,r3⟩,fl⟩:=hI.chunk x gQ hx;refine⟨.inl u,fun g rv hk=>?_,o,fun b' c3 eS iT=>?_,f,⟨cs,?_,r1,r2,r3.mono aV⟩,fl⟩
   ·rcases hk with hk|⟨hk,_⟩
    ·exact l g rv hk
    ·exact e hk
   ·by_cases e':b'=b
    ·subst e';exact(hh.apart x gQ hx iT.symm).symm
    ·simp only[Env.set,al.gh _ _ e']at eS;exact ap b' c3 eS iT
   ·have dW:E.β x≠E.β b:=fun h=>e (hh.apart x gQ hx h)
    show(World.setBlock w (E.β b) _).heap[E.β x]?=_;rw[DV _ _ _ _ dW];exact fC
end Go.Pi
end
section
namespace Go.Pi
open Go.RowKit
inductive bK where
 |t(n:Nat)
 |c(v:PV)
 |g(n:Nat)
def yV:Value->Option PV
 | .bool b=>some (.bool b)
 | .int k n=>some (.int k n)
 | .float k n=>some (.bR k n)
 | .string s=>some (.str s)
 | .pointer none=>some .bF
 | .nilFunc=>some .oM
 | .nilIface=>some .aF
 | .slice none 0 0=>some .ah
 |_=>none
theorem HR{v:Value}{x:PV}(h:yV v=some x)(E:Env):bD E x v/\x.flat=true:=by
 unfold yV at h;split at h<;>first
  |(injection h with h;subst h;first
    |exact⟨.bool _,rfl⟩|exact⟨.int _ _,rfl⟩|exact⟨.bR _ _,rfl⟩|exact⟨.str _,rfl⟩|exact⟨.bF,rfl⟩|exact⟨.oM,rfl⟩|exact⟨.aF,rfl⟩|exact⟨.ah,rfl⟩)
  |cases h
def di:Operand->Option bK
 | .tmp n=>some (.t n)
 | .const v=>(yV v).map .c
 | .global n=>some (.g n)
 | .func f=>some (.c (.kM (.func f) [] []))
def yW:Option Operand->Option (Option bK)
 |none=>some none
 |some y=>(di y).map some
def ry:List Operand->Option (List bK)
 |[]=>some []
 |x::xs=>do some ((<-di x)::(<-ry xs))
inductive K where
 |mv(x:bK)
 |pick(c a b:bK)
 |new(e:Nat)(z:List PV)
 |box(e n:Nat)(x:bK)
 |build(z:List PV)(ps:List (Nat×Nat×bK))
 |bh(e s len:Nat)(z:List PV)(ps:List (Nat×Nat×bK))
 |ld(ag:Bool)(n:Nat)(x:bK)
 |st(n:Nat)(x v:bK)
 |v8(x:bK)
 |bin(op:BinOp)(x y:bK)
 |mZ(op:BinOp)(x y:bK)
 |v9(op:BinOp)(x y:bK)
 |mI(op:BinOp)(x y:bK)
 |un(op:UnOp)(x:bK)
 |conv(k:IntKind)(x:bK)
 |py(x:bK)
 |yX(x:bK)
 |cL(t:Nat)(x:bK)
 |wa(f:Fn)(as bs:List bK)
 |m5(e s b:Nat)(z:List PV)(l c:bK)
 |jF(x:bK)(lo hi:Option bK)
 |kj(s:Nat)(x:bK)(lo hi:Option bK)
 |fa(off:Nat)(x:bK)
 |ix(s:Nat)(x i:bK)
 |sx(x i:bK)
 |ta(t:Nat)(z:PV)(x:bK)
 |ext(x:bK)(i:Nat)
 |len(x:bK)
 |dP(x:bK)
 |app(e s b:Nat)(d x:bK)
 |mx(x y:bK)
 |mn(x y:bK)
 |rz(x:bK)
 |wb(x:bK)
 |we(k:FloatKind)(x:bK)
 |call(f:Nat)(as:List bK)
 |m7(f:bK)(as:List bK)
def yY(P:Program)(t:TypeId):Option Bool:=
 match P.underlying t with
 |some (.struct _)|some (.array _ _)=>some true
 |some _=>some false
 |none=>none
def im(P:Program)(t:TypeId):Option Nat:=(P.info? t).map (·.size)
def rA(P:Program)(t:TypeId):Option Nat:=(P.info? t).map (·.bytes)
def yZ:List Value->Option (List PV)
 |[]=>some []
 |v::vs=>do some ((<-yV v)::(<-yZ vs))
def oP(P:Program)(t:TypeId):Option (List PV):=do
 let i <-P.info? t
 let z <-i.zero
 yZ z.cells.toList
def sK(P:Program)(t:TypeId):Option TypeId:=match P.underlying t with|some (.slice e)=>some e|_=>none
def y3(P:Program):List Field->Option (List (Nat×Nat))
 |[]=>some []
 |f::fs=>do
  let s <-im P f.type
  let r <-y3 P fs
  some ((f.offset,s)::r)
def HS(P:Program)(t:TypeId):Option (List (Nat×Nat)):=
 match P.underlying t with
 |some (.struct fs)=>y3 P fs.toList
 |_=>none
def sL(place:Nat->Option (Nat×Nat)):List (Nat×Operand)->Option (List (Nat×Nat×bK))
 |[]=>some []
 |(i,x)::ps=>do
  let (o,s) <-place i
  some ((o,s,<-di x)::(<-sL place ps))
def rB(P:Program)(c:Call):Option K:=
 match c.callee,c.args.toList,c.argTypes.toList with
 | .builtin .len,[x],[t]=>do
   match <-P.underlying t with
   | .string=>some (.dP (<-di x))
   | .slice _=>some (.len (<-di x))
   |_=>none
 | .builtin .append,[d,x],[t,u]=>do
   let e <-sK P t
   let s <-im P e
   let b <-rA P e
   let z <-oP P e
   if s=0\/b=0\/z.length≠s then none
   match <-P.underlying u with
   | .slice _| .string=>some (.app e s b (<-di d) (<-di x))
   |_=>none
 | .builtin .max,[x,y],_=>do some (.mx (<-di x) (<-di y))
 | .builtin .min,[x,y],_=>do some (.mn (<-di x) (<-di y))
 | .value (.func f),as,_=>do
   let fn <-P.funcs[f]?
   match fn.body with
   |some _=>if fn.name== "runtime.NumGoroutine" then none else some (.call f (<-ry as))
   |none=>
    match as with
    |[x]=>if fn.origin≠ "" then none else if fn.name= "math.Float64bits" then some (.rz (<-di x))else if fn.name= "math.Float64frombits" then some (.wb (<-di x))else none
    |_=>none
 | .value (.tmp n),as,_=>do some (.m7 (.t n) (<-ry as))
 |_,_,_=>none
def eE(P:Program)(o:Oper):Option K:=
 match o.op with
 | .move x| .assign x=>do some (.mv (<-di x))
 | .pick c a b=>do some (.pick (<-di c) (<-di a) (<-di b))
 | .alloc e=>do some (.new e (<-oP P e))
 | .box e x=>do some (.box e (<-im P e) (<-di x))
 | .build t ps=>do
   let l <-HS P t
   some (.build (<-oP P t) (<-sL (fun i=>l[i]?) ps.toList))
 | .buildSlice t len ps=>do
   let e <-sK P t
   let s <-im P e
   if s=0\/2 ^ 24<len*s then none
   let z <-oP P e
   if z.length≠s then none
   some (.bh e s len ((List.replicate len z).flatten) (<-sL (fun i=>some (i*s,s)) ps.toList))
 | .load t x=>do
   let ag <-yY P t
   let s <-im P t
   some (.ld ag (if ag then s else 1) (<-di x))
 | .store t x v=>do some (.st (<-im P t) (<-di x) (<-di v))
 | .nilCheck x=>do some (.v8 (<-di x))
 | .binOp op t x y _=>do
   match <-P.underlying t with
   | .pointer _=>some (.mZ op (<-di x) (<-di y))
   | .int _| .string| .float _=>some (.bin op (<-di x) (<-di y))
   | .bool=>some (.v9 op (<-di x) (<-di y))
   | .interface _=>match y with
     | .const .nilIface=>some (.mI op (<-di x) (.c .aF))
     |_=>none
   |_=>none
 | .unOp op _ x=>do some (.un op (<-di x))
 | .convert DW dst x=>do
   match <-P.underlying DW,<-P.underlying dst with
   | .int _,.int k=>some (.conv k (<-di x))
   | .int _,.float k=>some (.we k (<-di x))
   | .slice e,.string=>match P.underlying e with|some (.int .u8)=>(di x).map .py|_=>none
   | .string,.string=>some (.yX (<-di x))
   |_,_=>none
 | .makeInterface t x=>do
   match <-P.underlying t with
   | .interface _=>none
   |_=>some (.cL t (<-di x))
 | .makeFunc fn a b=>do some (.wa fn (<-ry a.toList) (<-ry b.toList))
 | .makeSlice t l c=>do
   let e <-sK P t
   let z <-oP P e
   let s <-im P e
   let b <-rA P e
   if s=0\/b=0\/z.length≠s then none
   some (.m5 e s b z (<-di l) (<-di c))
 | .slice t x lo hi none=>do
   let lo <-yW lo
   let hi <-yW hi
   match <-P.underlying t with
   | .string=>some (.jF (<-di x) lo hi)
   | .slice e=>some (.kj (<-im P e) (<-di x) lo hi)
   |_=>none
 | .fieldAddr t x f=>
   match P.underlying t with
   |some (.struct fs)=>do
    let fd <-fs[f]?
    if(<-im P fd.type)=0 then none
    some (.fa fd.offset (<-di x))
   |_=>none
 | .indexAddr t x i=>do some (.ix (<-im P (<-sK P t)) (<-di x) (<-di i))
 | .index t x i=>do
   match <-P.underlying t with
   | .string=>some (.sx (<-di x) (<-di i))
   |_=>none
 | .typeAssert x _ t true=>do
   match <-P.underlying t,<-P.info? t with
   | .interface _,_=>none
   | .invalid,_=>none
   |_,i=>match i.zero with
    |some z=>some (.ta t (<-yV z) (<-di x))
    |none=>none
 | .extract x i=>do some (.ext (<-di x) i)
 | .call c=>rB P c
 |_=>none
end Go.Pi
end
section
namespace Go.Pi
open Go.RowKit
def cellsOf:PV->Option (List PV)
 | .agg cs=>some cs
 | .bZ _=>none
 | .undef=>none
 |x=>some [x]
def kN(H:al)(n:Nat):PV->Option (List PV)
 | .ptr b g off=>match H b with
   |some c=>if c.gen=g/\off+n<=c.cells.length then some ((c.cells.drop off).take n)else none
   |none=>none
 | .fp cs=>if n<=cs.length then some (cs.take n)else none
 |_=>none
def io(cells:List PV)(off:Nat)(vs:List PV):List PV:=cells.take off++vs++cells.drop (off+vs.length)
def sM:List PV->List (Nat×Nat×PV)->Option (List PV)
 |z,[]=>some z
 |z,(o,s,x)::ps=>
  match cellsOf x with
  |some vs=>if vs.length=s/\o+s<=z.length then sM (io z o vs) ps else none
  |none=>none
def gE(H:al)(s:Nat):PV->Option (Nat×List PV)
 | .ah=>some (0,[])
 | .sl xs=>if xs.all (fun c=>c.length==s)then some (xs.length,xs.flatten)else none
 | .row b g len=>match H b with
   |some c=>if c.gen=g/\len*s<=c.cells.length then some (len,c.cells.take (len*s))else none
   |none=>none
 | .str x=>if s=1 then some (x.size,x.data.toList.map fun b=> .int .u8 b.toNat)else none
 |_=>none
def qi:List PV->Option (List UInt8)
 |[]=>some []
 | .int .u8 n::r=>(qi r).map (UInt8.ofNat n.toNat::·)
 |_::_=>none
def nS(op:BinOp):PV->PV->Option PV
 | .int k a,.int k' b=>
   match op with
   | .shl=>if 0<=b then some (.int k (k.wrap (a*2 ^ (min b.toNat k.bits))))else none
   | .shr=>if 0<=b then some (.int k (a.fdiv (2 ^ (min b.toNat k.bits))))else none
   |op=>if k=k' then match op with
    | .add=>some (.int k (k.wrap (a+b)))
    | .sub=>some (.int k (k.wrap (a - b)))
    | .mul=>some (.int k (k.wrap (a*b)))
    | .quo=>if b=0 then none else some (.int k (k.wrap (a.tdiv b)))
    | .rem=>if b=0 then none else some (.int k (a.tmod b))
    | .and=>some (.int k (bits .and k a b))
    | .or=>some (.int k (bits .or k a b))
    | .xor=>some (.int k (bits .xor k a b))
    | .andNot=>some (.int k (bits .andNot k a b))
    | .eql=>some (.bool (a==b))
    | .neq=>some (.bool (a !=b))
    | .lss=>some (.bool (decide (a<b)))
    | .leq=>some (.bool (decide (a<=b)))
    | .gtr=>some (.bool (decide (a>b)))
    | .geq=>some (.bool (decide (a≥b)))
    |_=>none
    else none
 | .str a,.str b=>
   match op with
   | .add=>if a.size+b.size<=9223372036854775807 then some (.str (a++b))else none
   | .eql=>some (.bool (a.toList==b.toList))
   | .neq=>some (.bool (!(a.toList==b.toList)))
   | .lss=>some (.bool (Op.bytesLess a.toList b.toList))
   | .leq=>some (.bool (Op.bytesLess a.toList b.toList||a.toList==b.toList))
   | .gtr=>some (.bool (!(Op.bytesLess a.toList b.toList||a.toList==b.toList)))
   | .geq=>some (.bool (!Op.bytesLess a.toList b.toList))
   |_=>none
 | .bR k a,.bR k' b=>
   if k=k' then
    match op with
    | .eql=>some (.bool (k.format.order a b==some .eq))
    | .neq=>some (.bool (k.format.order a b !=some .eq))
    | .sub=>some (match k.format.sub a b with|some r=> .bR k r|none=> .nan k)
    |_=>none
   else none
 | .nan k,.bR k' _=>if k=k' then(match op with| .eql=>some (.bool false)| .neq=>some (.bool true)|_=>none)else none
 |_,_=>none
def DX(op:BinOp)(x y:PV):Option PV:=
 match op,x,y with
 | .eql,.bF,.bF=>some (.bool true)
 | .eql,.fp _,.bF| .eql,.ptr _ _ _,.bF| .eql,.bF,.fp _| .eql,.bF,.ptr _ _ _=>some (.bool false)
 | .neq,.bF,.bF=>some (.bool false)
 | .neq,.fp _,.bF| .neq,.ptr _ _ _,.bF| .neq,.bF,.fp _| .neq,.bF,.ptr _ _ _=>some (.bool true)
 |_,_,_=>none
def HT(op:BinOp)(x y:PV):Option PV:=
 match op,x,y with
 | .eql,.bool a,.bool b=>some (.bool (a==b))
 | .neq,.bool a,.bool b=>some (.bool (!(a==b)))
 |_,_,_=>none
def DY(op:BinOp)(x y:PV):Option PV:=
 match op,x,y with
 | .eql,.aF,.aF=>some (.bool true)
 | .eql,.aj _ _,.aF=>some (.bool false)
 | .neq,.aF,.aF=>some (.bool false)
 | .neq,.aj _ _,.aF=>some (.bool true)
 |_,_,_=>none
def D0:UnOp->PV->Option PV
 | .neg,.int k n=>some (.int k (k.wrap (0 - n)))
 | .neg,.bR k n=>some (.bR k (Op.negFloat k n))
 | .not,.bool b=>some (.bool (!b))
 |_,_=>none
def jh(d:Nat)(ev:bK->PV):Option bK->Option Nat
 |none=>some d
 |some x=>match ev x with
  | .int _ n=>if 0<=n then some n.toNat else none
  |_=>none
def m8(m:Nat):PV->Option Nat
 | .int _ n=>if 0<=n/\n<(m:Int)then some n.toNat else none
 |_=>none
abbrev mr:=Option (Nat×Chunk)
def iU(H:al)(fresh st e s b:Nat)(d x:PV):Option (PV×mr):=
 match gE H s x with
 |some (n,cs)=>if n=0 then(match d with
   | .ah=>some (.ah,none)
   | .row c g len=>match H c with
     |some ch=>if ch.gen=g then some (.row c g len,none)else none
     |none=>none
   |_=>none)else
  match d with
  | .ah=>if n*b<=140737488355328 then some (.row fresh st n,some (fresh,⟨e,st,cs,s⟩))else none
  | .row c g len=>match H c with
    |some ch=>if ch.gen=g/\ch.e=e/\len*s<=ch.cells.length/\(len+n)*b<=140737488355328 then
      some (.row c st (len+n),some (c,⟨e,st,ch.cells.take (len*s)++cs,s⟩))else none
    |none=>none
  |_=>none
 |none=>none
def db(s:Nat)(x i:PV):Option (PV×mr):=
 match x with
 | .sl xs=>match m8 xs.length i with
   |some n=>match xs[n]? with
    |some c=>if c.length=s then some (.fp c,none)else none
    |none=>none
   |none=>none
 | .row b g len=>match m8 len i with
   |some n=>some (.ptr b g (n*s),none)
   |none=>none
 |_=>none
def wg(H:al)(n:Nat)(x v:PV):Option (PV×mr):=
 match x,cellsOf v with
 | .ptr b g off,some vs=>match H b with
   |some c=>if c.gen=g/\vs.length=n/\off+n<=c.cells.length then some (.undef,some (b,⟨c.e,c.gen,io c.cells off vs,c.s⟩))else none
   |none=>none
 |_,_=>none
def cx(ev:bK->PV)(H:al)(fresh st:Nat):K->Option (PV×mr)
 | .mv x=>some (ev x,none)
 | .pick c a b=>match ev c with
   | .bool t=>some (if t then ev a else ev b,none)
   |_=>none
 | .new e z=>some (.ptr fresh st 0,some (fresh,⟨e,st,z,0⟩))
 | .box e n x=>match cellsOf (ev x)with
   |some cs=>if cs.length=n then some (.ptr fresh st 0,some (fresh,⟨e,st,cs,0⟩))else none
   |none=>none
 | .build z ps=>(sM z (ps.map fun p=>(p.1,p.2.1,ev p.2.2))).map fun cs=>(.agg cs,none)
 | .bh e s len z ps=>(sM z (ps.map fun p=>(p.1,p.2.1,ev p.2.2))).map fun cs=>(.row fresh st len,some (fresh,⟨e,st,cs,s⟩))
 | .ld ag n x=>match kN H n (ev x)with
   |some cs=>if ag then some (.agg cs,none)else match cs with
    |[c]=>some (c,none)
    |_=>none
   |none=>none
 | .st n x v=>wg H n (ev x) (ev v)
 | .v8 x=>match ev x with
   | .ptr b g o=>some (.ptr b g o,none)
   | .fp cs=>some (.fp cs,none)
   | .aj t v=>some (.aj t v,none)
   | .kM (.func f) as bs=>some (.kM (.func f) as bs,none)
   |_=>none
 | .bin op x y=>(nS op (ev x) (ev y)).map fun v=>(v,none)
 | .mZ op x y=>(DX op (ev x) (ev y)).map fun v=>(v,none)
 | .v9 op x y=>(HT op (ev x) (ev y)).map fun v=>(v,none)
 | .mI op x y=>(DY op (ev x) (ev y)).map fun v=>(v,none)
 | .un op x=>(D0 op (ev x)).map fun v=>(v,none)
 | .conv k x=>match ev x with
   | .int _ n=>some (.int k (k.wrap n),none)
   |_=>none
 | .py x=>match ev x with
   | .str _=>none
   |y=>match gE H 1 y with
    |some (_,cs)=>(qi cs).map fun l=>(.str ⟨l.toArray⟩,none)
    |none=>none
 | .yX x=>match ev x with
   | .str s=>some (.str s,none)
   |_=>none
 | .cL t x=>some (.aj t (ev x),none)
 | .wa f as bs=>some (.kM f (as.map ev) (bs.map ev),none)
 | .m5 e s b z l c=>match ev l,ev c with
   | .int _ l,.int _ c=>if 0<=l/\l<=c/\c*b<=140737488355328 then some (.row fresh st l.toNat,some (fresh,⟨e,st,(List.replicate l.toNat z).flatten,s⟩))else none
   |_,_=>none
 | .jF x lo hi=>match ev x with
   | .str s=>match jh 0 ev lo,jh s.size ev hi with
     |some l,some h=>if l<=h/\h<=s.size then some (.str (s.extract l h),none)else none
     |_,_=>none
   |_=>none
 | .kj s x lo hi=>match ev x with
   | .sl xs=>match jh 0 ev lo,jh xs.length ev hi with
     |some l,some h=>if l<=h/\h<=xs.length/\xs.all (fun c=>c.length==s)then some (.sl ((xs.take h).drop l),none)else none
     |_,_=>none
   | .ah=>match jh 0 ev lo,jh 0 ev hi with
     |some 0,some 0=>some (.ah,none)
     |_,_=>none
   | .row b g len=>match jh 0 ev lo,jh len ev hi with
     |some 0,some h=>if h<=len then some (.row b g h,none)else none
     |_,_=>none
   |_=>none
 | .fa off x=>match ev x with
   | .ptr b g o=>some (.ptr b g (o+off),none)
   | .fp cs=>some (.fp (cs.drop off),none)
   |_=>none
 | .ix s x i=>db s (ev x) (ev i)
 | .sx x i=>match ev x with
   | .str s=>match m8 s.size (ev i)with
     |some n=>some (.int .u8 (s.data.toList.getD n 0).toNat,none)
     |none=>none
   |_=>none
 | .ta t z x=>match ev x with
   | .aF=>some (.bZ [z,.bool false],none)
   | .aj u v=>if u=t then some (.bZ [v,.bool true],none)else some (.bZ [z,.bool false],none)
   |_=>none
 | .ext x i=>match ev x with
   | .bZ vs=>vs[i]?.map fun v=>(v,none)
   |_=>none
 | .dP x=>match ev x with
   | .str s=>some (.int .i64 s.size,none)
   |_=>none
 | .len x=>match ev x with
   | .sl xs=>some (.int .i64 xs.length,none)
   | .ah=>some (.int .i64 0,none)
   | .row _ _ len=>some (.int .i64 len,none)
   |_=>none
 | .app e s b d x=>iU H fresh st e s b (ev d) (ev x)
 | .mx x y=>match ev x,ev y with
   | .int k a,.int _ b=>some (.int k (if b>a then b else a),none)
   |_,_=>none
 | .mn x y=>match ev x,ev y with
   | .int k a,.int _ b=>some (.int k (if b<a then b else a),none)
   |_,_=>none
 | .rz x=>match ev x with
   | .bR .f64 n=>some (.int .u64 n,none)
   |_=>none
 | .we k x=>match ev x with
   | .int _ n=>some (.bR k (k.nearest n),none)
   |_=>none
 | .wb x=>match ev x with
   | .int .u64 n=>some (.bR .f64 n.toNat,none)
   |_=>none
 | .call _ _=>none
 | .m7 _ _=>none
def al.fK(H:al):mr->al
 |none=>H
 |some (b,c)=>H.put b (some c)
structure oQ(P:Program)(aT:World)(E E':Env)(w w':World)(u:mr):Prop where
 le:Le E E'
 inv:Inv P aT E' w'
 heap:E'.H=E.H.fK u
 used:∀b g,E'.K b g->E.K b g\/∃c,u=some (b,c)/\g=c.gen
 HU:∀b c,u=some (b,c)->w.heap.size<=E'.β b\/∃c',E.H b=some c'/\E.β b=E'.β b
 known:E'.F=E.F
 place:∀b,(∀c,u≠some (b,c))->E'.β b=E.β b/\E'.κ b=E.κ b
 size:w.heap.size<=w'.heap.size
 frame:∀i,i<w.heap.size->(∀b c,u=some (b,c)->E.H b≠none->E.β b≠i)->w'.heap[i]?=w.heap[i]?
section
variable{P:Program}{aT:World}{E:Env}{w:World}
theorem oQ.same(hI:Inv P aT E w){w':World}(ha:Alike w w'):oQ P aT E E w w' none:=
 ⟨Le.refl E,hI.alike ha,rfl,fun _ _ h=> .inl h,(by intro b c h;cases h),rfl,fun _ _=>⟨rfl,rfl⟩,by rw[ha.1];exact Nat.le_refl _,fun i _ _=>by rw[ha.1]⟩
theorem oQ.new(hI:Inv P aT E w)(b cap:Nat)(c:Chunk)(hg:∀g',c.gen<=g'->¬E.K b g')
 (hf:∀x,x∈c.cells->x.flat=true)(cs:Array Value)(hl:c.cells.length<=cs.size)(mq:∀i,P.info? c.e=some i->cap*i.size<=cs.size)
 (hR:b9 E c.cells (cs.toList.take c.cells.length)):oQ P aT E (E.new w.heap.size b cap c) w (w.alloc (.cells cs c.e)) (some (b,c)):=
 ⟨N5 hg,adQ hI b cap c hg hf cs hl mq hR,rfl,fun x g h=>by
  rcases h with h|⟨rfl,HV⟩
  ·exact .inl h
  ·exact .inr ⟨c,rfl,HV⟩,(by intro b' c' h;cases h;exact .inl (by simp[Env.new])),rfl,fun x hx=>by
   have e:x≠b:=fun e=>hx c (by rw[e])
   simp[Env.new,e],by simp,fun i hi _=>Below.heap_alloc _ _ _ hi⟩
theorem oQ.set(hI:Inv P aT E w){b:Nat}{c c':Chunk}(hb:E.H b=some c)(he:c'.e=c.e)(hg:c.gen<=c'.gen)
 (hf:∀x,x∈c'.cells->x.flat=true)(oO:Array Value)(hl:c'.cells.length<=oO.size)
 (mq:∀i,P.info? c.e=some i->E.κ b*i.size<=oO.size)(hR:b9 E c'.cells (oO.toList.take c'.cells.length)):
 oQ P aT E (E.set b c') w (World.setBlock w (E.β b) (.cells oO c.e (0,0))) (some (b,c')):=
 ⟨N6 hb (hI.chunk b c hb).last hg,adR hI hb he hg hf oO hl mq hR,rfl,fun x g h=>by
  rcases h with h|⟨rfl,HV⟩
  ·exact .inl h
  ·exact .inr ⟨c',rfl,HV⟩,(by intro b' gQ h;cases h;exact .inr ⟨c,hb,rfl⟩),rfl,fun _ _=>⟨rfl,rfl⟩,by simp[World.setBlock],fun i _ hn=>DV _ _ _ _ (fun e=>hn b c' rfl (by rw[hb];simp) e.symm)⟩
end
end Go.Pi
end
section
namespace Go.Pi
open Go.RowKit
section
variable{P:Program}
theorem y4{t:TypeId}{i:TypeInfo}(h:P.info? t=some i)(w:World):(typeInfo t).run P w= .ok i w:=by simp[typeInfo,h]
theorem pz{t:TypeId}{n:Nat}(h:im P t=some n)(w:World):(sizeOf t).run P w= .ok n w:=by
 unfold im at h;cases hi:P.info? t with
 |none=>simp[hi]at h
 |some i=>simp[hi]at h;simp[sizeOf,y4 hi,h]
theorem D1{t:TypeId}{b:Bool}(h:yY P t=some b)(w:World):(isAgg t).run P w= .ok b w:=by
 unfold yY at h;split at h
 ·rename_i hu;injection h with h;subst h;simp[isAgg,run_underlying hu]
 ·rename_i hu;injection h with h;subst h;simp[isAgg,run_underlying hu]
 ·rename_i d gj lI hu;injection h with h;subst h;simp only[isAgg,Sem.run_bind,run_underlying hu,Result.andThen_ok];cases d<;>first|rfl|(exact absurd hu (gj _))|(exact absurd hu (lI _ _))
 ·cases h
theorem adS{vs:List Value}:∀{xs:List PV},yZ vs=some xs->∀E,b9 E xs vs/\∀x,x∈xs->x.flat=true:=by
 induction vs with
 |nil=>intro xs h E;simp[yZ]at h;subst h;exact⟨.nil E,by simp⟩
 |cons v vs ih=>
  intro xs h E;simp only[yZ,bind,Option.bind]at h;cases hv:yV v with
  |none=>simp[hv]at h
  |some x=>
   cases hr:yZ vs with
   |none=>simp[hv,hr]at h
   |some r=>
    simp[hv,hr]at h;subst h;obtain⟨h1,h2⟩:=HR hv E;obtain⟨h3,h4⟩:=ih hr E;exact⟨.cons h1 h3,by intro y hy;rcases List.mem_cons.1 hy with rfl|hy;exact h2;exact h4 y hy⟩
theorem AO{t:TypeId}{z:List PV}(h:oP P t=some z):∃(i:TypeInfo)(v:Value),P.info? t=some i/\i.zero=some v/\(∀w,(zeroValue t).run P w= .ok v w)/\∀E,b9 E z v.cells.toList/\∀x,x∈z->x.flat=true:=by
 unfold oP at h;cases hi:P.info? t with
 |none=>simp[hi]at h
 |some i=>
  cases hz:i.zero with
  |none=>simp[hi,hz]at h
  |some v=>
   simp[hi,hz]at h;exact⟨i,v,rfl,hz,fun w=>by simp[zeroValue,y4 hi,hz],fun E=>adS h E⟩
theorem HW{E:Env}{x:PV}{v:Value}{cs:List PV}(h:bD E x v)(hc:cellsOf x=some cs):b9 E cs v.cells.toList/\∀c,c∈cs->c.flat=true:=by
 have one:∀(y:PV)(u:Value),bD E y u->y.flat=true->u.oneCell'=true->b9 E [y] u.cells.toList/\∀c,c∈[y]->c.flat=true:=fun y u hy hf ho=>by
  refine⟨?_,by simpa using hf⟩;have:u.cells=#[u]:=by cases u<;>first|rfl|simp[Value.oneCell']at ho
  rw[this];exact .cons hy (.nil E)
 cases x with
 |agg l=>
  simp only[cellsOf,Option.some.injEq]at hc;subst hc;obtain⟨vs,rfl,hr,hf⟩:=h.DU;exact⟨by simpa[Value.cells]using hr,hf⟩
 |bZ l=>simp[cellsOf]at hc
 |undef=>simp[cellsOf]at hc
 |_=>simp only[cellsOf,Option.some.injEq]at hc;subst hc;exact one _ _ h rfl (h.AM rfl)
theorem D2(a:Addr)(m n:Nat):(a.add m).add n=a.add (m+n):=by
 unfold Addr.add;by_cases h1:m=0<;>by_cases h2:n=0<;>simp[h1,h2,Nat.add_assoc]
theorem run_loadCellsFrom(w:World)(a:Addr):∀(n i:Nat)(rC:Array Value)(U:List Value),U.length=n->(∀j u,U[j]?=some u->w.cell? (a.add (i+j))=some u)->
 (loadCellsFrom a i n rC).run P w= .ok (rC++U.toArray) w:=by
 intro n
 induction n with
 |zero=>intro i rC U hl _;cases U with|nil=>simp[loadCellsFrom]|cons=>simp at hl
 |succ n ih=>
  intro i rC U hl h;cases U with
  |nil=>simp at hl
  |cons u U=>
   have h0:=h 0 u rfl;rw[Nat.add_zero]at h0;simp only[loadCellsFrom,Sem.run_bind,run_load,h0,Result.andThen_ok];rw[ih (i+1) (rC.push u) U (by simpa using hl) (fun j v hv=>by have:=h (j+1) v (by simpa using hv);rwa [show i+1+j=i+(j+1)by omega])];congr 1;apply Array.ext';simp
theorem run_loadCells(w:World)(a:Addr)(U:List Value)(h:∀j u,U[j]?=some u->w.cell? (a.add j)=some u):(loadCells a U.length).run P w= .ok U.toArray w:=by
 unfold loadCells;rw[run_loadCellsFrom w a U.length 0 #[] U rfl (fun j u hu=>by rw[Nat.zero_add];exact h j u hu)];simp
def jG(cs:Array Value)(i:Nat)(vs:List Value):Array Value:=(cs.toList.take i++vs++cs.toList.drop (i+vs.length)).toArray
theorem AP(cs:Array Value)(i:Nat)(vs:List Value)(h:i+vs.length<=cs.size):(jG cs i vs).size=cs.size:=by
 simp[jG];omega
theorem adT(w:World)(k i:Nat)(cs:Array Value)(e:TypeId)(v:Value)(h:w.heap[k]?=some (.cells cs e (0,0))):
 w.setCell ⟨k,i,none⟩ v=World.setBlock w k (.cells (cs.setIfInBounds i v) e (0,0)):=by
 unfold World.setCell World.setBlock;congr 1;apply Array.ext_getElem?;intro j;rw[Array.getElem?_modify,Array.getElem?_setIfInBounds];have hk:=(Array.getElem?_eq_some_iff.1 h).1;by_cases e1:k=j
 ·subst e1;have hg:=(Array.getElem?_eq_some_iff.1 h).2;simp[hk,hg]
 ·simp[e1]
theorem adU(w:World)(k:Nat)(o:Obj)(h:w.heap[k]?=some o):World.setBlock w k o=w:=by
 have:w.heap.setIfInBounds k o=w.heap:=by
  apply Array.ext_getElem?;intro j;rw[Array.getElem?_setIfInBounds];have hk:=(Array.getElem?_eq_some_iff.1 h).1;by_cases e1:k=j
  ·subst e1;have hg:=(Array.getElem?_eq_some_iff.1 h).2;simp[hk,hg]
  ·simp[e1]
 unfold World.setBlock;rw[this]
theorem N8(cs:Array Value)(o:Nat)(v:Value)(vs:List Value)(aV:o<cs.size):jG (cs.setIfInBounds o v) (o+1) vs=jG cs o (v::vs):=by
 unfold jG;congr 1;apply List.ext_getElem?;intro j;simp only[Array.toList_setIfInBounds,List.length_cons];have bW:o<cs.toList.length:=by simp;omega
 rw[List.append_assoc,List.append_assoc,List.getElem?_append,List.getElem?_append,List.getElem?_append,List.getElem?_append];simp only[List.length_take,List.length_set];have m1:min (o+1) cs.toList.length=o+1:=by omega
 have m2:min o cs.toList.length=o:=by omega
 rw[m1,m2];by_cases h1:j<o
 ·rw[if_pos (by omega),if_pos h1];simp only[List.getElem?_take,if_pos h1,if_pos (show j<o+1 by omega)];rw[List.getElem?_set_ne (by omega)]
 ·by_cases h2:j=o
  ·subst h2;rw[if_pos (by omega),if_neg (by omega),if_pos (by simp)];simp only[List.getElem?_take,if_pos (show j<j+1 by omega)];rw[List.getElem?_set_self bW];simp
  ·rw[if_neg (by omega),if_neg h1];obtain⟨d,rfl⟩:∃d,j=o+1+d:=⟨j - (o+1),by omega⟩;have s1:o+1+d - (o+1)=d:=by omega
   have s2:o+1+d - o=d+1:=by omega
   rw[s1,s2];simp only[List.length_cons,List.getElem?_cons_succ,Nat.add_lt_add_iff_right];by_cases h3:d<vs.length
   ·rw[if_pos h3,if_pos h3]
   ·rw[if_neg h3,if_neg h3];rw[List.getElem?_drop,List.getElem?_drop,List.getElem?_set_ne (by omega)];congr 1;omega
theorem N9(k:Nat)(e:TypeId):∀(vs:List Value)(w:World)(o i:Nat)(cs:Array Value),(∀v,v∈vs->v.oneCell'=true)->w.heap[k]?=some (.cells cs e (0,0))->o+i+vs.length<=cs.size->
 (storeCells ⟨k,o,none⟩ vs i).run P w= .ok () (World.setBlock w k (.cells (jG cs (o+i) vs) e (0,0))):=by
 intro vs
 induction vs with
 |nil=>
  intro w o i cs _ hb _;simp only[storeCells,Sem.run_pure];congr 1;have:jG cs (o+i) []=cs:=by unfold jG;simp
  rw[this,adU w k _ hb]
 |cons v vs ih=>
  intro w o i cs y5 hb aV;simp only[List.length_cons]at aV;have hk:=(Array.getElem?_eq_some_iff.1 hb).1;have ha:(⟨k,o,none⟩:Addr).add i=⟨k,o+i,none⟩:=by unfold Addr.add;split<;>simp_all
  have hc:w.cell? ⟨k,o+i,none⟩=some cs[o+i]:=by simp[World.cell?,hb]
  have hf:w.frozen? ⟨k,o+i,none⟩=false:=by simp[World.frozen?,hb]
  simp only[storeCells,Sem.run_bind,ha,run_store P w _ v .plain (y5 v (by simp)),hc,hf,Bool.false_eq_true,if_false,Result.andThen_ok];rw[adT w k (o+i) cs e v hb];rw[ih (World.setBlock w k (.cells (cs.setIfInBounds (o+i) v) e (0,0))) o (i+1) (cs.setIfInBounds (o+i) v) (fun u hu=>y5 u (by simp[hu])) (N7 _ _ _ hk) (by simp;omega)];congr 1;have e1:=N8 cs (o+i) v vs (by omega);rw[show o+(i+1)=o+i+1 from rfl];rw[e1];unfold World.setBlock;congr 1;apply Array.ext_getElem?;intro j;simp only[Array.getElem?_setIfInBounds];by_cases e2:k=j
  ·subst e2;simp[hk]
  ·simp[e2]
end
end Go.Pi
end
section
namespace Go.Pi
open Go.RowKit
section
variable{P:Program}{aT:World}{E:Env}{w:World}
def iu(P:Program)(aT:World)(E:Env)(w:World)(r:Result Next)(v:PV)(u:mr):Prop:=
 ∃n w' E' z,r= .ok n w'/\(n= .value z\/(n= .skip/\z=undef))/\bD E' v z/\oQ P aT E E' w w' u
theorem iu.here(hI:Inv P aT E w){r:Result Next}{v:PV}{z:Value}(hr:r= .ok (.value z) w)(h:bD E v z):iu P aT E w r v none:=
 ⟨_,w,E,z,hr,.inl rfl,h,.same hI (Alike.refl w)⟩
theorem bD.AQ{b:Bool}{v:Value}(h:bD E (.bool b) v):v= .bool b:=by cases h;rfl
theorem bD.qj{k:IntKind}{n:Int}{v:Value}(h:bD E (.int k n) v):v= .int k n:=by cases h;rfl
theorem bD.AR{s:ByteArray}{v:Value}(h:bD E (.str s) v):v= .string s:=by cases h;rfl
theorem bD.adV{k:FloatKind}{n:Nat}{v:Value}(h:bD E (.bR k n) v):v= .float k n:=by cases h;rfl
theorem bD.pA{v:Value}(h:bD E .bF v):v= .pointer none:=by cases h;rfl
theorem bD.wh{v:Value}(h:bD E .aF v):v= .nilIface:=by cases h;rfl
theorem bD.AU{v:Value}(h:bD E .ah v):v= .slice none 0 0:=by cases h;rfl
theorem bD.AV{t:TypeId}{x:PV}{v:Value}(h:bD E (.aj t x) v):∃u,v= .iface t u/\bD E x u:=by cases h with|aj t x v h=>exact⟨v,rfl,h⟩
theorem bD.D3{cs:List PV}{v:Value}(h:bD E (.fp cs) v):∃(a:Addr)(U:Nat->Value),v= .pointer (some a)/\(∀c,c∈cs->c.flat=true)/\(∀j,j<cs.length->E.F (a.add j)=some (U j))/\∀(j:Nat)(hj:j<cs.length),bD E cs[j] (U j):=by
 cases h with|fp _ a U hf hF h=>exact⟨a,U,rfl,hf,hF,h⟩
theorem bD.wj{b g o:Nat}{v:Value}(h:bD E (.ptr b g o) v):(∃a,v= .pointer (some a))/\E.K b g/\∀c,E.H b=some c->c.gen=g->v= .pointer (some ⟨E.β b,o,none⟩):=by
 cases h with|ptr _ _ _ _ hv hk h=>exact⟨hv,hk,h⟩
theorem bD.wk{b g l:Nat}{v:Value}(h:bD E (.row b g l) v):(∃a c,v= .slice (some a) l c/\l<=c)/\E.K b g/\∀c,E.H b=some c->c.gen=g->l<=E.κ b/\v= .slice (some ⟨E.β b,0,none⟩) l (E.κ b):=by
 cases h with|row _ _ _ _ hv hk h=>exact⟨hv,hk,h⟩
theorem D4(hI:Inv P aT E w){b:Nat}{c:Chunk}(hc:E.H b=some c)(off n:Nat)(hn:off+n<=c.cells.length):
 ∃U:List Value,U.length=n/\b9 E ((c.cells.drop off).take n) U/\∀j u,U[j]?=some u->w.cell? ⟨E.β b,off+j,none⟩=some u:=by
 obtain⟨cs,fC,h1,_,h2⟩:=(hI.chunk b c hc).cells;refine⟨((cs.toList.take c.cells.length).drop off).take n,by simp;omega,(h2.drop off).take n,fun j u hu=>?_⟩;rw[List.getElem?_take]at hu;split at hu
 ·rw[List.getElem?_drop,List.getElem?_take]at hu;split at hu
  ·simp[World.cell?,fC];simpa using hu
  ·cases hu
 ·cases hu
theorem Oa(hI:Inv P aT E w){n:Nat}{x:PV}{v:Value}{cs:List PV}(hx:bD E x v)(h:kN E.H n x=some cs):
 ∃(a:Addr)(U:List Value),v= .pointer (some a)/\U.length=n/\b9 E cs U/\(∀c,c∈cs->c.flat=true)/\∀j u,U[j]?=some u->w.cell? (a.add j)=some u:=by
 cases x with
 |ptr b g off=>
  obtain⟨_,_,hp⟩:=hx.wj;simp only[kN]at h;cases hb:E.H b with
  |none=>simp[hb]at h
  |some c=>
   simp only[hb]at h;split at h
   ·rename_i hg;injection h with h;subst h;obtain⟨U,h1,h2,h3⟩:=D4 hI hb off n hg.2;refine⟨_,U,hp c hb hg.1,h1,h2,fun x hx=>(hI.chunk b c hb).flat x (List.mem_of_mem_drop (List.mem_of_mem_take hx)),fun j u hu=>?_⟩;have:(⟨E.β b,off,none⟩:Addr).add j=⟨E.β b,off+j,none⟩:=by unfold Addr.add;split<;>simp_all
    rw[this];exact h3 j u hu
   ·cases h
 |fp l=>
  obtain⟨a,U,rfl,hf,hF,hr⟩:=hx.D3;simp only[kN]at h;split at h
  ·rename_i hn;injection h with h;subst h;refine⟨a,(List.range n).map U,rfl,by simp,.mk (by simp;omega) (fun i hi=>by simp at hi⊢;exact hr i (by omega)),fun c hc=>hf c (List.mem_of_mem_take hc),fun j u hu=>?_⟩;simp only[List.getElem?_map,Option.map_eq_some_iff]at hu;obtain⟨i,hi,rfl⟩:=hu;rw[List.getElem?_eq_some_iff]at hi;obtain⟨hi,rfl⟩:=hi;simp at hi⊢;exact hI.cell _ _ (hF j (by omega))
  ·cases h
 |_=>simp[kN]at h
theorem adW(hI:Inv P aT E w){t:TypeId}{ag:Bool}{s:Nat}{x:PV}{v:Value}{r:PV}{u:mr}(sN:yY P t=some ag)(hs:im P t=some s)(hx:bD E x v)
 (h:(match kN E.H (if ag then s else 1) x with
  |some cs=>if ag then some (PV.agg cs,(none:mr))else match cs with
   |[c]=>some (c,none)
   |_=>none
  |none=>none)=some (r,u)):iu P aT E w ((do pure (Next.value (<-Instr.loadAt t v)):Sem Next).run P w) r u:=by
 cases hc:kN E.H (if ag then s else 1) x with
 |none=>simp[hc]at h
 |some cs=>
  obtain⟨a,U,rfl,hl,hr,hf,hm⟩:=Oa hI hx hc;simp only[hc]at h;cases ag with
  |true=>
   simp at h;obtain⟨rfl,rfl⟩:=h;refine .here hI (z:= .agg U.toArray) ?_ (hr.agg hf);have hU:U.length=s:=by simpa using hl
   simp only[Instr.loadAt,Instr.sureAddr,loadVar,Sem.run_bind,Sem.run_pure,Result.andThen_ok,D1 sN,if_true,pz hs,<-hU,run_loadCells w a U hm]
  |false=>
   simp only[Bool.false_eq_true,if_false]at h hl
   match U,hl with
   |[z],_=>
    obtain⟨aW,hr⟩:=hr
    match cs,aW,h with
    |[c],_,h=>
     simp at h;obtain⟨rfl,rfl⟩:=h;refine .here hI (z:=z) ?_ (hr 0 c z rfl rfl);have h0:=hm 0 z rfl;have HX:a.add 0=a:=by simp[Addr.add]
     rw[HX]at h0;simp[Instr.loadAt,Instr.sureAddr,loadVar,D1 sN,h0]
theorem adX(cs:Array Value)(i n:Nat)(vs:List Value)(h:i+vs.length<=n)(hn:n<=cs.size):(jG cs i vs).toList.take n=(cs.toList.take n).take i++vs++(cs.toList.take n).drop (i+vs.length):=by
 have e1:(jG cs i vs).toList=cs.toList.take i++vs++cs.toList.drop (i+vs.length):=by simp[jG]
 rw[e1,List.take_append,List.take_append];have l1:(List.take i cs.toList).length=i:=by simp;omega
 rw[List.take_take,l1];congr 1
 ·congr 1
  ·rw[List.take_take];congr 1;omega
  ·rw[List.take_of_length_le (by omega)]
 ·simp only[List.length_append,l1];rw[List.drop_take]
theorem adY(hI:Inv P aT E w){t:TypeId}{s:Nat}{x y:PV}{v z:Value}{r:PV}{u:mr}(hs:im P t=some s)(hx:bD E x v)(hy:bD E y z)
 (h:wg E.H s x y=some (r,u)):iu P aT E w ((do Instr.storeAt t v z;pure Next.skip:Sem Next).run P w) r u:=by
 unfold wg at h;cases x with
 |ptr b g off=>
  cases wm:cellsOf y with
  |none=>simp[wm]at h
  |some vs=>
   simp only[wm]at h;cases hb:E.H b with
   |none=>simp[hb]at h
   |some c=>
    simp only[hb]at h;split at h
    ·rename_i hg;obtain⟨wo,sO,D5⟩:=hg;injection h with h;injection h with h1 h2;subst h1;subst h2;obtain⟨_,_,hp⟩:=hx.wj;have hv:=hp c hb wo;subst hv;obtain⟨hr,hf⟩:=HW hy wm;have hh:=hI.chunk b c hb;obtain⟨cs,fC,k1,k2,k3⟩:=hh.cells;have bW:z.cells.toList.length=s:=by rw[<-hr.1];exact sO
     have y5:∀q,q∈z.cells.toList->q.oneCell'=true:=by
      intro q hq;obtain⟨i,hi,rfl⟩:=List.getElem_of_mem hq;exact(hr.get i (by rw[hr.1];exact hi)).AM (hf _ (List.getElem_mem _))
     have bC:=N9 (P:=P) (E.β b) c.e z.cells.toList w off 0 cs y5 fC (by omega);have mu:(io c.cells off vs).length=c.cells.length:=by simp[io];omega
     refine⟨.skip,_,_,undef,?_,.inr ⟨rfl,rfl⟩,.undef _,oQ.set (c':=⟨c.e,c.gen,io c.cells off vs,c.s⟩) hI hb rfl (Nat.le_refl _) ?_ (jG cs off z.cells.toList) ?_ ?_ ?_⟩
     ·have fL:z.cells.size=s:=by rw[<-Array.length_toList];exact bW
      simp only[Instr.storeAt,Instr.sureAddr,storeVar,Sem.run_bind,Sem.run_pure,Result.andThen_ok,pz hs,fL,ne_eq,not_true,if_false,Sem.run_ite];rw[bC];simp
     ·intro x hx;simp only[io,List.mem_append]at hx;rcases hx with(hx|hx)|hx
      ·exact hh.flat x (List.mem_of_mem_take hx)
      ·exact hf x hx
      ·exact hh.flat x (List.mem_of_mem_drop hx)
     ·rw[AP _ _ _ (by omega)];show(io c.cells off vs).length<=_;omega
     ·intro i hi;rw[AP _ _ _ (by omega)];exact k2 i hi
     ·show b9 E (io c.cells off vs) (List.take (io c.cells off vs).length _);rw[mu,adX cs off _ _ (by omega) k1];unfold io;have nT:vs.length=z.cells.toList.length:=hr.1;rw[nT];exact((k3.take off).append hr).append (k3.drop _)
    ·cases h
 |_=>simp at h
theorem Ob(hI:Inv P aT E w){fresh st e:Nat}(eF:∀g,st<=g->¬E.K fresh g){cs:List PV}{vs:Array Value}(hr:b9 E cs vs.toList)(hf:∀c,c∈cs->c.flat=true)
 {r:Result Next}(bC:r= .ok (.value (.pointer (some ⟨w.heap.size,0,none⟩))) (w.alloc (.cells vs e))):iu P aT E w r (.ptr fresh st 0) (some (fresh,⟨e,st,cs,0⟩)):=by
 have hl:cs.length=vs.size:=by rw[<-Array.length_toList];exact hr.1
 have hp:=oQ.new (P:=P) hI fresh 0 ⟨e,st,cs,0⟩ (fun g hg=>eF g hg) hf vs (by show cs.length<=_;omega) (fun i _=>by omega) (by
  show b9 E cs (List.take cs.length _);rw[List.take_of_length_le (by rw[<-hr.1];exact Nat.le_refl _)];exact hr)
 refine⟨_,_,_,_,bC,.inl rfl,.ptr fresh st 0 _ ⟨_,rfl⟩ (Or.inr ⟨rfl,rfl⟩:(E.new w.heap.size fresh 0 ⟨e,st,cs,0⟩).K fresh st) fun c _ _=>?_,hp⟩;simp[Env.new]
theorem HY(hI:Inv P aT E w){fresh st e s len cap:Nat}(eF:∀g,st<=g->¬E.K fresh g){cs:List PV}{vs:Array Value}(aV:cs.length<=vs.size)(mq:∀i,P.info? e=some i->cap*i.size<=vs.size)(nU:len<=cap)
 (hr:b9 E cs (vs.toList.take cs.length))(hf:∀c,c∈cs->c.flat=true){w1:World}(ha:Alike w w1)
 {r:Result Next}(bC:r= .ok (.value (.slice (some ⟨w1.heap.size,0,none⟩) len cap)) (w1.alloc (.cells vs e))):iu P aT E w r (.row fresh st len) (some (fresh,⟨e,st,cs,s⟩)):=by
 have hp:=oQ.new (P:=P) (hI.alike ha) fresh cap ⟨e,st,cs,s⟩ (fun g hg=>eF g hg) hf vs aV mq hr;refine⟨_,_,_,_,bC,.inl rfl,.row fresh st len _ ⟨_,_,rfl,nU⟩ (Or.inr ⟨rfl,rfl⟩:(E.new w1.heap.size fresh cap ⟨e,st,cs,s⟩).K fresh st) fun c _ _=>?_,⟨hp.le,hp.inv,hp.heap,hp.used,(by rw[<-ha.1];exact hp.HU),hp.known,hp.place,by have:=hp.size;rw[ha.1]at this;exact this,fun i hi hn=>?_⟩⟩
 ·simp[Env.new,nU]
 ·rw[hp.frame i (by rw[ha.1];exact hi) hn,ha.1]
end
end Go.Pi
end
section
namespace Go.Pi
open Go.RowKit
section
variable{P:Program}{aT:World}{E:Env}{w:World}
theorem adZ:∀(vs:List Value)(k off:Nat)(cs:Array Value),off+k+vs.length<=cs.size->
 (vs.zipIdx k).foldl (fun a p=>a.setIfInBounds (off+p.2) p.1) cs=jG cs (off+k) vs:=by
 intro vs
 induction vs with
 |nil=>intro k off cs _;simp[jG]
 |cons v vs ih=>
  intro k off cs h;simp only[List.length_cons]at h;rw[List.zipIdx_cons,List.foldl_cons,ih (k+1) off _ (by simp;omega),show off+(k+1)=off+k+1 from rfl,N8 cs (off+k) v vs (by omega)]
theorem ad0{cells vs:List PV}{cs:Array Value}{us:List Value}(h:b9 E cells cs.toList)(hf:∀c,c∈cells->c.flat=true)(k:b9 E vs us)(kf:∀c,c∈vs->c.flat=true)(o:Nat)(ho:o+vs.length<=cells.length):
 b9 E (io cells o vs) (jG cs o us).toList/\(∀c,c∈io cells o vs->c.flat=true)/\(io cells o vs).length=cells.length/\(jG cs o us).size=cs.size:=by
 have hl:cells.length=cs.toList.length:=h.1;have kl:vs.length=us.length:=k.1
 refine⟨?_,?_,by simp[io];omega,AP _ _ _ (by have:cs.toList.length=cs.size:=by simp
                                             omega)⟩
 ·unfold io jG;rw[kl];exact((h.take o).append k).append (h.drop _)
 ·intro x hx;simp only[io,List.mem_append]at hx;rcases hx with(hx|hx)|hx
  ·exact hf x (List.mem_of_mem_take hx)
  ·exact kf x hx
  ·exact hf x (List.mem_of_mem_drop hx)
theorem Oc{place:Nat->Option (Nat×Nat)}{ρ:Operand->Value}{ev:bK->PV}(cF:∀x y,di x=some y->bD E (ev y) (ρ x)):
 ∀(ps:List (Nat×Operand))(qs:List (Nat×Nat×bK))(z:List PV)(cells:Array Value)(cs:List PV),sL place ps=some qs->b9 E z cells.toList->(∀c,c∈z->c.flat=true)->
  sM z (qs.map fun p=>(p.1,p.2.1,ev p.2.2))=some cs->∃kZ:Array Value,Instr.fill place cells (ps.map fun p=>(p.1,ρ p.2))=some kZ/\b9 E cs kZ.toList/\(∀c,c∈cs->c.flat=true)/\cs.length=z.length:=by
 intro ps
 induction ps with
 |nil=>
  intro qs z cells cs hq hz hf h;simp only[sL,Option.some.injEq]at hq;subst hq;simp only[List.map_nil,sM,Option.some.injEq]at h;subst h;exact⟨cells,rfl,hz,hf,rfl⟩
 |cons p ps ih=>
  obtain⟨i,x⟩:=p;intro qs z cells cs hq hz hf h;simp only[sL,bind,Option.bind]at hq;cases hp:place i with
  |none=>simp[hp]at hq
  |some os=>
   obtain⟨o,s⟩:=os;cases hx:di x with
   |none=>simp[hp,hx]at hq
   |some y=>
    cases hr:sL place ps with
    |none=>simp[hp,hx,hr]at hq
    |some r=>
     simp[hp,hx,hr]at hq;subst hq;simp only[List.map_cons,sM]at h;cases hc:cellsOf (ev y)with
     |none=>simp[hc]at h
     |some vs=>
      simp only[hc]at h;split at h
      ·rename_i sP;obtain⟨k1,k2⟩:=HW (cF x y hx) hc;obtain⟨s1,s2,s3,s4⟩:=ad0 hz hf k1 k2 o (by omega);obtain⟨kZ,f1,f2,f3,f4⟩:=ih r _ (jG cells o (ρ x).cells.toList) cs hr s1 s2 h;refine⟨kZ,?_,f2,f3,f4.trans s3⟩;have fL:(ρ x).cells.size=s:=by rw[<-Array.length_toList,<-k1.1];exact sP.1
       have ew:cells.size=z.length:=by rw[<-Array.length_toList];exact hz.1.symm
       simp only[List.map_cons,Instr.fill,hp];rw[if_neg (by simp[fL];omega)];have ad1:(ρ x).cells.zipIdx.foldl (fun cs q=>cs.setIfInBounds (o+q.2) q.1) cells=jG cells o (ρ x).cells.toList:=by
        rw[<-Array.foldl_toList,Array.toList_zipIdx];rw[adZ _ 0 o cells (by simp;omega)];simp
       rw[ad1];exact f1
      ·cases h
theorem ad2(w:World):∀(fs:List Field)(l:List (Nat×Nat)),y3 P fs=some l->(fs.mapM fun f=>(do pure (f.offset,<-sizeOf f.type):Sem (Nat×Nat))).run P w= .ok l w:=by
 intro fs
 induction fs with
 |nil=>intro l h;simp[y3]at h;subst h;simp
 |cons f fs ih=>
  intro l h;simp only[y3,bind,Option.bind]at h;cases hs:im P f.type with
  |none=>simp[hs]at h
  |some s=>
   cases hr:y3 P fs with
   |none=>simp[hs,hr]at h
   |some r=>
    simp[hs,hr]at h;subst h;rw[List.mapM_cons];simp only[Sem.run_bind,pz hs,Result.andThen_ok,Sem.run_pure,ih r hr]
theorem ad3(hI:Inv P aT E w){ρ:Operand->Value}{ev:bK->PV}(cF:∀x y,di x=some y->bD E (ev y) (ρ x)){t:TypeId}{ps:Array (Nat×Operand)}{z cs:List PV}{l:List (Nat×Nat)}{qs:List (Nat×Nat×bK)}
 (hz:oP P t=some z)(hl:HS P t=some l)(hq:sL (fun i=>l[i]?) ps.toList=some qs)(h:sM z (qs.map fun p=>(p.1,p.2.1,ev p.2.2))=some cs):
 iu P aT E w ((do pure (Next.value (<-Instr.build t (ps.map fun p=>(p.1,ρ p.2)))):Sem Next).run P w) (.agg cs) none:=by
 obtain⟨i,v,_,_,y6,qk⟩:=AO hz;obtain⟨D6,HZ⟩:=qk E;obtain⟨kZ,f1,f2,f3,_⟩:=Oc cF ps.toList qs z v.cells cs hq D6 HZ h;refine .here hI (z:= .agg kZ) ?_ (by have:=f2.agg f3;simpa using this);unfold HS at hl;cases hu:P.underlying t with
 |none=>simp[hu]at hl
 |some d=>
  cases d with
  |struct fs=>
   simp only[hu]at hl;have hm:=ad2 (P:=P) w fs.toList l hl;simp only[Instr.build,Sem.run_bind,y6,Result.andThen_ok,run_underlying hu];rw[Array.mapM_eq_mapM_toList];simp only[Sem.run_map,hm,Result.andThen_ok];have ad4:(fun x:Nat=>l.toArray[x]?)=fun i:Nat=>l[i]?:=by funext j;simp
   have y7:(ps.map fun p=>(p.1,ρ p.2)).toList=ps.toList.map fun p=>(p.1,ρ p.2):=by simp
   rw[y7];simp only[ad4,f1,Sem.run_pure,Result.andThen_ok]
  |_=>simp[hu]at hl
theorem ad5{α:Type}(z:List α)(n i:Nat)(h:i<n*z.length):((List.replicate n z).flatten)[i]?=z[i % z.length]?:=by
 induction n generalizing i with
 |zero=>simp at h
 |succ n ih=>
  rw[List.replicate_succ,List.flatten_cons,List.getElem?_append];split
  ·rename_i hi;rw[Nat.mod_eq_of_lt hi]
  ·rename_i hi;have hz:0<z.length:=by
    rcases Nat.eq_zero_or_pos z.length with h0|h0
    ·rw[h0]at h;simp at h
    ·exact h0
   rw[Nat.succ_mul]at h;rw[ih (i - z.length) (by omega),Nat.mod_eq_sub_mod (by omega:i≥z.length)]
theorem Od{z:List PV}{v:Value}(hR:b9 E z v.cells.toList)(hs:0<z.length)(m:Nat):
 b9 E ((List.replicate m z).flatten) ((Array.range (m*z.length)).map (v.cells[·% v.cells.size]!)).toList:=by
 have fL:v.cells.size=z.length:=by rw[<-Array.length_toList];exact hR.1.symm
 refine⟨by simp,fun i c u hc hu=>?_⟩;have hi:i<m*z.length:=by
  have:=(List.getElem?_eq_some_iff.1 hc).1;simpa using this
 rw[ad5 z m i hi]at hc;have hm:i % z.length<z.length:=Nat.mod_lt _ hs;refine hR.2 (i % z.length) c u hc ?_;simp only[Array.toList_map,Array.toList_range,List.getElem?_map,List.getElem?_range hi,Option.map_some,Option.some.injEq]at hu;rw[<-hu,fL];simp[fL,hm]
theorem Oe{z:List PV}(hf:∀c,c∈z->c.flat=true)(m:Nat):∀c,c∈(List.replicate m z).flatten->c.flat=true:=by
 intro c hc;simp only[List.mem_flatten,List.mem_replicate]at hc;obtain⟨l,⟨_,rfl⟩,hc⟩:=hc;exact hf c hc
theorem ad6(hI:Inv P aT E w){ρ:Operand->Value}{ev:bK->PV}(cF:∀x y,di x=some y->bD E (ev y) (ρ x)){fresh st:Nat}(eF:∀g,st<=g->¬E.K fresh g){t e s len:Nat}{ps:Array (Nat×Operand)}{z cs:List PV}{qs:List (Nat×Nat×bK)}
 (he:P.underlying t=some (.slice e))(hs:im P e=some s)(dj:s≠0)(aAy:len*s<=2 ^ 24)(hz:oP P e=some z)(k7:z.length=s)
 (hq:sL (fun i=>some (i*s,s)) ps.toList=some qs)(h:sM ((List.replicate len z).flatten) (qs.map fun p=>(p.1,p.2.1,ev p.2.2))=some cs):
 iu P aT E w ((do pure (Next.value (<-Instr.buildSlice t len (ps.map fun p=>(p.1,ρ p.2)))):Sem Next).run P w) (.row fresh st len) (some (fresh,⟨e,st,cs,s⟩)):=by
 obtain⟨i,v,hi,_,y6,qk⟩:=AO hz;obtain⟨D6,HZ⟩:=qk E;have wq:∀i,P.info? e=some i->i.size=s:=by intro i hi;unfold im at hs;simpa[hi]using hs
 have AW:v.cells.size=s:=by rw[<-Array.length_toList,<-D6.1];exact k7
 have AX:=Od D6 (by omega) len;rw[k7]at AX;have key:∀cells:Array Value,b9 E ((List.replicate len z).flatten) cells.toList->cells.size=len*s->∃kZ:Array Value,Instr.fill (fun i=>some (i*s,s)) cells (ps.toList.map fun p=>(p.1,ρ p.2))=some kZ/\b9 E cs kZ.toList/\(∀c,c∈cs->c.flat=true)/\cs.length=len*s:=by
  intro cells hc hl;obtain⟨kZ,f1,f2,f3,f4⟩:=Oc cF ps.toList qs _ cells cs hq hc (Oe HZ len) h;exact⟨kZ,f1,f2,f3,by rw[f4];simp[k7]⟩
 have y7:(ps.map fun p=>(p.1,ρ p.2)).toList=ps.toList.map fun p=>(p.1,ρ p.2):=by simp
 have fin:∀kZ:Array Value,b9 E cs kZ.toList->(∀c,c∈cs->c.flat=true)->cs.length=len*s->∀r,r= .ok (.value (.slice (some ⟨w.heap.size,0,none⟩) len len)) (w.alloc (.cells kZ e))->iu P aT E w r (.row fresh st len) (some (fresh,⟨e,st,cs,s⟩)):=by
  intro kZ f2 f3 f4 r hr;have fL:kZ.size=len*s:=by rw[<-Array.length_toList,<-f2.1];exact f4
  refine HY hI eF (by omega) (fun i hi=>by rw[wq i hi,fL];exact Nat.le_refl _) (Nat.le_refl _) ?_ f3 (Alike.refl w) hr;rw[List.take_of_length_le (by rw[f2.1];exact Nat.le_refl _)];exact f2
 by_cases hn:len*s=0
 ·obtain⟨kZ,f1,f2,f3,f4⟩:=key #[] (by
   have:(List.replicate len z).flatten=[]:=by
    apply List.eq_nil_of_length_eq_zero;simp[k7,hn]
   rw[this];exact .nil E) (by simp[hn])
  refine fin kZ f2 f3 f4 _ ?_;simp only[Instr.buildSlice,Sem.run_bind,run_underlying he,Result.andThen_ok,pz hs,hn];rw[y7];simp only[Nat.not_lt_zero,gt_iff_lt,Sem.run_bind,if_false,if_true,Sem.run_pure,Result.andThen_ok,Array.range_zero',Array.map_empty,f1];simp[newRow]
 ·obtain⟨kZ,f1,f2,f3,f4⟩:=key _ AX (by simp);refine fin kZ f2 f3 f4 _ ?_;simp only[Instr.buildSlice,Sem.run_bind,run_underlying he,Result.andThen_ok,pz hs];rw[y7];rw[if_neg (by omega)];simp only[hn,if_false,Sem.run_bind,y6,Sem.run_pure,Result.andThen_ok,f1];simp[newRow]
end
end Go.Pi
end
