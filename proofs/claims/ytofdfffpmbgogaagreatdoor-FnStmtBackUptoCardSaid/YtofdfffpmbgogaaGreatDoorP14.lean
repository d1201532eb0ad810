import Derived.ChangeArms
import Derived.KernelRfl
import Derived.Lib.LaidTab
import Derived.Test.YtofdfffpmbgogaaGreatDoorRows
import Derived.Test.YtofdfffpmbgogaaGreatDoorP06
/- Part of the proof. -/
set_option linter.all false
section
namespace Go.Pi
open Go.RowKit Go.Proofs Go.Proofs.YtofdfffpmbgogaaGreatDoor
mutual
def wt:PV->Nat
 | .sl xs=>Bu xs+1
 |_=>1
def oV:List PV->Nat
 |[]=>0
 |c::cs=>wt c+oV cs
def Bu:List (List PV)->Nat
 |[]=>0
 |x::xs=>oV x+Bu xs
end
theorem agT(a b:List PV):oV (a++b)=oV a+oV b:=by
 induction a with
 |nil=>simp[oV]
 |cons x a ih=>simp only[List.cons_append,oV,ih];omega
inductive TV(P:Program)(M:Nat):TypeId->List PV->Prop
 |bool {t:TypeId} (h:P.underlying t=some .bool) (b:Bool):TV P M t [.bool b]
 |int {t:TypeId} {k:IntKind} (h:P.underlying t=some (.int k)) (n:Int) (hw:(Lit.int k n).wf=true):TV P M t [.int k n]
 |float {t:TypeId} {k:FloatKind} (h:P.underlying t=some (.float k)) (n:Nat) (hw:(Lit.float k n).wf=true):TV P M t [.bR k n]
 |string {t:TypeId} (h:P.underlying t=some .string) (s:ByteArray) (hs:s.size<=M):TV P M t [.str s]
 |ah {t e:TypeId} (h:P.underlying t=some (.slice e)):TV P M t [.ah]
 |sl {t e:TypeId} (h:P.underlying t=some (.slice e)) (xs:List (List PV)) (hl:xs.length<=M) (hx:∀x,x∈xs->TV P M e x):TV P M t [.sl xs]
 |struct {t:TypeId} {fs:Array Field} (h:P.underlying t=some (.struct fs)) (de:List (List PV)) (hl:de.length=fs.size) (hx:∀(i:Nat)(f:Field)(x:List PV),fs[i]?=some f->de[i]?=some x->TV P M f.type x):TV P M t de.flatten
def EC(P:Program):Nat->List Field->Bool
 |_,[]=>true
 |o,f::fs=>f.offset==o&&EC P (o+P.cellsOf f.type) fs
def Bv(P:Program):List Field->Nat
 |[]=>0
 |f::fs=>P.cellsOf f.type+Bv P fs
def I4(P:Program)(TS:List TypeId):Bool:=
 TS.all fun t=>match P.underlying t with
  |some .bool|some (.int _)|some (.float _)|some .string=>true
  |some (.slice e)=>TS.contains e
  |some (.struct fs)=>(fs.toList.all fun f=>TS.contains f.type)&&EC P 0 fs.toList&&P.cellsOf t==Bv P fs.toList
  |_=>false
theorem PK{H:Type}(d:DataW H):1<=Rows.uptoBulk d:=by
 cases d with
 |lit l=>cases l<;>simp[Rows.uptoBulk]
 |nil=>simp[Rows.uptoBulk]
 |ptr d=>simp[Rows.uptoBulk]
 |slice elems spare=>simp[Rows.uptoBulk]
 |agg parts=>simp[Rows.uptoBulk]
 |iface t d=>simp[Rows.uptoBulk]
 |map entries=>simp[Rows.uptoBulk]
 |held h=>simp[Rows.uptoBulk]
theorem agU{H:Type}(l:List (DataW H)):l.length<=Rows.uptoBulkAll l:=by
 induction l with
 |nil=>simp[Rows.uptoBulkAll]
 |cons x r ih=>have:=PK x;simp only[Rows.uptoBulkAll,List.length_cons];omega
section
variable{H:Type}{lN:TypeId×Value->H}{P:Program}{w:World}{base:Nat}{sp:Nat->Bool}{hd:Bool}{E:Env}{M:Nat}
theorem agV{n:Nat}{t:TypeId}{k:FloatKind}{cs:List Value}{y:DataW H×List MemPlace}(hu:P.underlying t=some (.float k))(h:DataW.trod lN P w base sp hd (n+1) t cs=some y):∃m,cs=[.float k m]/\(Lit.float k m).wf=true:=by
 unfold DataW.trod at h;rw[hu]at h;split at h;case h_3 k' k2 b he=>
  cases he;by_cases PL:k2=k/\(Lit.float k b).wf=true
  ·obtain⟨rfl,hw⟩:=PL;exact⟨_,rfl,hw⟩
  ·rw[if_neg PL]at h;cases h
 all_goals first
  |(cases h;done)
  |(rename_i uT _;cases uT;done)
  |(rename_i uT;cases uT;done)
structure Told(E:Env)(P:Program)(M:Nat)(t:TypeId)(cs:List Value)(b:Nat)(xs:List PV):Prop where
 len:xs.length=cs.length
 pC:∀(i:Nat)(c:PV)(v:Value),xs[i]?=some c->cs[i]?=some v->bD E c v
 tv:TV P M t xs
 flat:∀x,x∈xs->x.flat=true
 deep:aP xs=true
 wt:oV xs<=b
theorem agW{a:Addr}{n:Nat}{cs:List Value}(h:w.cells? base a n=some cs):cs.length=n/\∀j v,cs[j]?=some v->w.cell? (a.add j)=some v:=by
 unfold World.cells? at h;split at h
 ·refine⟨by simpa using Lib.mapM_length h,fun j v hv=>?_⟩;have hl:=Lib.mapM_length h;have hj:j<cs.length:=(List.getElem?_eq_some_iff.1 hv).1;obtain⟨b,hb,hc⟩:=Lib.mapM_at h j j (by rw[List.getElem?_range];simp at hl;omega);rw[hv]at hb;cases hb;exact hc
 ·cases h
theorem agX(a b:List PV):aP (a++b)=(aP a&&aP b):=by
 induction a with
 |nil=>simp[aP]
 |cons x a ih=>simp only[List.cons_append,aP,ih,Bool.and_assoc]
theorem agY{n:Nat}(TS:List TypeId)(hT:I4 P TS=true)(hE:∀a u,w.cell? a=some u->E.F a=some u)
 (ih:∀t cs y,t∈TS->DataW.trod lN P w base sp hd n t cs=some y->Rows.uptoBulk y.1<=M->∃xs,Told E P M t cs (Rows.uptoBulk y.1) xs):
 ∀(fs:List Field)(o:Nat)(cs:List Value)(ys:List (DataW H×List MemPlace)),(∀f,f∈fs->f.type∈TS)->EC P o fs=true->cs.length=o+Bv P fs->
  ys.length=fs.length->(∀(i:Nat)(f:Field),fs[i]?=some f->DataW.trod lN P w base sp hd n f.type ((cs.drop f.offset).take (P.cellsOf f.type))=ys[i]?)->Rows.uptoBulkAll (ys.map (·.1))<=M->
  ∃de:List (List PV),de.length=fs.length/\de.flatten.length=Bv P fs/\(∀(i:Nat)(c:PV)(v:Value),de.flatten[i]?=some c->(cs.drop o)[i]?=some v->bD E c v)/\
   (∀(i:Nat)(f:Field)(x:List PV),fs[i]?=some f->de[i]?=some x->TV P M f.type x)/\(∀x,x∈de.flatten->x.flat=true)/\aP de.flatten=true/\oV de.flatten<=Rows.uptoBulkAll (ys.map (·.1)):=by
 intro fs
 induction fs with
 |nil=>
  intro o cs ys _ _ hl _ hm _;exact⟨[],rfl,rfl,fun i c v h=>by simp at h,fun i f x h=>by simp at h,fun x hx=>by simp at hx,rfl,by simp[oV]⟩
 |cons f fs ihf=>
  intro o cs ys jI ht hl eY hm hb;simp only[EC,Bool.and_eq_true,beq_iff_eq]at ht;obtain⟨ho,ht⟩:=ht;obtain⟨y,uO,rfl⟩:∃y uO,ys=y::uO:=by match ys,eY with|y::uO,_=>exact⟨y,uO,rfl⟩
  have hy:=hm 0 f rfl;have dY:∀(i:Nat)(g:Field),fs[i]?=some g->DataW.trod lN P w base sp hd n g.type ((cs.drop g.offset).take (P.cellsOf g.type))=uO[i]?:=fun i g hg=>hm (i+1) g hg
  simp only[List.getElem?_cons_zero]at hy;simp only[List.map_cons,Rows.uptoBulkAll]at hb⊢;simp only[Bv]at hl⊢;rw[ho]at hy;obtain⟨x,hx⟩:=ih _ _ _ (jI f (by simp)) hy (by omega);have ew:((cs.drop o).take (P.cellsOf f.type)).length=P.cellsOf f.type:=by simp;omega
  obtain⟨de,h1,h2,h3,h4,h5,h6,h7⟩:=ihf (o+P.cellsOf f.type) cs uO (fun g hg=>jI g (by simp[hg])) ht (by omega) (by simpa using eY) dY (by omega);have oW:x.length=P.cellsOf f.type:=hx.len.trans ew;refine⟨x::de,by simp[h1],by simp only[List.flatten_cons,List.length_append,oW,h2],fun i c v hc hv=>?_,fun i g z hg hz=>?_,fun z hz=>?_,?_,?_⟩
  ·simp only[List.flatten_cons]at hc;by_cases hi:i<x.length
   ·rw[List.getElem?_append_left hi]at hc;refine hx.pC i c v hc ?_;rw[List.getElem?_take,if_pos (by omega)];exact hv
   ·rw[List.getElem?_append_right (by omega)]at hc;refine h3 (i - x.length) c v hc ?_;rw[List.getElem?_drop]at hv⊢;rw[<-hv];congr 1;omega
  ·cases i with
   |zero=>simp only[List.getElem?_cons_zero,Option.some.injEq]at hg hz;subst hg;subst hz;exact hx.tv
   |succ i=>simp only[List.getElem?_cons_succ]at hg hz;exact h4 i g z hg hz
  ·simp only[List.flatten_cons,List.mem_append]at hz;rcases hz with hz|hz
   ·exact hx.flat z hz
   ·exact h5 z hz
  ·rw[List.flatten_cons,agX,hx.deep,h6];rfl
  ·rw[List.flatten_cons,agT];have:=hx.wt;omega
theorem ag0{α β:Type}{p:Nat->α->β->Prop}:∀(l:List α),(∀i a,l[i]?=some a->∃b,p i a b)->∃r:List β,r.length=l.length/\∀i a b,l[i]?=some a->r[i]?=some b->p i a b:=by
 intro l
 induction l generalizing p with
 |nil=>intro _;exact⟨[],rfl,fun i a b h=>by simp at h⟩
 |cons x l ih=>
  intro h;obtain⟨b,hb⟩:=h 0 x (by simp);obtain⟨r,h1,h2⟩:=ih (p:=fun i=>p (i+1)) (fun i a ha=>h (i+1) a (by simpa using ha));refine⟨b::r,by simp[h1],fun i a c ha hc=>?_⟩;cases i with
  |zero=>simp only[List.getElem?_cons_zero,Option.some.injEq]at ha hc;subst ha;subst hc;exact hb
  |succ i=>simp only[List.getElem?_cons_succ]at ha hc;exact h2 i a c ha hc
theorem ag1{xs:List (List PV)}{ys:List (DataW H)}(hl:xs.length=ys.length)(h:∀(i:Nat)(x:List PV)(y:DataW H),xs[i]?=some x->ys[i]?=some y->oV x<=Rows.uptoBulk y):Bu xs<=Rows.uptoBulkAll ys:=by
 induction xs generalizing ys with
 |nil=>simp[Bu]
 |cons x xs ih=>
  cases ys with
  |nil=>simp at hl
  |cons y ys=>
   simp only[Bu,Rows.uptoBulkAll];have h0:=h 0 x y (by simp) (by simp);have:=ih (ys:=ys) (by simpa using hl) (fun i a b ha hb=>h (i+1) a b (by simpa using ha) (by simpa using hb));omega
theorem ag2{ys:List (DataW H)}{i:Nat}{y:DataW H}(h:ys[i]?=some y):Rows.uptoBulk y<=Rows.uptoBulkAll ys:=by
 induction ys generalizing i with
 |nil=>simp at h
 |cons x ys ih=>
  simp only[Rows.uptoBulkAll];cases i with
  |zero=>simp only[List.getElem?_cons_zero,Option.some.injEq]at h;subst h;omega
  |succ i=>have:=ih (by simpa using h);omega
theorem ag3(TS:List TypeId)(hT:I4 P TS=true)(hE:∀a u,w.cell? a=some u->E.F a=some u):
 ∀(n:Nat)(t:TypeId)(cs:List Value)(y:DataW H×List MemPlace),t∈TS->DataW.trod lN P w base sp hd n t cs=some y->Rows.uptoBulk y.1<=M->∃xs,Told E P M t cs (Rows.uptoBulk y.1) xs:=by
 intro n
 induction n with
 |zero=>intro t cs y _ h;simp[DataW.trod]at h
 |succ n ih=>
  intro t cs y ht h hb;have hc:=List.all_eq_true.1 hT t ht;have one:∀(x:PV)(v:Value),cs=[v]->x.flat=true->aw x=true->wt x=1->bD E x v->TV P M t [x]->∃xs,Told E P M t cs (Rows.uptoBulk y.1) xs:=by
   rintro x v rfl h1 h2 h3 h4 h5;refine⟨[x],rfl,fun i c u hc hu=>?_,h5,fun z hz=>?_,by simp[aP,h2],?_⟩
   ·cases i with
    |zero=>simp only[List.getElem?_cons_zero,Option.some.injEq]at hc hu;subst hc;subst hu;exact h4
    |succ i=>simp at hc
   ·simp only[List.mem_singleton]at hz;subst hz;exact h1
   ·simp only[oV,h3];exact PK _
  cases hu:P.underlying t with
  |none=>rw[hu]at hc;cases hc
  |some u=>
   rw[hu]at hc;cases u with
   |bool=>
    obtain⟨b,rfl,rfl⟩:=DataW.trod_bool hu h;exact one (.bool b) _ rfl rfl rfl rfl (.bool b) (.bool hu b)
   |int k=>
    obtain⟨m,rfl,rfl,hw⟩:=DataW.trod_int hu h;exact one (.int k m) _ rfl rfl rfl rfl (.int k m) (.int hu m hw)
   |float k=>
    obtain⟨m,rfl,hw⟩:=agV hu h;exact one (.bR k m) _ rfl rfl rfl rfl (.bR k m) (.float hu m hw)
   |string=>
    obtain⟨b,rfl,rfl,hs⟩:=DataW.trod_string hu h;simp only[Rows.uptoBulk]at hb;have pJ:b.size+1<=M:=by simpa using hb
    exact one (.str b) _ rfl rfl rfl rfl (.str b) (.string hu b (by omega))
   |slice e=>
    have he:e∈TS:=by simpa using hc
    rcases DataW.trod_slice hu h with⟨rfl,rfl⟩|⟨a,len,cap,elems,rest,m,hm,rfl,rfl,_,nU,_,ji,hes,_⟩
    ·exact one .ah _ rfl rfl rfl rfl .ah (.ah hu)
    ·cases hm;simp only[Rows.uptoBulk]at hb⊢;have bW:=agU (elems.map (·.1));simp only[List.length_map]at bW;have hex:∀i(yy:DataW H×List MemPlace),elems[i]?=some yy->∃x:List PV×List Value,Told E P M e x.2 (Rows.uptoBulk yy.1) x.1/\x.2.length=P.cellsOf e/\∀j v,x.2[j]?=some v->w.cell? ((a.add (i*P.cellsOf e)).add j)=some v:=by
      intro i yy hi;have hil:i<len:=by rw[<-ji];exact(List.getElem?_eq_some_iff.1 hi).1
      have h1:=hes i hil;rw[hi,Option.bind_eq_some_iff]at h1;obtain⟨qG,fC,fq⟩:=h1;have OD:Rows.uptoBulk yy.1<=Rows.uptoBulkAll (elems.map (·.1)):=ag2 (i:=i) (by simp[hi]);obtain⟨x,hx⟩:=ih e qG yy he fq (by omega);obtain⟨bL,cy⟩:=agW fC;exact⟨(x,qG),hx,bL,cy⟩
     obtain⟨xs,oW,Eu⟩:=ag0 (p:=fun i yy (x:List PV×List Value)=>Told E P M e x.2 (Rows.uptoBulk yy.1) x.1/\x.2.length=P.cellsOf e/\∀j v,x.2[j]?=some v->w.cell? ((a.add (i*P.cellsOf e)).add j)=some v) elems hex;have fc:∀i(hi:i<xs.length),∃yy,elems[i]?=some yy/\Told E P M e xs[i].2 (Rows.uptoBulk yy.1) xs[i].1/\xs[i].2.length=P.cellsOf e/\∀j v,xs[i].2[j]?=some v->w.cell? ((a.add (i*P.cellsOf e)).add j)=some v:=by
      intro i hi;have PM:i<elems.length:=oW▸hi;exact⟨elems[i],by simp[PM],Eu i elems[i] xs[i] (by simp[PM]) (by simp[hi])⟩
     have b6:∀x,x∈xs.map (·.1)->∃i,∃hi:i<xs.length,x=xs[i].1:=by
      intro x hx;obtain⟨z,hz,rfl⟩:=List.mem_map.1 hx;obtain⟨i,hi,rfl⟩:=List.getElem_of_mem hz;exact⟨i,hi,rfl⟩
     have ag6:∀i j,(a.add (i*P.cellsOf e)).add j=a.add (i*P.cellsOf e+j):=fun i j=>D2 _ _ _
     refine⟨[.sl (xs.map (·.1))],rfl,fun i c v hc hv=>?_,.sl hu _ (by simp;omega) fun x hx=>?_,fun z hz=>?_,?_,?_⟩
     ·cases i with
      |succ i=>simp at hc
      |zero=>
       simp only[List.getElem?_cons_zero,Option.some.injEq]at hc hv;subst hc;subst hv;have aW:(xs.map (·.1)).length=len:=by rw[List.length_map,oW,ji]
       rw[<-aW];refine .sl (xs.map (·.1)) a cap (P.cellsOf e) (fun i j=>((xs.map (·.2)).getD i []).getD j undef) (by rw[aW];exact nU) (fun i hi=>?_) (fun x hx c hc=>?_) (fun i j hi hj=>?_) fun i hi j hj=>?_
       ·obtain⟨yy,_,h1,h2,_⟩:=fc i (by simpa using hi);rw[List.getElem_map,h1.len,h2]
       ·obtain⟨i,hi,rfl⟩:=b6 x hx;obtain⟨yy,_,h1,_⟩:=fc i hi;exact h1.flat c hc
       ·have kO:i<xs.length:=by simpa using hi
        obtain⟨yy,_,h1,h2,h3⟩:=fc i kO;have qq:j<xs[i].2.length:=by omega
        have e1:((xs.map (·.2)).getD i []).getD j undef=xs[i].2[j]:=by
         simp[List.getD_eq_getElem?_getD,kO,qq]
        rw[e1];refine hE _ _ ?_;rw[<-ag6];exact h3 j _ (by simp[qq])
       ·have kO:i<xs.length:=by simpa using hi
        obtain⟨yy,_,h1,h2,h3⟩:=fc i kO;have PN:j<xs[i].1.length:=by simpa using hj
        have qq:j<xs[i].2.length:=by rw[<-h1.len];exact PN
        have e1:((xs.map (·.2)).getD i []).getD j undef=xs[i].2[j]:=by
         simp[List.getD_eq_getElem?_getD,kO,qq]
        rw[e1];exact h1.pC j _ _ (by simp[PN]) (by simp[qq])
     ·obtain⟨i,hi,rfl⟩:=b6 x hx;obtain⟨yy,_,h1,_⟩:=fc i hi;exact h1.tv
     ·simp only[List.mem_singleton]at hz;subst hz;rfl
     ·simp only[aP,aw,Bool.and_true];refine qo fun x hx=>?_
      obtain⟨i,hi,rfl⟩:=b6 x hx;obtain⟨yy,_,h1,_⟩:=fc i hi;exact h1.deep
     ·have:=ag1 (xs:=xs.map (·.1)) (ys:=elems.map (·.1)) (by simp[oW]) (fun i x y hx hy=>by
       simp only[List.getElem?_map,Option.map_eq_some_iff]at hx hy;obtain⟨z,hz,rfl⟩:=hx;obtain⟨yy,hy,rfl⟩:=hy;exact(Eu i yy z hy hz).1.wt)
      simp only[oV,Go.Pi.wt];omega
   |struct fs=>
    simp only[Bool.and_eq_true,beq_iff_eq]at hc;obtain⟨⟨jI,ag7⟩,PO⟩:=hc;obtain⟨ys,m,hm,rfl,ew,eY,dY⟩:=DataW.trod_struct hu h;cases hm;simp only[Rows.uptoBulk]at hb⊢;obtain⟨de,h1,h2,h3,h4,h5,h6,h7⟩:=agY TS hT hE ih fs.toList 0 cs ys (fun f hf=>by have:=List.all_eq_true.1 jI f hf;simpa using this) ag7 (by rw[ew,PO,Nat.zero_add]) (by simpa using eY)
     (fun i f hf=>dY i f (by simpa using hf)) (by omega)
    refine⟨de.flatten,by rw[h2,ew,PO],fun i c v hc hv=>h3 i c v hc (by simpa using hv),.struct hu de (by simpa using h1) fun i f x hf hx=>h4 i f x (by simpa using hf) hx,h5,h6,by omega⟩
   |_=>cases hc
end
end Go.Pi
end
section
namespace Go.Pi
open Go.RowKit Go.Proofs
set_option maxRecDepth 100000
section
variable{P:Program}{M:Nat}{t:TypeId}{x:List PV}
theorem kr{k:IntKind}(hu:P.underlying t=some (.int k))(h:TV P M t x):∃n:Int,x=[.int k n]/\(Lit.int k n).wf=true:=by
 cases h with
 |int h n hw=>rw[hu]at h;cases h;exact⟨n,rfl,hw⟩
 |bool h|float h|string h|ah h|sl h|struct h=>rw[hu]at h;cases h
theorem PQ(hu:P.underlying t=some .bool)(h:TV P M t x):∃b:Bool,x=[.bool b]:=by
 cases h with
 |bool h b=>exact⟨b,rfl⟩
 |int h|float h|string h|ah h|sl h|struct h=>rw[hu]at h;cases h
theorem ag8{k:FloatKind}(hu:P.underlying t=some (.float k))(h:TV P M t x):∃n:Nat,x=[.bR k n]/\(Lit.float k n).wf=true:=by
 cases h with
 |float h n hw=>rw[hu]at h;cases h;exact⟨n,rfl,hw⟩
 |int h|bool h|string h|ah h|sl h|struct h=>rw[hu]at h;cases h
theorem PR(hu:P.underlying t=some .string)(h:TV P M t x):∃s:ByteArray,x=[.str s]/\s.size<=M:=by
 cases h with
 |string h s hs=>exact⟨s,rfl,hs⟩
 |int h|bool h|float h|ah h|sl h|struct h=>rw[hu]at h;cases h
theorem gI{e:TypeId}(hu:P.underlying t=some (.slice e))(h:TV P M t x):∃v,x=[v]/\(v= .ah\/∃xs,v= .sl xs/\xs.length<=M)/\∀y,y∈ae v->TV P M e y:=by
 cases h with
 |ah h=>exact⟨.ah,rfl,.inl rfl,fun y hy=>by cases hy⟩
 |sl h xs hl hx=>rw[hu]at h;cases h;exact⟨.sl xs,rfl,.inr ⟨xs,rfl,hl⟩,hx⟩
 |int h|bool h|float h|string h|struct h=>rw[hu]at h;cases h
theorem ag9{fs:Array Field}(hu:P.underlying t=some (.struct fs))(h:TV P M t x):∃de:List (List PV),x=de.flatten/\de.length=fs.size/\∀(i:Nat)(f:Field)(x:List PV),fs[i]?=some f->de[i]?=some x->TV P M f.type x:=by
 cases h with
 |struct h de hl hx=>rw[hu]at h;cases h;exact⟨de,rfl,hl,hx⟩
 |int h|bool h|float h|string h|ah h|sl h=>rw[hu]at h;cases h
end
theorem aha{n:Int}(h:(Lit.int .u16 n).wf=true):0<=n/\n<65536:=by
 simp only[Lit.wf,Bool.and_eq_true,decide_eq_true_eq]at h;have h1:IntKind.u16.min=0:=by decide
 have h2:IntKind.u16.max=65535:=by decide
 omega
theorem ahb{n:Nat}(h:(Lit.float .f64 n).wf=true):n<18446744073709551616:=by
 simpa[Lit.wf]using h
theorem aaO{n:Int}(h:(Lit.int .i64 n).wf=true):Rg n:=by
 simp only[Lit.wf,Bool.and_eq_true,decide_eq_true_eq]at h;have h1:IntKind.i64.min=-9223372036854775808:=by decide
 have h2:IntKind.i64.max=9223372036854775807:=by decide
 exact⟨by omega,by omega⟩
theorem ie{v:PV}{x:List PV}(h:v∈x)(y:List PV)(hy:y∈ae v):SizeOf.sizeOf y<SizeOf.sizeOf x:=cK h hy
theorem gY{v:PV}{x:List PV}(h:v∈x)(hd:aP x=true)(y:List PV)(hy:y∈ae v):aP y=true:=by
 have h1:=qn hd v h;cases v with
 |sl xs=>exact zg (xs:=xs) (by simpa[aw]using h1) y hy
 |_=>cases hy
theorem I5:Tryz.prog.underlying 22=some (.slice 55):=by kernel_rfl
theorem PW:Tryz.prog.underlying 35=some (.slice 110):=by kernel_rfl
theorem u40:Tryz.prog.underlying 40=some (.slice 301):=by kernel_rfl
theorem n3:Tryz.prog.underlying 41=some (.slice 47):=by kernel_rfl
theorem u42:Tryz.prog.underlying 42=some (.slice 281):=by kernel_rfl
theorem u43:Tryz.prog.underlying 43=some (.slice 254):=by kernel_rfl
theorem PY:Tryz.prog.underlying 44=some (.slice 156):=by kernel_rfl
theorem u45:Tryz.prog.underlying 45=some (.slice 160):=by kernel_rfl
theorem u52:Tryz.prog.underlying 52=some (.slice 51):=by kernel_rfl
theorem u53:Tryz.prog.underlying 53=some (.slice 298):=by kernel_rfl
theorem ahM:Tryz.prog.underlying 154=some (.slice 292):=by kernel_rfl
theorem ahN:Tryz.prog.underlying 158=some (.slice 294):=by kernel_rfl
theorem u3:Tryz.prog.underlying 3=some (.int .i64):=by kernel_rfl
theorem u4:Tryz.prog.underlying 4=some .bool:=by kernel_rfl
theorem u9:Tryz.prog.underlying 9=some .string:=by kernel_rfl
theorem u39:Tryz.prog.underlying 39=some (.float .f64):=by kernel_rfl
theorem ahP:Tryz.prog.underlying 301=some (.int .u16):=by kernel_rfl
theorem tys{t:TypeId}{l:List TypeId}(h:(match Tryz.prog.underlying t with|some (.struct fs)=>decide (fs.toList.map (·.type)=l)|_=>false)=true):∃fs:Array Field,Tryz.prog.underlying t=some (.struct fs)/\fs.toList.map (·.type)=l:=by
 split at h
 ·rename_i fs he;exact⟨fs,he,of_decide_eq_true h⟩
 ·cases h
theorem oX{M:Nat}{t:TypeId}{l:List TypeId}{x:List PV}(h:(match Tryz.prog.underlying t with|some (.struct fs)=>decide (fs.toList.map (·.type)=l)|_=>false)=true)(hx:TV Tryz.prog M t x):
 ∃de:List (List PV),x=de.flatten/\de.length=l.length/\∀(i:Nat)(u:TypeId)(y:List PV),l[i]?=some u->de[i]?=some y->TV Tryz.prog M u y:=by
 obtain⟨fs,hu,hl⟩:=tys h;obtain⟨de,h1,h2,h3⟩:=ag9 hu hx;refine⟨de,h1,by rw[h2,<-hl];simp,fun i u y hi hy=>?_⟩;rw[<-hl]at hi;simp only[List.getElem?_map,Option.map_eq_some_iff,Array.getElem?_toList]at hi;obtain⟨f,hf,rfl⟩:=hi;exact h3 i f y hf hy
theorem I6{x:List PV}(h:TV Tryz.prog 1048576 40 x):∃v,x=[v]/\pI v:=by
 obtain⟨v,rfl,h1,h2⟩:=gI u40 h;refine⟨v,rfl,h1,fun y hy=>?_⟩;obtain⟨n,rfl,hw⟩:=kr ahP (h2 y hy);exact⟨n,rfl,aha hw⟩
def oY(n:Nat)(t:TypeId)(C:List PV->Prop):Prop:=∀x,SizeOf.sizeOf x<n->TV Tryz.prog 1048576 t x->aP x=true->C x
theorem I7{x:List PV}(h:TV Tryz.prog 1048576 37 x):∃b0 b1 b2 b3,x=[b0,b1,b2,b3]:=by
 obtain⟨de,rfl,hl,hx⟩:=oX (l:=[3,3,35,4]) (by kernel_rfl) h;obtain⟨x0,x1,x2,x3,rfl⟩:∃x0 x1 x2 x3,de=[x0,x1,x2,x3]:=by match de,hl with|[x0,x1,x2,x3],_=>exact⟨_,_,_,_,rfl⟩
 obtain⟨c0,rfl,_⟩:=kr u3 (hx 0 3 x0 rfl rfl);obtain⟨c1,rfl,_⟩:=kr u3 (hx 1 3 x1 rfl rfl);obtain⟨c2,rfl,_,_⟩:=gI PW (hx 2 35 x2 rfl rfl);obtain⟨c3,rfl⟩:=PQ u4 (hx 3 4 x3 rfl rfl);exact⟨_,_,_,_,rfl⟩
theorem ahl:∀n,oY n 47 aR/\oY n 281 jl/\oY n 254 iV/\oY n 37 eP/\oY n 110 iz/\oY n 292 jm/\oY n 156 gu/\oY n 294 iI/\oY n 160 gH/\oY n 51 jn/\oY n 298 jo/\oY n 55 bH:=by
 intro n
 induction n with
 |zero=>exact⟨fun x h=>absurd h (Nat.not_lt_zero _),fun x h=>absurd h (Nat.not_lt_zero _),fun x h=>absurd h (Nat.not_lt_zero _),fun x h=>absurd h (Nat.not_lt_zero _),fun x h=>absurd h (Nat.not_lt_zero _),fun x h=>absurd h (Nat.not_lt_zero _),fun x h=>absurd h (Nat.not_lt_zero _),fun x h=>absurd h (Nat.not_lt_zero _),fun x h=>absurd h (Nat.not_lt_zero _),fun x h=>absurd h (Nat.not_lt_zero _),fun x h=>absurd h (Nat.not_lt_zero _),fun x h=>absurd h (Nat.not_lt_zero _)⟩
 |succ n ih=>
  obtain⟨n4,ahR,aiF,ED,aiH,aiI,adj,aiJ,adz,i51,ajr,PX⟩:=ih;have EE:oY (n+1) 37 eP:=by
   intro x hs h hd;obtain⟨de,rfl,hl,hx⟩:=oX (l:=[3,3,35,4]) (by kernel_rfl) h;obtain⟨x0,x1,x2,x3,rfl⟩:∃x0 x1 x2 x3,de=[x0,x1,x2,x3]:=by match de,hl with|[x0,x1,x2,x3],_=>exact⟨_,_,_,_,rfl⟩
   obtain⟨c0,rfl,q0⟩:=kr u3 (hx 0 3 x0 rfl rfl);obtain⟨c1,rfl,q1⟩:=kr u3 (hx 1 3 x1 rfl rfl);obtain⟨c2,rfl,w2,e2⟩:=gI PW (hx 2 35 x2 rfl rfl);obtain⟨c3,rfl⟩:=PQ u4 (hx 3 4 x3 rfl rfl);simp only[List.flatten_cons,List.flatten_nil,List.cons_append,List.nil_append]at hs hd⊢;exact .mk c0 c1 c2 c3 w2 (fun y hy=>aiH y (Nat.lt_of_lt_of_le (ie (v:=c2) (by simp) y hy) (Nat.le_of_lt_succ hs)) (e2 y hy) (gY (v:=c2) (by simp) hd y hy)) hd
  refine⟨?_,?_,?_,EE,?_,?_,?_,?_,?_,?_,?_,?_⟩
  ·intro x hs h hd;obtain⟨de,rfl,hl,hx⟩:=oX (l:=[3,3,3,3,3,39,40,9,41,42,43,44,45]) (by kernel_rfl) h;obtain⟨x0,x1,x2,x3,x4,x5,x6,x7,x8,x9,s6,EF,EG,rfl⟩:∃x0 x1 x2 x3 x4 x5 x6 x7 x8 x9 s6 EF EG,de=[x0,x1,x2,x3,x4,x5,x6,x7,x8,x9,s6,EF,EG]:=by match de,hl with|[x0,x1,x2,x3,x4,x5,x6,x7,x8,x9,s6,EF,EG],_=>exact⟨_,_,_,_,_,_,_,_,_,_,_,_,_,rfl⟩
   obtain⟨c0,rfl,q0⟩:=kr u3 (hx 0 3 x0 rfl rfl);obtain⟨c1,rfl,q1⟩:=kr u3 (hx 1 3 x1 rfl rfl);obtain⟨c2,rfl,q2⟩:=kr u3 (hx 2 3 x2 rfl rfl);obtain⟨c3,rfl,q3⟩:=kr u3 (hx 3 3 x3 rfl rfl);obtain⟨c4,rfl,q4⟩:=kr u3 (hx 4 3 x4 rfl rfl);obtain⟨c5,rfl,w5⟩:=ag8 u39 (hx 5 39 x5 rfl rfl);obtain⟨c6,rfl,w6⟩:=I6 (hx 6 40 x6 rfl rfl);obtain⟨c7,rfl,w7⟩:=PR u9 (hx 7 9 x7 rfl rfl);obtain⟨c8,rfl,w8,e8⟩:=gI n3 (hx 8 41 x8 rfl rfl);obtain⟨c9,rfl,w9,e9⟩:=gI u42 (hx 9 42 x9 rfl rfl);obtain⟨u6,rfl,I8,Bw⟩:=gI u43 (hx 10 43 s6 rfl rfl);obtain⟨EH,rfl,w11,e11⟩:=gI PY (hx 11 44 EF rfl rfl);obtain⟨EI,rfl,w12,e12⟩:=gI u45 (hx 12 45 EG rfl rfl);simp only[List.flatten_cons,List.flatten_nil,List.cons_append,List.nil_append]at hs hd⊢;exact .mk c0 c1 c2 c3 c4 (.bR .f64 c5) c6 c7 c8 c9 u6 EH EI ⟨c5,rfl,ahb w5⟩ w6 w7 w8 (fun y hy=>n4 y (Nat.lt_of_lt_of_le (ie (v:=c8) (by simp) y hy) (Nat.le_of_lt_succ hs)) (e8 y hy) (gY (v:=c8) (by simp) hd y hy)) w9 (fun y hy=>ahR y (Nat.lt_of_lt_of_le (ie (v:=c9) (by simp) y hy) (Nat.le_of_lt_succ hs)) (e9 y hy) (gY (v:=c9) (by simp) hd y hy)) I8 (fun y hy=>aiF y (Nat.lt_of_lt_of_le (ie (v:=u6) (by simp) y hy) (Nat.le_of_lt_succ hs)) (Bw y hy) (gY (v:=u6) (by simp) hd y hy)) w11 (fun y hy=>adj y (Nat.lt_of_lt_of_le (ie (v:=EH) (by simp) y hy) (Nat.le_of_lt_succ hs)) (e11 y hy) (gY (v:=EH) (by simp) hd y hy)) w12 (fun y hy=>adz y (Nat.lt_of_lt_of_le (ie (v:=EI) (by simp) y hy) (Nat.le_of_lt_succ hs)) (e12 y hy) (gY (v:=EI) (by simp) hd y hy)) hd
  ·intro x hs h hd;obtain⟨de,rfl,hl,hx⟩:=oX (l:=[3,3,41,41]) (by kernel_rfl) h;obtain⟨x0,x1,x2,x3,rfl⟩:∃x0 x1 x2 x3,de=[x0,x1,x2,x3]:=by match de,hl with|[x0,x1,x2,x3],_=>exact⟨_,_,_,_,rfl⟩
   obtain⟨c0,rfl,q0⟩:=kr u3 (hx 0 3 x0 rfl rfl);obtain⟨c1,rfl,q1⟩:=kr u3 (hx 1 3 x1 rfl rfl);obtain⟨c2,rfl,w2,e2⟩:=gI n3 (hx 2 41 x2 rfl rfl);obtain⟨c3,rfl,w3,e3⟩:=gI n3 (hx 3 41 x3 rfl rfl);simp only[List.flatten_cons,List.flatten_nil,List.cons_append,List.nil_append]at hs hd⊢;exact .mk c0 c1 c2 c3 w2 (fun y hy=>n4 y (Nat.lt_of_lt_of_le (ie (v:=c2) (by simp) y hy) (Nat.le_of_lt_succ hs)) (e2 y hy) (gY (v:=c2) (by simp) hd y hy)) w3 (fun y hy=>n4 y (Nat.lt_of_lt_of_le (ie (v:=c3) (by simp) y hy) (Nat.le_of_lt_succ hs)) (e3 y hy) (gY (v:=c3) (by simp) hd y hy)) (aaO q1) hd
  ·intro x hs h hd;obtain⟨de,rfl,hl,hx⟩:=oX (l:=[41,40,9]) (by kernel_rfl) h;obtain⟨x0,x1,x2,rfl⟩:∃x0 x1 x2,de=[x0,x1,x2]:=by match de,hl with|[x0,x1,x2],_=>exact⟨_,_,_,rfl⟩
   obtain⟨c0,rfl,w0,e0⟩:=gI n3 (hx 0 41 x0 rfl rfl);obtain⟨c1,rfl,w1⟩:=I6 (hx 1 40 x1 rfl rfl);obtain⟨c2,rfl,w2⟩:=PR u9 (hx 2 9 x2 rfl rfl);simp only[List.flatten_cons,List.flatten_nil,List.cons_append,List.nil_append]at hs hd⊢;exact .mk c0 c1 c2 w0 (fun y hy=>n4 y (Nat.lt_of_lt_of_le (ie (v:=c0) (by simp) y hy) (Nat.le_of_lt_succ hs)) (e0 y hy) (gY (v:=c0) (by simp) hd y hy)) w1 w2 hd
  ·intro x hs h hd;obtain⟨de,rfl,hl,hx⟩:=oX (l:=[3,41,41,37]) (by kernel_rfl) h;obtain⟨x0,x1,x2,x3,rfl⟩:∃x0 x1 x2 x3,de=[x0,x1,x2,x3]:=by match de,hl with|[x0,x1,x2,x3],_=>exact⟨_,_,_,_,rfl⟩
   obtain⟨c0,rfl,q0⟩:=kr u3 (hx 0 3 x0 rfl rfl);obtain⟨c1,rfl,w1,e1⟩:=gI n3 (hx 1 41 x1 rfl rfl);obtain⟨c2,rfl,w2,e2⟩:=gI n3 (hx 2 41 x2 rfl rfl);have P0:=hx 3 37 x3 rfl rfl;obtain⟨b0,b1,b2,b3,rfl⟩:=I7 P0;simp only[List.flatten_cons,List.flatten_nil,List.cons_append,List.nil_append]at hs hd⊢;exact .mk c0 c1 c2 b0 b1 b2 b3 w1 (fun y hy=>n4 y (Nat.lt_of_lt_of_le (ie (v:=c1) (by simp) y hy) (Nat.le_of_lt_succ hs)) (e1 y hy) (gY (v:=c1) (by simp) hd y hy)) w2 (fun y hy=>n4 y (Nat.lt_of_lt_of_le (ie (v:=c2) (by simp) y hy) (Nat.le_of_lt_succ hs)) (e2 y hy) (gY (v:=c2) (by simp) hd y hy)) (EE _ (by simp at hs⊢;omega) P0 (by simp only[aP,Bool.and_eq_true]at hd⊢;simp[hd])) (aaO q0) hd
  ·intro x hs h hd;obtain⟨de,rfl,hl,hx⟩:=oX (l:=[37,41]) (by kernel_rfl) h;obtain⟨x0,x1,rfl⟩:∃x0 x1,de=[x0,x1]:=by match de,hl with|[x0,x1],_=>exact⟨_,_,rfl⟩
   have Bx:=hx 0 37 x0 rfl rfl;obtain⟨c1,rfl,w1,e1⟩:=gI n3 (hx 1 41 x1 rfl rfl);obtain⟨b0,b1,b2,b3,rfl⟩:=I7 Bx;simp only[List.flatten_cons,List.flatten_nil,List.cons_append,List.nil_append]at hs hd⊢;exact .mk b0 b1 b2 b3 c1 (EE _ (by simp at hs⊢;omega) Bx (by simp only[aP,Bool.and_eq_true]at hd⊢;simp[hd])) w1 (fun y hy=>n4 y (Nat.lt_of_lt_of_le (ie (v:=c1) (by simp) y hy) (Nat.le_of_lt_succ hs)) (e1 y hy) (gY (v:=c1) (by simp) hd y hy)) hd
  ·intro x hs h hd;obtain⟨de,rfl,hl,hx⟩:=oX (l:=[3,3,154,22]) (by kernel_rfl) h;obtain⟨x0,x1,x2,x3,rfl⟩:∃x0 x1 x2 x3,de=[x0,x1,x2,x3]:=by match de,hl with|[x0,x1,x2,x3],_=>exact⟨_,_,_,_,rfl⟩
   obtain⟨c0,rfl,q0⟩:=kr u3 (hx 0 3 x0 rfl rfl);obtain⟨c1,rfl,q1⟩:=kr u3 (hx 1 3 x1 rfl rfl);obtain⟨c2,rfl,w2,e2⟩:=gI ahM (hx 2 154 x2 rfl rfl);obtain⟨c3,rfl,w3,e3⟩:=gI I5 (hx 3 22 x3 rfl rfl);simp only[List.flatten_cons,List.flatten_nil,List.cons_append,List.nil_append]at hs hd⊢;exact .mk c0 c1 c2 c3 w2 (fun y hy=>aiI y (Nat.lt_of_lt_of_le (ie (v:=c2) (by simp) y hy) (Nat.le_of_lt_succ hs)) (e2 y hy) (gY (v:=c2) (by simp) hd y hy)) w3 (fun y hy=>PX y (Nat.lt_of_lt_of_le (ie (v:=c3) (by simp) y hy) (Nat.le_of_lt_succ hs)) (e3 y hy) (gY (v:=c3) (by simp) hd y hy)) (aaO q1) hd
  ·intro x hs h hd;obtain⟨de,rfl,hl,hx⟩:=oX (l:=[3,3,41,41,41,22]) (by kernel_rfl) h;obtain⟨x0,x1,x2,x3,x4,x5,rfl⟩:∃x0 x1 x2 x3 x4 x5,de=[x0,x1,x2,x3,x4,x5]:=by match de,hl with|[x0,x1,x2,x3,x4,x5],_=>exact⟨_,_,_,_,_,_,rfl⟩
   obtain⟨c0,rfl,q0⟩:=kr u3 (hx 0 3 x0 rfl rfl);obtain⟨c1,rfl,q1⟩:=kr u3 (hx 1 3 x1 rfl rfl);obtain⟨c2,rfl,w2,e2⟩:=gI n3 (hx 2 41 x2 rfl rfl);obtain⟨c3,rfl,w3,e3⟩:=gI n3 (hx 3 41 x3 rfl rfl);obtain⟨c4,rfl,w4,e4⟩:=gI n3 (hx 4 41 x4 rfl rfl);obtain⟨c5,rfl,w5,e5⟩:=gI I5 (hx 5 22 x5 rfl rfl);simp only[List.flatten_cons,List.flatten_nil,List.cons_append,List.nil_append]at hs hd⊢;exact .mk c0 c1 c2 c3 c4 c5 w2 (fun y hy=>n4 y (Nat.lt_of_lt_of_le (ie (v:=c2) (by simp) y hy) (Nat.le_of_lt_succ hs)) (e2 y hy) (gY (v:=c2) (by simp) hd y hy)) w3 (fun y hy=>n4 y (Nat.lt_of_lt_of_le (ie (v:=c3) (by simp) y hy) (Nat.le_of_lt_succ hs)) (e3 y hy) (gY (v:=c3) (by simp) hd y hy)) w4 (fun y hy=>n4 y (Nat.lt_of_lt_of_le (ie (v:=c4) (by simp) y hy) (Nat.le_of_lt_succ hs)) (e4 y hy) (gY (v:=c4) (by simp) hd y hy)) w5 (fun y hy=>PX y (Nat.lt_of_lt_of_le (ie (v:=c5) (by simp) y hy) (Nat.le_of_lt_succ hs)) (e5 y hy) (gY (v:=c5) (by simp) hd y hy)) (aaO q1) hd
  ·intro x hs h hd;obtain⟨de,rfl,hl,hx⟩:=oX (l:=[3,41,158]) (by kernel_rfl) h;obtain⟨x0,x1,x2,rfl⟩:∃x0 x1 x2,de=[x0,x1,x2]:=by match de,hl with|[x0,x1,x2],_=>exact⟨_,_,_,rfl⟩
   obtain⟨c0,rfl,q0⟩:=kr u3 (hx 0 3 x0 rfl rfl);obtain⟨c1,rfl,w1,e1⟩:=gI n3 (hx 1 41 x1 rfl rfl);obtain⟨c2,rfl,w2,e2⟩:=gI ahN (hx 2 158 x2 rfl rfl);simp only[List.flatten_cons,List.flatten_nil,List.cons_append,List.nil_append]at hs hd⊢;exact .mk c0 c1 c2 w1 (fun y hy=>n4 y (Nat.lt_of_lt_of_le (ie (v:=c1) (by simp) y hy) (Nat.le_of_lt_succ hs)) (e1 y hy) (gY (v:=c1) (by simp) hd y hy)) w2 (fun y hy=>aiJ y (Nat.lt_of_lt_of_le (ie (v:=c2) (by simp) y hy) (Nat.le_of_lt_succ hs)) (e2 y hy) (gY (v:=c2) (by simp) hd y hy)) hd
  ·intro x hs h hd;obtain⟨de,rfl,hl,hx⟩:=oX (l:=[37,41]) (by kernel_rfl) h;obtain⟨x0,x1,rfl⟩:∃x0 x1,de=[x0,x1]:=by match de,hl with|[x0,x1],_=>exact⟨_,_,rfl⟩
   have Bx:=hx 0 37 x0 rfl rfl;obtain⟨c1,rfl,w1,e1⟩:=gI n3 (hx 1 41 x1 rfl rfl);obtain⟨b0,b1,b2,b3,rfl⟩:=I7 Bx;simp only[List.flatten_cons,List.flatten_nil,List.cons_append,List.nil_append]at hs hd⊢;exact .mk b0 b1 b2 b3 c1 (EE _ (by simp at hs⊢;omega) Bx (by simp only[aP,Bool.and_eq_true]at hd⊢;simp[hd])) w1 (fun y hy=>n4 y (Nat.lt_of_lt_of_le (ie (v:=c1) (by simp) y hy) (Nat.le_of_lt_succ hs)) (e1 y hy) (gY (v:=c1) (by simp) hd y hy)) hd
  ·intro x hs h hd;obtain⟨de,rfl,hl,hx⟩:=oX (l:=[41,22]) (by kernel_rfl) h;obtain⟨x0,x1,rfl⟩:∃x0 x1,de=[x0,x1]:=by match de,hl with|[x0,x1],_=>exact⟨_,_,rfl⟩
   obtain⟨c0,rfl,w0,e0⟩:=gI n3 (hx 0 41 x0 rfl rfl);obtain⟨c1,rfl,w1,e1⟩:=gI I5 (hx 1 22 x1 rfl rfl);simp only[List.flatten_cons,List.flatten_nil,List.cons_append,List.nil_append]at hs hd⊢;exact .mk c0 c1 w0 (fun y hy=>n4 y (Nat.lt_of_lt_of_le (ie (v:=c0) (by simp) y hy) (Nat.le_of_lt_succ hs)) (e0 y hy) (gY (v:=c0) (by simp) hd y hy)) w1 (fun y hy=>PX y (Nat.lt_of_lt_of_le (ie (v:=c1) (by simp) y hy) (Nat.le_of_lt_succ hs)) (e1 y hy) (gY (v:=c1) (by simp) hd y hy)) hd
  ·intro x hs h hd;obtain⟨de,rfl,hl,hx⟩:=oX (l:=[3,3,3,3,40,41,22,52,53,44,45]) (by kernel_rfl) h;obtain⟨x0,x1,x2,x3,x4,x5,x6,x7,x8,x9,s6,rfl⟩:∃x0 x1 x2 x3 x4 x5 x6 x7 x8 x9 s6,de=[x0,x1,x2,x3,x4,x5,x6,x7,x8,x9,s6]:=by match de,hl with|[x0,x1,x2,x3,x4,x5,x6,x7,x8,x9,s6],_=>exact⟨_,_,_,_,_,_,_,_,_,_,_,rfl⟩
   obtain⟨c0,rfl,q0⟩:=kr u3 (hx 0 3 x0 rfl rfl);obtain⟨c1,rfl,q1⟩:=kr u3 (hx 1 3 x1 rfl rfl);obtain⟨c2,rfl,q2⟩:=kr u3 (hx 2 3 x2 rfl rfl);obtain⟨c3,rfl,q3⟩:=kr u3 (hx 3 3 x3 rfl rfl);obtain⟨c4,rfl,w4⟩:=I6 (hx 4 40 x4 rfl rfl);obtain⟨c5,rfl,w5,e5⟩:=gI n3 (hx 5 41 x5 rfl rfl);obtain⟨c6,rfl,w6,e6⟩:=gI I5 (hx 6 22 x6 rfl rfl);obtain⟨c7,rfl,w7,e7⟩:=gI u52 (hx 7 52 x7 rfl rfl);obtain⟨c8,rfl,w8,e8⟩:=gI u53 (hx 8 53 x8 rfl rfl);obtain⟨c9,rfl,w9,e9⟩:=gI PY (hx 9 44 x9 rfl rfl);obtain⟨u6,rfl,I8,Bw⟩:=gI u45 (hx 10 45 s6 rfl rfl);simp only[List.flatten_cons,List.flatten_nil,List.cons_append,List.nil_append]at hs hd⊢;exact .mk c0 c1 c2 c3 c4 c5 c6 c7 c8 c9 u6 w4 w5 (fun y hy=>n4 y (Nat.lt_of_lt_of_le (ie (v:=c5) (by simp) y hy) (Nat.le_of_lt_succ hs)) (e5 y hy) (gY (v:=c5) (by simp) hd y hy)) w6 (fun y hy=>PX y (Nat.lt_of_lt_of_le (ie (v:=c6) (by simp) y hy) (Nat.le_of_lt_succ hs)) (e6 y hy) (gY (v:=c6) (by simp) hd y hy)) w7 (fun y hy=>i51 y (Nat.lt_of_lt_of_le (ie (v:=c7) (by simp) y hy) (Nat.le_of_lt_succ hs)) (e7 y hy) (gY (v:=c7) (by simp) hd y hy)) w8 (fun y hy=>ajr y (Nat.lt_of_lt_of_le (ie (v:=c8) (by simp) y hy) (Nat.le_of_lt_succ hs)) (e8 y hy) (gY (v:=c8) (by simp) hd y hy)) w9 (fun y hy=>adj y (Nat.lt_of_lt_of_le (ie (v:=c9) (by simp) y hy) (Nat.le_of_lt_succ hs)) (e9 y hy) (gY (v:=c9) (by simp) hd y hy)) I8 (fun y hy=>adz y (Nat.lt_of_lt_of_le (ie (v:=u6) (by simp) y hy) (Nat.le_of_lt_succ hs)) (Bw y hy) (gY (v:=u6) (by simp) hd y hy)) (aaO q3) hd
end Go.Pi
end
