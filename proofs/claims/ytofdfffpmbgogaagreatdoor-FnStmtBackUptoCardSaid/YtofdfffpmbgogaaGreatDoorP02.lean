import Derived.KernelRfl
import Derived.Test.YtofdfffpmbgogaaGreatDoorP01
/- Part of the proof. -/
set_option linter.all false
section
namespace Go.Pi
open Go.RowKit
section
variable{P:Program}{aT:World}{E:Env}{w:World}
theorem Of{f:Ieee.Format}{n:Nat}(h:f.infRung<n % f.signWeight)(h1:f.binade<=f.infRung):(f.read n).isNaN=true:=by
 unfold Ieee.Format.read;rw[if_neg (by omega),if_neg (by omega),if_neg (by omega)];rfl
theorem ad7(k:FloatKind)(x y t:Nat):(k.format.read (Question.cut (.nanBits k x y) t)).isNaN=true:=by
 cases k
 ·have e:Question.cut (.nanBits .f32 x y) t=(t % 2)*2147483648+2139095040+1+(t / 2) % 8388607:=by simp[Question.cut]
  have a:FloatKind.f32.format.signWeight=2147483648:=by decide
  have b:FloatKind.f32.format.infRung=2139095040:=by decide
  have c:FloatKind.f32.format.binade=8388608:=by decide
  rw[e];refine Of ?_ ?_
  ·rw[a,b];have hr:=Nat.mod_lt (t / 2) (show 0<8388607 by decide);generalize (t / 2) % 8388607=r at*;rcases Nat.mod_two_eq_zero_or_one t with h|h<;>rw[h]<;>omega
  ·rw[b,c];omega
 ·have e:Question.cut (.nanBits .f64 x y) t=(t % 2)*9223372036854775808+9218868437227405312+1+(t / 2) % 4503599627370495:=by simp[Question.cut]
  have a:FloatKind.f64.format.signWeight=9223372036854775808:=by decide
  have b:FloatKind.f64.format.infRung=9218868437227405312:=by decide
  have c:FloatKind.f64.format.binade=4503599627370496:=by decide
  rw[e];refine Of ?_ ?_
  ·rw[a,b];have hr:=Nat.mod_lt (t / 2) (show 0<4503599627370495 by decide);generalize (t / 2) % 4503599627370495=r at*;rcases Nat.mod_two_eq_zero_or_one t with h|h<;>rw[h]<;>omega
  ·rw[b,c];omega
theorem ad8(k:FloatKind)(x y t m:Nat):k.format.order (Question.cut (.nanBits k x y) t) m=none/\k.format.order m (Question.cut (.nanBits k x y) t)=none:=by
 have h:=ad7 k x y t;unfold Ieee.Format.order;generalize k.format.read (Question.cut (.nanBits k x y) t)=d at*;cases d with
 |nan s f=>exact⟨by cases k.format.read m<;>rfl,by cases k.format.read m<;>rfl⟩
 |number=>cases h
 |infinity=>cases h
theorem fG(hI:Inv P aT E w){s:Sem Value}{v:PV}{z:Value}(hr:s.run P w= .ok z w)(h:bD E v z):iu P aT E w ((do pure (Next.value (<-s)):Sem Next).run P w) v none:=
 .here hI (z:=z) (by simp only[Sem.run_bind,hr,Result.andThen_ok,Sem.run_pure]) h
theorem ad9(hI:Inv P aT E w){op:BinOp}{t:TypeId}{ox oy:Operand}{x y:PV}{a b:Value}{r:PV}(hx:bD E x a)(hy:bD E y b)(h:nS op x y=some r):
 iu P aT E w ((do pure (Next.value (<-(do eqGuard op t ox oy a b;binOp op t a b))):Sem Next).run P w) r none:=by
 cases x with
 |int k n=>
  cases hx;cases y with
  |int k' m=>
   cases hy;by_cases D7:op= .shl\/op= .shr
   ·rcases D7 with rfl|rfl
    all_goals
     simp only[nS]at h;split at h
     ·rename_i hm;injection h with h;subst h;refine fG hI (z:= .int k _) ?_ (.int k _);simp only[eqGuard_at_int,Sem.run_bind,Sem.run_pure,Result.andThen_ok,binOp,Op.shift];rw[if_neg (by omega)];simp
     ·cases h
   ·have hk:k=k':=by
     by_cases hk:k=k'
     ·exact hk
     ·cases op<;>simp[nS,hk]at h D7
    subst hk;cases op<;>simp only[nS,if_true]at h<;>first
     |(exact absurd (Or.inl rfl) D7)|(exact absurd (Or.inr rfl) D7)
     |(injection h with h;subst h;exact fG hI (by simp[eqGuard_at_int,binOp,Op.intArith,Op.intBits,Op.intCmp,bits];try rfl) (.int _ _))
     |(injection h with h;subst h;exact fG hI (by simp[eqGuard_at_int,binOp,Op.intCmp];try rfl) (.bool _))
     |(split at h
       ·cases h
       ·rename_i hm;injection h with h;subst h;exact fG hI (by simp[eqGuard_at_int,binOp,Op.intDiv,hm];try rfl) (.int _ _))
     |cases h
  |_=>simp[nS]at h
 |str s=>
  cases hx;cases y with
  |str s'=>
   cases hy;cases op<;>simp only[nS]at h<;>first
    |(injection h with h;subst h;exact fG hI (by simp[eqGuard_at_string,binOp,Op.stringOp];try rfl) (.bool _))
    |(split at h
      ·rename_i hm;injection h with h;subst h;refine fG hI (z:= .string (s++s')) ?_ (.str _);simp only[eqGuard_at_string,Sem.run_bind,Sem.run_pure,Result.andThen_ok,binOp,Op.stringOp];rw[if_neg (by simp only[IntKind.max_i64];omega)];simp
      ·cases h)
    |cases h
  |_=>simp[nS]at h
 |bR k n=>
  cases hx;cases y with
  |bR k' m=>
   cases hy;simp only[nS]at h;split at h
   ·rename_i hk;subst hk;cases op<;>first
     |(injection h with h;subst h;exact fG hI (by simp[eqGuard_at_float,binOp,Op.floatCmp];try rfl) (.bool _))
     |(simp only at h
       cases hs:k.format.sub n m with
       |some r'=>
        simp only[hs]at h;injection h with h;subst h;exact fG hI (by simp[eqGuard_at_float,binOp,Op.floatArith,hs];try rfl) (.bR _ _)
       |none=>
        simp only[hs]at h;injection h with h;subst h;refine⟨_,w.drew,E,.float k (Question.cut (.nanBits k n m) (w.tape w.drawn (.nanBits k n m))),?_,.inl rfl,.nan k _ ?_,.same hI (Alike.drew w)⟩
        ·simp[eqGuard_at_float,binOp,Op.floatArith,hs,Question.forced]
        ·exact fun m'=>ad8 k n m _ m')
     |cases h
   ·cases h
  |_=>simp[nS]at h
 |nan k=>
  cases y with
  |bR k' m=>
   cases hy;simp only[nS]at h;split at h
   ·rename_i hk;subst hk;cases hx with
    |nan _ n hn=>
     cases op<;>first
      |(injection h with h;subst h;exact fG hI (z:= .bool false) (by simp[eqGuard_at_float,binOp,Op.floatCmp,(hn m).1]) (.bool _))
      |(injection h with h;subst h;exact fG hI (z:= .bool true) (by simp[eqGuard_at_float,binOp,Op.floatCmp,(hn m).1]) (.bool _))
      |cases h
   ·cases h
  |_=>simp[nS]at h
 |_=>simp[nS]at h
theorem aea(d:Nat){t e:TypeId}(ht:P.underlying t=some (.pointer e))(p q:Option Addr)(h:p=none\/q=none):(Op.equalIn (d+1) t (.pointer p) (.pointer q)).run P w= .ok (p.isNone&&q.isNone) w:=by
 simp only[Op.equalIn,Sem.run_bind,run_underlying ht,Result.andThen_ok];cases p with
 |none=>cases q<;>rfl
 |some p=>cases q with
  |none=>rfl
  |some q=>simp at h
theorem run_equalIn_bool(d:Nat){t:TypeId}(ht:P.underlying t=some .bool)(p q:Bool):(Op.equalIn (d+1) t (.bool p) (.bool q)).run P w= .ok (p==q) w:=by
 simp only[Op.equalIn,Sem.run_bind,run_underlying ht,Result.andThen_ok];rfl
theorem Og(t:TypeId)(p q:Option Addr):binOp .eql t (.pointer p) (.pointer q)=(do pure (.bool (<-Op.equal t (.pointer p) (.pointer q))))/\binOp .neq t (.pointer p) (.pointer q)=(do pure (.bool (!(<-Op.equal t (.pointer p) (.pointer q))))):=by
 cases p<;>cases q<;>exact⟨rfl,rfl⟩
theorem aeb(hI:Inv P aT E w){op:BinOp}{t e:TypeId}{ox oy:Operand}{x y:PV}{a b:Value}{r:PV}(ht:P.underlying t=some (.pointer e))(hx:bD E x a)(hy:bD E y b)(h:DX op x y=some r):
 iu P aT E w ((do pure (Next.value (<-(do eqGuard op t ox oy a b;binOp op t a b))):Sem Next).run P w) r none:=by
 have hp:∀{z:PV}{v:Value},bD E z v->(∃cs,z= .fp cs)\/(∃b g o,z= .ptr b g o)->∃q,v= .pointer (some q):=by
  intro z v hz hh;rcases hh with⟨cs,rfl⟩|⟨b,g,o,rfl⟩
  ·obtain⟨q,_,rfl,_⟩:=hz.D3;exact⟨q,rfl⟩
  ·exact hz.wj.1
 have run:∀(op:BinOp)(p q:Option Addr)(c:Bool),(op= .eql\/op= .neq)->(p=none\/q=none)->c=(if op= .eql then(p.isNone&&q.isNone)else !(p.isNone&&q.isNone))->
  (do eqGuard op t ox oy (.pointer p) (.pointer q);binOp op t (.pointer p) (.pointer q):Sem Value).run P w= .ok (.bool c) w:=by
  intro op p q c nV hn hc;subst hc;have he:(Op.equal t (.pointer p) (.pointer q)).run P w= .ok (p.isNone&&q.isNone) w:=aea 9999 ht p q hn;rcases nV with rfl|rfl
  ·rw[(Og t p q).1,eqGuard_at_pointer];simp only[Sem.run_bind,Sem.run_pure,Result.andThen_ok,he,if_true]
  ·rw[(Og t p q).2,eqGuard_at_pointer];simp only[Sem.run_bind,Sem.run_pure,Result.andThen_ok,he];rfl
 have fin:∀(op:BinOp)(p q:Option Addr)(c:Bool),a= .pointer p->b= .pointer q->(op= .eql\/op= .neq)->(p=none\/q=none)->c=(if op= .eql then(p.isNone&&q.isNone)else !(p.isNone&&q.isNone))->
  iu P aT E w ((do pure (Next.value (<-(do eqGuard op t ox oy a b;binOp op t a b))):Sem Next).run P w) (.bool c) none:=by
  intro op p q c ha hb nV hn hc;subst ha;subst hb;exact fG hI (run op p q c nV hn hc) (.bool _)
 unfold DX at h;split at h
 ·injection h with h;subst h;exact fin _ none none _ hx.pA hy.pA (.inl rfl) (.inl rfl) rfl
 ·injection h with h;subst h;obtain⟨q,hq⟩:=hp hx (.inl ⟨_,rfl⟩);exact fin _ (some q) none _ hq hy.pA (.inl rfl) (.inr rfl) rfl
 ·injection h with h;subst h;obtain⟨q,hq⟩:=hp hx (.inr ⟨_,_,_,rfl⟩);exact fin _ (some q) none _ hq hy.pA (.inl rfl) (.inr rfl) rfl
 ·injection h with h;subst h;obtain⟨q,hq⟩:=hp hy (.inl ⟨_,rfl⟩);exact fin _ none (some q) _ hx.pA hq (.inl rfl) (.inl rfl) rfl
 ·injection h with h;subst h;obtain⟨q,hq⟩:=hp hy (.inr ⟨_,_,_,rfl⟩);exact fin _ none (some q) _ hx.pA hq (.inl rfl) (.inl rfl) rfl
 ·injection h with h;subst h;exact fin _ none none _ hx.pA hy.pA (.inr rfl) (.inl rfl) rfl
 ·injection h with h;subst h;obtain⟨q,hq⟩:=hp hx (.inl ⟨_,rfl⟩);exact fin _ (some q) none _ hq hy.pA (.inr rfl) (.inr rfl) rfl
 ·injection h with h;subst h;obtain⟨q,hq⟩:=hp hx (.inr ⟨_,_,_,rfl⟩);exact fin _ (some q) none _ hq hy.pA (.inr rfl) (.inr rfl) rfl
 ·injection h with h;subst h;obtain⟨q,hq⟩:=hp hy (.inl ⟨_,rfl⟩);exact fin _ none (some q) _ hx.pA hq (.inr rfl) (.inl rfl) rfl
 ·injection h with h;subst h;obtain⟨q,hq⟩:=hp hy (.inr ⟨_,_,_,rfl⟩);exact fin _ none (some q) _ hx.pA hq (.inr rfl) (.inl rfl) rfl
 ·cases h
theorem aec(hI:Inv P aT E w){op:BinOp}{t:TypeId}{ox oy:Operand}{x y:PV}{a b:Value}{r:PV}(ht:P.underlying t=some .bool)(hx:bD E x a)(hy:bD E y b)(h:HT op x y=some r):
 iu P aT E w ((do pure (Next.value (<-(do eqGuard op t ox oy a b;binOp op t a b))):Sem Next).run P w) r none:=by
 have he:∀p q:Bool,(Op.equal t (.bool p) (.bool q)).run P w= .ok (p==q) w:=fun p q=>run_equalIn_bool 9999 ht p q
 unfold HT at h;split at h
 ·injection h with h;subst h;rw[hx.AQ,hy.AQ];refine fG hI (z:= .bool _) ?_ (.bool _);rw[eqGuard_at_bool];show(do pure (.bool (<-Op.equal t _ _)):Sem Value).run P w=_;simp only[Sem.run_bind,he,Result.andThen_ok,Sem.run_pure]
 ·injection h with h;subst h;rw[hx.AQ,hy.AQ];refine fG hI (z:= .bool _) ?_ (.bool _);rw[eqGuard_at_bool];show(do pure (.bool (!(<-Op.equal t _ _))):Sem Value).run P w=_;simp only[Sem.run_bind,he,Result.andThen_ok,Sem.run_pure]
 ·cases h
theorem aed(d:Nat){t:TypeId}{e:_}(ht:P.underlying t=some (.interface e))(u:TypeId)(x:Value):(Op.equalIn (d+1) t (.iface u x) .nilIface).run P w= .ok false w:=by
 simp only[Op.equalIn,Sem.run_bind,run_underlying ht,Result.andThen_ok];rfl
theorem aee(d:Nat){t:TypeId}{e:_}(ht:P.underlying t=some (.interface e)):(Op.equalIn (d+1) t .nilIface .nilIface).run P w= .ok true w:=by
 simp only[Op.equalIn,Sem.run_bind,run_underlying ht,Result.andThen_ok];rfl
theorem aef(hI:Inv P aT E w){op:BinOp}{t:TypeId}{e:_}{ox:Operand}{x y:PV}{a b:Value}{r:PV}(ht:P.underlying t=some (.interface e))(hx:bD E x a)(hy:bD E y b)(h:DY op x y=some r):
 iu P aT E w ((do pure (Next.value (<-(do eqGuard op t ox (.const .nilIface) a b;binOp op t a b))):Sem Next).run P w) r none:=by
 have e1:∀u x,(Op.equal t (.iface u x) .nilIface).run P w= .ok false w:=fun u x=>aed 9999 ht u x
 have e2:(Op.equal t .nilIface .nilIface).run P w= .ok true w:=aee 9999 ht;have g1:∀(op:BinOp)(u x),eqGuard op t ox (.const .nilIface) (.iface u x) .nilIface=pure ():=fun op u x=>by cases op<;>rfl
 have g2:∀(op:BinOp),eqGuard op t ox (.const .nilIface) .nilIface .nilIface=pure ():=fun op=>by cases op<;>cases ox<;>rfl
 unfold DY at h;split at h
 ·injection h with h;subst h;rw[hx.wh,hy.wh];refine fG hI (z:= .bool _) ?_ (.bool _);rw[g2];show(do pure (.bool (<-Op.equal t _ _)):Sem Value).run P w=_;simp only[Sem.run_bind,e2,Result.andThen_ok,Sem.run_pure]
 ·injection h with h;subst h;obtain⟨u,rfl,_⟩:=hx.AV;rw[hy.wh];refine fG hI (z:= .bool _) ?_ (.bool _);rw[g1];show(do pure (.bool (<-Op.equal t _ _)):Sem Value).run P w=_;simp only[Sem.run_bind,e1,Result.andThen_ok,Sem.run_pure]
 ·injection h with h;subst h;rw[hx.wh,hy.wh];refine fG hI (z:= .bool _) ?_ (.bool _);rw[g2];show(do pure (.bool (!(<-Op.equal t _ _))):Sem Value).run P w=_;simp only[Sem.run_bind,e2,Result.andThen_ok,Sem.run_pure];rfl
 ·injection h with h;subst h;obtain⟨u,rfl,_⟩:=hx.AV;rw[hy.wh];refine fG hI (z:= .bool _) ?_ (.bool _);rw[g1];show(do pure (.bool (!(<-Op.equal t _ _))):Sem Value).run P w=_;simp only[Sem.run_bind,e1,Result.andThen_ok,Sem.run_pure];rfl
 ·cases h
theorem aeg(hI:Inv P aT E w){op:UnOp}{x:PV}{a:Value}{r:PV}(hx:bD E x a)(h:D0 op x=some r):iu P aT E w ((do pure (Next.value (<-Op.unary op a)):Sem Next).run P w) r none:=by
 unfold D0 at h;split at h
 ·injection h with h;subst h;cases hx;exact fG hI (z:= .int _ _) (by simp[Op.unary,Op.intArith]) (.int _ _)
 ·injection h with h;subst h;cases hx;exact fG hI (z:= .float _ _) (by simp[Op.unary]) (.bR _ _)
 ·injection h with h;subst h;cases hx;exact fG hI (z:= .bool _) (by simp[Op.unary]) (.bool _)
 ·cases h
end
end Go.Pi
end
section
namespace Go.Pi
open Go.RowKit
section
variable{P:Program}{aT:World}{E:Env}{w:World}
theorem aeh{α:Type}{s:Nat}(hs:0<s):∀(xs:List (List α))(k:Nat),(∀x,x∈xs->x.length=s)->xs.flatten[k]?=(xs[k / s]?).bind fun x=>x[k % s]?:=by
 intro xs
 induction xs with
 |nil=>intro k _;simp
 |cons x xs ih=>
  intro k h;have hx:x.length=s:=h x (by simp);rw[List.flatten_cons,List.getElem?_append,hx];split
  ·rename_i hk;rw[Nat.div_eq_of_lt hk,Nat.mod_eq_of_lt hk];simp
  ·rename_i hk;rw[ih (k - s) (fun y hy=>h y (by simp[hy]))];have e1:k / s=(k - s) / s+1:=by
    rw[Nat.div_eq_sub_div hs (by omega)]
   have e2:k % s=(k - s) % s:=Nat.mod_eq_sub_mod (by omega);rw[e1,e2];simp
theorem AY(hI:Inv P aT E w){s n:Nat}{x:PV}{v:Value}{cs:List PV}(hx:bD E x v)(h:gE E.H s x=some (n,cs)):
 ∃U:List Value,(Builtin.lenOf v).run P w= .ok n w/\(Builtin.firstCells s n v).run P w= .ok U.toArray w/\b9 E cs U/\(∀c,c∈cs->c.flat=true)/\U.length=n*s/\
  ((∃s',x= .str s'/\s=1)\/∃A c,v= .slice A n c/\∀a,A=some a->∀j u,U[j]?=some u->w.cell? (a.add j)=some u):=by
 cases x with
 |ah=>
  cases hx.AU;simp only[gE,Option.some.injEq,Prod.mk.injEq]at h;obtain⟨rfl,rfl⟩:=h;exact⟨[],by simp[Builtin.lenOf],by simp[Builtin.firstCells],.nil E,by simp,by simp,.inr ⟨none,0,rfl,fun a ha=>by cases ha⟩⟩
 |sl xs=>
  simp only[gE]at h;split at h
  ·rename_i lg;simp only[Option.some.injEq,Prod.mk.injEq]at h;obtain⟨rfl,rfl⟩:=h;have bW:∀y,y∈xs->y.length=s:=by simpa using lg
   cases hx with
   |oN A c=>
    refine⟨[],by simp[Builtin.lenOf],?_,.nil E,by simp,by simp,.inr ⟨A,c,rfl,fun a _ j u hu=>by simp at hu⟩⟩;cases A with
    |none=>simp[Builtin.firstCells]
    |some a=>simp[Builtin.firstCells,loadCells,loadCellsFrom]
   |sl _ a c s' U hc eA hf hF hR=>
    have sQ:∀c,c∈xs.flatten->c.flat=true:=by
     intro c hc;obtain⟨y,hy,hc⟩:=List.mem_flatten.1 hc;exact hf y hy c hc
    have sR:xs.flatten.length=xs.length*s:=by
     have:∀(l:List (List PV)),(∀y,y∈l->y.length=s)->l.flatten.length=l.length*s:=by
      intro l
      induction l with
      |nil=>simp
      |cons y l ih=>intro h;rw[List.flatten_cons,List.length_append,ih (fun z hz=>h z (by simp[hz])),h y (by simp),List.length_cons,Nat.succ_mul];omega
     exact this xs bW
    rcases Nat.eq_zero_or_pos s with h0|hs
    ·subst h0;have A1:xs.flatten=[]:=List.eq_nil_of_length_eq_zero (by omega);refine⟨[],by simp[Builtin.lenOf],by simp[Builtin.firstCells,loadCells,loadCellsFrom],by rw[A1];exact .nil E,sQ,by simp,.inr ⟨some a,c,rfl,fun _ _ j u hu=>by simp at hu⟩⟩
    ·have y8:∀i(hi:i<xs.length),s'=s:=fun i hi=>(eA i hi).symm.trans (bW _ (List.getElem_mem hi))
     have A2:∀j u,((List.range (xs.length*s)).map fun k=>U (k / s) (k % s))[j]?=some u->w.cell? (a.add j)=some u:=by
      intro j u hu;simp only[List.getElem?_map,Option.map_eq_some_iff]at hu;obtain⟨k,hk,rfl⟩:=hu;obtain⟨hj,hk⟩:=List.getElem?_eq_some_iff.1 hk;simp at hj hk;subst hk;have hd:j / s<xs.length:=(Nat.div_lt_iff_lt_mul hs).2 hj;have:=hF (j / s) (j % s) hd (by rw[y8 _ hd];exact Nat.mod_lt _ hs);rw[y8 _ hd]at this;have e:j / s*s+j % s=j:=by rw[Nat.mul_comm];exact Nat.div_add_mod j s
      rw[e]at this;exact hI.cell _ _ this
     refine⟨(List.range (xs.length*s)).map fun k=>U (k / s) (k % s),by simp[Builtin.lenOf],?_,⟨by simp[sR],fun k c u hc hu=>?_⟩,sQ,by simp,.inr ⟨some a,c,rfl,fun a' Oh=>by cases Oh;exact A2⟩⟩
     ·have:=run_loadCells (P:=P) w a _ A2;simp only[List.length_map,List.length_range]at this;simpa[Builtin.firstCells]using this
     ·simp only[List.getElem?_map,Option.map_eq_some_iff]at hu;obtain⟨k',hk,rfl⟩:=hu;obtain⟨hj,hk⟩:=List.getElem?_eq_some_iff.1 hk;simp at hj hk;subst hk;have hd:k / s<xs.length:=(Nat.div_lt_iff_lt_mul hs).2 hj;have hm:k % s<xs[k / s].length:=by rw[bW _ (List.getElem_mem hd)];exact Nat.mod_lt _ hs
      rw[aeh hs xs k bW,List.getElem?_eq_getElem hd,Option.bind_some,List.getElem?_eq_getElem hm]at hc;injection hc with hc;subst hc;exact hR _ hd _ hm
  ·cases h
 |row b g len=>
  simp only[gE]at h;cases hb:E.H b with
  |none=>simp[hb]at h
  |some c=>
   simp only[hb]at h;split at h
   ·rename_i hg;simp only[Option.some.injEq,Prod.mk.injEq]at h;obtain⟨rfl,rfl⟩:=h;obtain⟨_,_,hp⟩:=hx.wk;obtain⟨_,hv⟩:=hp c hb hg.1;subst hv;obtain⟨U,h1,h2,h3⟩:=D4 hI hb 0 (len*s) (by omega);have A2:∀j u,U[j]?=some u->w.cell? ((⟨E.β b,0,none⟩:Addr).add j)=some u:=fun j u hu=>by
     have e:(⟨E.β b,0,none⟩:Addr).add j=⟨E.β b,0+j,none⟩:=by unfold Addr.add;split<;>simp_all
     rw[e];exact h3 j u hu
    refine⟨U,by simp[Builtin.lenOf],?_,by simpa using h2,fun x hx=>(hI.chunk b c hb).flat x (List.mem_of_mem_take hx),h1,.inr ⟨_,_,rfl,fun a ha=>by cases ha;exact A2⟩⟩;have:=run_loadCells (P:=P) w _ U A2;rw[h1]at this;simpa[Builtin.firstCells]using this
   ·cases h
 |str t=>
  cases hx.AR;simp only[gE]at h;split at h
  ·rename_i h1;subst h1;simp only[Option.some.injEq,Prod.mk.injEq]at h;obtain⟨rfl,rfl⟩:=h;refine⟨t.data.toList.map fun b=> .int .u8 b.toNat,by simp[Builtin.lenOf],?_,⟨by simp,fun i c u hc hu=>?_⟩,?_,by show _=t.data.size*1;simp,.inl ⟨t,rfl,rfl⟩⟩
   ·simp[Builtin.firstCells];apply Array.ext';simp
   ·simp only[List.getElem?_map,Option.map_eq_some_iff]at hc hu;obtain⟨a,ha,rfl⟩:=hc;obtain⟨b,hb,rfl⟩:=hu;rw[ha]at hb;cases hb;exact .int _ _
   ·intro c hc;simp at hc;obtain⟨a,_,rfl⟩:=hc;rfl
  ·cases h
 |_=>simp[gE]at h
theorem aei(w:World)(f:Value->ByteArray->Sem (ForInStep ByteArray))(hf:∀n r,(f (.int .u8 n) r).run P w= .ok (.yield (r.push (UInt8.ofNat n.toNat))) w):
 ∀(cs:List PV)(U:List Value)(l:List UInt8)(rC:ByteArray),b9 E cs U->qi cs=some l->(forIn U rC f:Sem ByteArray).run P w= .ok ⟨rC.data++l.toArray⟩ w:=by
 intro cs
 induction cs with
 |nil=>
  intro U l rC hR h;have hU:U=[]:=List.eq_nil_of_length_eq_zero (by rw[<-hR.1];rfl);subst hU;simp only[qi,Option.some.injEq]at h;subst h;simp
 |cons c cs ih=>
  intro U l rC hR h;obtain⟨u,us,rfl,hu,rD⟩:=hR.head;cases c with
  |int k n=>
   cases k<;>simp only[qi]at h<;>first|cases h;done|skip
   cases hr:qi cs with
   |none=>simp[hr]at h
   |some r=>
    simp only[hr,Option.map_some,Option.some.injEq]at h;subst h;cases hu;simp only[List.forIn_cons,Sem.run_bind,hf,Result.andThen_ok];rw[ih us r _ rD hr];congr 2;apply Array.ext';simp[ByteArray.push]
  |_=>simp[qi]at h
theorem aej(hI:Inv P aT E w){x:PV}{v:Value}{n:Nat}{cs:List PV}{l:List UInt8}(hx:bD E x v)(D8:∀s,x≠ .str s)(h:gE E.H 1 x=some (n,cs))(hl:qi cs=some l):
 iu P aT E w ((do pure (Next.value (<-Conv.bytesToString v)):Sem Next).run P w) (.str ⟨l.toArray⟩) none:=by
 obtain⟨U,_,bC,hR,_,hU,hv⟩:=AY hI hx h;rcases hv with⟨s,rfl,_⟩|⟨A,c,rfl,hc⟩
 ·exact absurd rfl (D8 s)
 ·refine fG hI (z:= .string ⟨l.toArray⟩) ?_ (.str _);cases A with
  |none=>
   have H3:U=[]:=by
    simp[Builtin.firstCells]at bC;exact bC
   subst H3;have fC:cs=[]:=List.eq_nil_of_length_eq_zero hR.1;subst fC;simp only[qi,Option.some.injEq]at hl;subst hl;rfl
  |some a=>
   have nU:=run_loadCells (P:=P) w a U (hc a rfl);rw[hU,Nat.mul_one]at nU;simp only[Conv.bytesToString,Sem.run_bind,nU,Result.andThen_ok];rw[Array.forIn_toList.symm,aei (P:=P) w _ (fun n r=>by simp) cs U l ByteArray.empty hR hl];simp
end
end Go.Pi
end
section
namespace Go.Pi
open Go.RowKit
section
variable{P:Program}{aT:World}{E:Env}{w:World}
theorem H4{t u e ty:TypeId}{s:Nat}(ht:P.underlying t=some (.slice e))(hu:(∃e',P.underlying u=some (.slice e'))\/P.underlying u=some .string)(hs:im P e=some s)
 {base:Option Addr}{sLen sCap n:Nat}{x:Value}{new:Array Value}(hn:(Builtin.lenOf x).run P w= .ok n w)(H5:(Builtin.firstCells s n x).run P w= .ok new w)(wu:sLen+n<=sCap){w':World}
 (bG:match base with|some a=>(storeCells (a.add (sLen*s)) new.toList).run P w= .ok () w'|none=>w'=w):
 (Builtin.append_ #[t,u] ty #[.slice base sLen sCap,x]).run P w= .ok (.slice base (sLen+n) sCap) w':=by
 have fin:(match base with
  |some a=>(storeCells (a.add (sLen*s)) new.toList)
  |none=>pure ():Sem Unit).run P w= .ok () w':=by
  cases base with
  |none=>simp at bG;subst bG;rfl
  |some a=>exact bG
 rcases hu with⟨e',hu⟩|hu
 all_goals
  simp only[Builtin.append_,List.getElem?_toArray,List.getElem?_cons_zero,List.getElem?_cons_succ,Sem.run_bind,run_underlying ht,run_underlying hu,Result.andThen_ok,pz hs,Sem.run_pure,Bool.false_eq_true,if_false,hn,wu,if_true,Bool.not_false,H5];cases base with
  |none=>simp at bG;subst bG;simp
  |some a=>simp at bG;simp[bG]
theorem run_append_grow{t u e ty:TypeId}{s b:Nat}(ht:P.underlying t=some (.slice e))(hu:(∃e',P.underlying u=some (.slice e'))\/P.underlying u=some .string)(hs:im P e=some s)(hb:rA P e=some b)(dX:b≠0)
 {base:Option Addr}{sLen sCap n:Nat}{x:Value}{old new:Array Value}(hn:(Builtin.lenOf x).run P w= .ok n w)(aek:¬sLen+n<=sCap)(H6:(sLen+n)*b<=140737488355328){i:TypeInfo}{z:Value}(hi:P.info? e=some i)(hz:i.zero=some z)
 (ho:(Builtin.firstCells s sLen (.slice base sLen sCap)).run P w.drew= .ok old w.drew)(H5:(Builtin.firstCells s n x).run P w.drew= .ok new w.drew):
 ∃H7:Nat,sLen+n<=H7/\(Builtin.append_ #[t,u] ty #[.slice base sLen sCap,x]).run P w= .ok (.slice (some ⟨w.drew.heap.size,0,none⟩) (sLen+n) H7)
  (w.drew.alloc (.cells (old++new++Builtin.zeroCells z.cells (H7 - (sLen+n))) e)):=by
 have H8:i.bytes=b:=by unfold rA at hb;simpa[hi]using hb
 have Oi:=growslice_fits (need:=sLen+n) (old:=sCap) (bytes:=b) (by omega) H6;have aAz:((sLen+n:Nat):Int)<=IntKind.i64.max:=by
  have h1:(sLen+n)*1<=(sLen+n)*b:=Nat.mul_le_mul_left _ (by omega);simp only[IntKind.max_i64];omega
 refine⟨(Question.appendCap (sLen+n) sCap e).cut (w.tape w.drawn (.appendCap (sLen+n) sCap e)),?_,?_⟩
 ·simp[Question.cut]
 ·rcases hu with⟨e',hu⟩|hu
  all_goals
   simp only[Builtin.append_,List.getElem?_toArray,List.getElem?_cons_zero,List.getElem?_cons_succ,Sem.run_bind,run_underlying ht,run_underlying hu,Result.andThen_ok,pz hs,Sem.run_pure,Bool.false_eq_true,if_false,hn,aek,Bool.not_false,if_true,
    y4 hi,Sem.run_ite,H8]
   rw[if_neg (by intro h;omega)];simp only[Sem.run_pure,Result.andThen_ok,Nat.reducePow];rw[if_neg (by omega)];simp only[Sem.run_pure,Result.andThen_ok,run_choose,Question.forced,Bool.false_eq_true,if_false,run_askRoom,Sem.run_bind];rw[show({w with drawn:=w.drawn+1}:World)=w.drew from rfl,ho];simp only[Result.andThen_ok,H5];simp only[zeroValue,Sem.run_bind,y4 hi,hz,Result.andThen_ok,newRow,run_newObj,Sem.run_pure];rfl
end
end Go.Pi
end
section
namespace Go.Pi
open Go.RowKit
section
variable{P:Program}{aT:World}{E:Env}{w:World}
theorem Oj(z:Array Value)(m:Nat):(Builtin.zeroCells z m).size=m*z.size:=by simp[Builtin.zeroCells]
theorem H9(hI:Inv P aT E w){fresh st:Nat}(eF:∀g,st<=g->¬E.K fresh g){t u e ty:TypeId}{s b:Nat}(ht:P.underlying t=some (.slice e))(hu:(∃e',P.underlying u=some (.slice e'))\/P.underlying u=some .string)
 (hs:im P e=some s)(dj:s≠0)(hb:rA P e=some b)(dX:b≠0){z:List PV}(hz:oP P e=some z)(k7:z.length=s){d x:PV}{vd vx:Value}(y9:∀c g l,d= .row c g l->∀g',st<=g'->¬E.K c g')(hd:bD E d vd)(hx:bD E x vx){r:PV}{up:mr}
 (h:iU E.H fresh st e s b d x=some (r,up)):iu P aT E w ((do pure (Next.value (<-Builtin.append_ #[t,u] ty #[vd,vx])):Sem Next).run P w) r up:=by
 unfold iU at h;cases ji:gE E.H s x with
 |none=>simp[ji]at h
 |some nc=>
  obtain⟨n,cs⟩:=nc;obtain⟨U,bW,Ia,hR,hF,uL,_⟩:=AY hI hx ji;simp only[ji]at h;obtain⟨i,zv,hi,Ok,_,qk⟩:=AO hz;have ec:zv.cells.size=s:=by rw[<-Array.length_toList,<-(qk E).1.1];exact k7
  have wq:∀i,P.info? e=some i->i.size=s:=by intro i hi;unfold im at hs;simpa[hi]using hs
  have A1:n=0->cs=[]:=fun h0=>List.eq_nil_of_length_eq_zero (by rw[hR.1,uL,h0];simp)
  split at h
  ·rename_i iv;subst iv;have H3:U=[]:=List.eq_nil_of_length_eq_zero (by rw[uL];simp);subst H3;cases d with
   |ah=>
    cases hd.AU;simp only[Option.some.injEq,Prod.mk.injEq]at h;obtain⟨rfl,rfl⟩:=h;exact fG hI (H4 ht hu hs bW Ia (Nat.le_refl _) rfl) .ah
   |row c g len=>
    simp only at h;cases hc:E.H c with
    |none=>simp[hc]at h
    |some ch=>
     simp only[hc]at h;split at h
     ·rename_i hg;simp only[Option.some.injEq,Prod.mk.injEq]at h;obtain⟨rfl,rfl⟩:=h;obtain⟨_,hk,hp⟩:=hd.wk;obtain⟨aV,hv⟩:=hp ch hc hg;subst hv;exact fG hI (H4 ht hu hs bW Ia (by omega) (by simp[storeCells])) (.row c g len _ ⟨_,_,rfl,aV⟩ hk hp)
     ·cases h
   |_=>simp at h
  ·rename_i iv;have Ib:=hI.alike (Alike.drew w);obtain⟨U',Ic,Ol,rD,_,A3,_⟩:=AY Ib hx ji;cases d with
   |ah=>
    cases hd.AU;simp only at h;split at h
    ·rename_i H6;simp only[Option.some.injEq,Prod.mk.injEq]at h;obtain⟨rfl,rfl⟩:=h;obtain⟨cap,mq,bC⟩:=run_append_grow (P:=P) (w:=w) (ty:=ty) (base:=none) (sLen:=0) (sCap:=0) (old:=#[]) ht hu hs hb dX bW (by omega) (by simpa using H6) hi Ok (by simp[Builtin.firstCells]) Ol;rw[Nat.zero_add]at mq bC;have fL:(#[]++U'.toArray++Builtin.zeroCells zv.cells (cap - n)).size=cap*s:=by
      simp only[Array.size_append,Oj,ec];simp only[List.size_toArray,A3,List.length_nil,Nat.zero_add];rw[<-Nat.add_mul];congr 1;omega
     refine HY hI eF (w1:=w.drew) (cap:=cap) (e:=e) (vs:=#[]++U'.toArray++Builtin.zeroCells zv.cells (cap - n)) ?_ (fun i hi=>by rw[wq i hi,fL];exact Nat.le_refl _) mq ?_ hF (Alike.drew w) ?_
     ·rw[fL,rD.1,A3];exact Nat.mul_le_mul_right _ mq
     ·rw[rD.1];simpa using rD
     ·simp only[Sem.run_bind,bC,Result.andThen_ok,Sem.run_pure]
    ·cases h
   |row c g len=>
    simp only at h;cases hc:E.H c with
    |none=>simp[hc]at h
    |some ch=>
     simp only[hc]at h;split at h
     ·rename_i hg;obtain⟨wo,sO,D5,Om⟩:=hg;simp only[Option.some.injEq,Prod.mk.injEq]at h;obtain⟨rfl,rfl⟩:=h;obtain⟨_,hk,hp⟩:=hd.wk;obtain⟨aV,hv⟩:=hp ch hc wo;subst hv;have hh:=hI.chunk c ch hc;have hgs:ch.gen<=st:=by
       by_cases h1:ch.gen<=st
       ·exact h1
       ·exact absurd hh.used (y9 c g len rfl ch.gen (by omega))
      obtain⟨oR,aem,k1,k2,k3⟩:=hh.cells;have aen:E.κ c*s<=oR.size:=by
       have:=k2 i (by rw[sO];exact hi)
       rwa [wq i hi]at this
      have sQ:∀x,x∈ch.cells.take (len*s)++cs->x.flat=true:=by
       intro x hx;rcases List.mem_append.1 hx with hx|hx
       ·exact hh.flat x (List.mem_of_mem_take hx)
       ·exact hF x hx
      have za:(ch.cells.take (len*s)++cs).length=(len+n)*s:=by
       rw[List.length_append,List.length_take,hR.1,uL,Nat.add_mul];omega
      by_cases wu:len+n<=E.κ c
      ·have y5:∀q,q∈U->q.oneCell'=true:=by
        intro q hq;obtain⟨j,hj,rfl⟩:=List.getElem_of_mem hq;exact(hR.get j (by rw[hR.1];exact hj)).AM (hF _ (List.getElem_mem _))
       have Oi:len*s+n*s<=oR.size:=by rw[<-Nat.add_mul];exact Nat.le_trans (Nat.mul_le_mul_right _ wu) aen
       have ha:(⟨E.β c,0,none⟩:Addr).add (len*s)=⟨E.β c,len*s,none⟩:=by unfold Addr.add;split<;>simp_all
       have bG:=N9 (P:=P) (E.β c) ch.e U w (len*s) 0 oR y5 aem (by rw[uL];omega);have bC:=H4 (P:=P) (w:=w) (ty:=ty) (base:=some ⟨E.β c,0,none⟩) ht hu hs bW Ia wu (w':=World.setBlock w (E.β c) (.cells (jG oR (len*s) U) ch.e (0,0))) (by
        simp only[ha];simpa using bG)
       have ql:=oQ.set (c':=⟨e,st,ch.cells.take (len*s)++cs,s⟩) hI hc sO.symm (by show ch.gen<=st;exact hgs) sQ (jG oR (len*s) U)
        (by rw[AP _ _ _ (by rw[uL];omega)];show(ch.cells.take (len*s)++cs).length<=_;rw[za,Nat.add_mul];exact Oi)
        (fun i hi=>by rw[AP _ _ _ (by rw[uL];omega)];exact k2 i hi)
        (by
         show b9 E (ch.cells.take (len*s)++cs) (List.take (ch.cells.take (len*s)++cs).length _);rw[za];have e1:(jG oR (len*s) U).toList.take ((len+n)*s)=oR.toList.take (len*s)++U:=by
          simp only[jG];rw[List.take_append_of_le_length (by simp[uL];rw[Nat.add_mul];omega)];rw[List.take_of_length_le (by simp[uL];rw[Nat.add_mul];omega)]
         rw[e1];refine b9.append ?_ hR;have:=k3.take (len*s)
         rwa [List.take_take,Nat.min_eq_left D5]at this)
       refine⟨_,_,E.set c ⟨e,st,ch.cells.take (len*s)++cs,s⟩,_,by simp only[Sem.run_bind,bC,Result.andThen_ok,Sem.run_pure];rfl,.inl rfl,.row c st (len+n) _ ⟨_,_,rfl,wu⟩ (Or.inr ⟨rfl,rfl⟩) (fun c' _ _=>⟨wu,rfl⟩),ql⟩
      ·have aeo:gE E.H s (.row c g len)=some (len,ch.cells.take (len*s)):=by simp[gE,hc,wo,D5]
       obtain⟨O,_,aep,hoR,_,Ie,_⟩:=AY Ib (.row c g len _ ⟨_,_,rfl,aV⟩ hk hp) aeo;obtain⟨cap,mq,bC⟩:=run_append_grow (P:=P) (w:=w) (ty:=ty) (base:=some ⟨E.β c,0,none⟩) (sLen:=len) (sCap:=E.κ c) ht hu hs hb dX bW wu Om hi Ok aep Ol;have fL:(O.toArray++U'.toArray++Builtin.zeroCells zv.cells (cap - (len+n))).size=cap*s:=by
        simp only[Array.size_append,Oj,ec,List.size_toArray,Ie,A3];rw[<-Nat.add_mul,<-Nat.add_mul];congr 1;omega
       have ql:=oQ.new (P:=P) Ib c cap ⟨e,st,ch.cells.take (len*s)++cs,s⟩ (fun g' eO=>y9 c g len rfl g' eO) sQ
        (O.toArray++U'.toArray++Builtin.zeroCells zv.cells (cap - (len+n)))
        (by show(ch.cells.take (len*s)++cs).length<=_;rw[za,fL];exact Nat.mul_le_mul_right _ mq)
        (fun i hi=>by rw[wq i hi,fL];exact Nat.le_refl _)
        (by
         show b9 E (ch.cells.take (len*s)++cs) (List.take (ch.cells.take (len*s)++cs).length _);have e1:(O.toArray++U'.toArray++Builtin.zeroCells zv.cells (cap - (len+n))).toList.take ((len+n)*s)=O++U':=by
          simp only[Array.toList_append];rw[List.take_append_of_le_length (by simp[Ie,A3];rw[Nat.add_mul];omega)];rw[List.take_of_length_le (by simp[Ie,A3];rw[Nat.add_mul];omega)]
         rw[za,e1];exact hoR.append rD)
       refine⟨_,_,E.new w.drew.heap.size c cap ⟨e,st,ch.cells.take (len*s)++cs,s⟩,_,by simp only[Sem.run_bind,bC,Result.andThen_ok,Sem.run_pure];rfl,.inl rfl,.row c st (len+n) _ ⟨_,_,rfl,mq⟩ (Or.inr ⟨rfl,rfl⟩) (fun c' _ _=>?_),⟨ql.le,ql.inv,ql.heap,ql.used,ql.HU,ql.known,ql.place,ql.size,fun i hi hn=>ql.frame i hi hn⟩⟩;simp[Env.new,mq]
     ·cases h
   |_=>simp at h
end
end Go.Pi
end
section
namespace Go.Pi
open Go.RowKit
section
variable{P:Program}{aT:World}{E:Env}{w:World}
theorem aer(hI:Inv P aT E w){fresh st:Nat}(eF:∀g,st<=g->¬E.K fresh g){e:TypeId}{z:List PV}(hz:oP P e=some z):
 iu P aT E w ((do pure (Next.value (<-Instr.alloc e true (.tuple #[]))):Sem Next).run P w) (.ptr fresh st 0) (some (fresh,⟨e,st,z,0⟩)):=by
 obtain⟨i,v,_,_,bC,qk⟩:=AO hz;obtain⟨h1,h2⟩:=qk E;refine Ob hI eF (vs:=v.cells) h1 h2 ?_;simp only[Instr.alloc,Sem.run_bind,bC,Result.andThen_ok];simp[newVar,newRow]
theorem aes(hI:Inv P aT E w){fresh st:Nat}(eF:∀g,st<=g->¬E.K fresh g){e:TypeId}{x:PV}{v:Value}{cs:List PV}(hx:bD E x v)(hc:cellsOf x=some cs):
 iu P aT E w ((do pure (Next.value (<-Instr.box e v)):Sem Next).run P w) (.ptr fresh st 0) (some (fresh,⟨e,st,cs,0⟩)):=by
 obtain⟨h1,h2⟩:=HW hx hc;refine Ob hI eF (vs:=v.cells) h1 h2 ?_;simp[Instr.box,newVar,newRow]
theorem aet(hI:Inv P aT E w){fresh st:Nat}(eF:∀g,st<=g->¬E.K fresh g){t e:TypeId}{s b:Nat}{z:List PV}(ht:P.underlying t=some (.slice e))(hs:im P e=some s)(dj:s≠0)(hb:rA P e=some b)(dX:b≠0)
 (hz:oP P e=some z)(k7:z.length=s){kl kc:IntKind}{l c:Int}(h:0<=l/\l<=c/\c*b<=140737488355328):
 iu P aT E w ((do pure (Next.value (<-Instr.makeSlice t (.int kl l) (.int kc c))):Sem Next).run P w) (.row fresh st l.toNat) (some (fresh,⟨e,st,(List.replicate l.toNat z).flatten,s⟩)):=by
 obtain⟨h0,h1,h2⟩:=h;obtain⟨i,v,hi,_,bC,qk⟩:=AO hz;have H8:i.bytes=b:=by unfold rA at hb;simpa[hi]using hb
 have ec:v.cells.size=s:=by rw[<-Array.length_toList,<-(qk E).1.1];exact k7
 have wq:∀i,P.info? e=some i->i.size=s:=by intro i hi;unfold im at hs;simpa[hi]using hs
 have On:c<=140737488355328:=by
  have dG:(1:Int)<=(b:Int):=by omega
  have:c*1<=c*(b:Int):=Int.mul_le_mul_of_nonneg_left dG (by omega);omega
 have wc:IntKind.i64.wrap c=c:=by simp[IntKind.wrap,IntKind.bits,IntKind.signed];omega
 have wl:IntKind.i64.wrap l=l:=by simp[IntKind.wrap,IntKind.bits,IntKind.signed];omega
 have mJ:(b:Int)*c<=140737488355328:=by rw[Int.mul_comm];exact h2
 have AX:=Od (qk E).1 (by omega) c.toNat;rw[k7]at AX;have fL:((Array.range (c.toNat*s)).map (v.cells[·% v.cells.size]!)).size=c.toNat*s:=by simp
 refine HY hI eF (cap:=c.toNat) (vs:=if c.toNat*s=0 then #[]else(Array.range (c.toNat*s)).map (v.cells[·% v.cells.size]!)) ?_ ?_ (by omega) ?_ (Oe (qk E).2 _) (Alike.refl w) ?_
 ·have:l.toNat*s<=c.toNat*s:=Nat.mul_le_mul_right _ (by omega);split<;>simp[k7]<;>omega
 ·intro i hi;rw[wq i hi];split
  ·omega
  ·rw[fL];exact Nat.le_refl _
 ·have e1:(List.replicate l.toNat z).flatten=((List.replicate c.toNat z).flatten).take (l.toNat*s):=by
   have:c.toNat=l.toNat+(c.toNat - l.toNat):=by omega
   rw[this,<-List.replicate_append_replicate,List.flatten_append,List.take_append_of_le_length (by simp[k7]),List.take_of_length_le (by simp[k7])]
  have eB:((List.replicate l.toNat z).flatten).length=l.toNat*s:=by simp[k7]
  rw[eB];split
  ·rename_i fC;have:l.toNat*s<=c.toNat*s:=Nat.mul_le_mul_right _ (by omega);have hn:(List.replicate l.toNat z).flatten=[]:=List.eq_nil_of_length_eq_zero (by omega);rw[hn];simpa using b9.nil E
  ·rw[e1];exact AX.take _
 ·have A4:∀n,n=c.toNat*s->((do
   let zero <-if n=0 then pure #[]else do pure (<-zeroValue e).cells
   let a <-newRow e ((Array.range n).map (zero[·% zero.size]!))
   pure (.slice (some a) l.toNat c.toNat):Sem Value).run P w)= .ok (.slice (some ⟨w.heap.size,0,none⟩) l.toNat c.toNat) (w.alloc (.cells (if c.toNat*s=0 then #[]else(Array.range (c.toNat*s)).map (v.cells[·% v.cells.size]!)) e)):=by
   intro n hn;subst hn;by_cases h0:c.toNat*s=0
   ·simp[h0,newRow,Array.range_zero']
   ·simp only[h0,if_false,Sem.run_bind,bC,Result.andThen_ok,Sem.run_pure];simp[newRow]
  simp only[Instr.makeSlice,Sem.run_bind,run_underlying ht,Result.andThen_ok,asInt,asIntOf,Sem.run_pure,y4 hi,H8,wc,wl];rw[if_neg (by
   simp only[Bool.or_eq_true,decide_eq_true_eq];omega)]
  simp only[Sem.run_bind,run_askRoom,Result.andThen_ok,pz hs];have:=A4 _ rfl;rw[this];rfl
theorem uM{ρ:Operand->Value}{ev:bK->PV}(cF:∀x y,di x=some y->bD E (ev y) (ρ x)){lo:Option Operand}{A5:Option bK}(h:yW lo=some A5){d n:Nat}(hb:jh d ev A5=some n):
 (lo=none/\n=d)\/∃x k,lo=some x/\ρ x= .int k n:=by
 cases lo with
 |none=>simp[yW]at h;subst h;simp[jh]at hb;exact .inl ⟨rfl,hb.symm⟩
 |some x=>
  cases hx:di x with
  |none=>simp[yW,hx]at h
  |some y=>
   simp[yW,hx]at h;subst h;have hr:=cF x y hx;simp only[jh]at hb;cases hy:ev y with
   |int k m=>
    simp only[hy]at hb;split at hb
    ·injection hb with hb;rw[hy]at hr;refine .inr ⟨x,k,rfl,?_⟩;rw[hr.qj];congr 1;omega
    ·cases hb
   |_=>simp[hy]at hb
theorem Oo{ρ:Operand->Value}{isS:Bool}{len cap l h:Nat}{lo hi:Option Operand}(lJ:(lo=none/\l=0)\/∃x k,lo=some x/\ρ x= .int k l)(rE:(hi=none/\h=len)\/∃x k,hi=some x/\ρ x= .int k h)(wv:l<=h)(zb:h<=cap):
 (Instr.sliceBounds isS len cap (lo.map ρ) (hi.map ρ) none).run P w= .ok (l,h,cap) w:=by
 have b1:∀(k:IntKind)(n y:Nat)(code:BoundsCode),n<=y->(Instr.sliceBound (.int k n) y code).run P w= .ok n w:=by
  intro k n y code hn;simp only[Instr.sliceBound,asIntOf,Sem.run_bind,Sem.run_pure,Result.andThen_ok,Sem.run_ite];rw[if_pos (by omega)];simp
 rcases lJ with⟨rfl,rfl⟩|⟨x,k,rfl,hx⟩<;>rcases rE with⟨rfl,rfl⟩|⟨y,k',rfl,hy⟩
 ·simp[Instr.sliceBounds]
 ·simp only[Instr.sliceBounds,Option.map_none,Option.map_some,hy,Sem.run_bind,Sem.run_pure,Result.andThen_ok,b1 _ _ _ _ zb]
 ·simp only[Instr.sliceBounds,Option.map_none,Option.map_some,hx,Sem.run_bind,Sem.run_pure,Result.andThen_ok,b1 _ _ _ _ wv]
 ·simp only[Instr.sliceBounds,Option.map_some,hx,hy,Sem.run_bind,Sem.run_pure,Result.andThen_ok,b1 _ _ _ _ zb,b1 _ _ _ _ wv]
theorem aev(hI:Inv P aT E w){ρ:Operand->Value}{t:TypeId}{s:ByteArray}{l h:Nat}{lo hi:Option Operand}(ht:P.underlying t=some .string)(lJ:(lo=none/\l=0)\/∃x k,lo=some x/\ρ x= .int k l)(rE:(hi=none/\h=s.size)\/∃x k,hi=some x/\ρ x= .int k h)(wv:l<=h)(zb:h<=s.size):
 iu P aT E w ((do pure (Next.value (<-Instr.sliceAt t (.string s) (lo.map ρ) (hi.map ρ) none)):Sem Next).run P w) (.str (s.extract l h)) none:=by
 refine fG hI (z:= .string (s.extract l h)) ?_ (.str _);simp only[Instr.sliceAt,Instr.slice,Sem.run_bind,run_underlying ht,Result.andThen_ok,Option.isSome_none,Bool.false_eq_true,if_false,Sem.run_pure,Oo lJ rE wv zb]
theorem Ig(hI:Inv P aT E w){ρ:Operand->Value}{t e:TypeId}{s:Nat}{A:Option Addr}{len cap l h:Nat}{lo hi:Option Operand}(ht:P.underlying t=some (.slice e))(hs:im P e=some s)(lJ:(lo=none/\l=0)\/∃x k,lo=some x/\ρ x= .int k l)(rE:(hi=none/\h=len)\/∃x k,hi=some x/\ρ x= .int k h)(wv:l<=h)(zb:h<=cap)
 {r:PV}(hr:bD E r (.slice (if cap=l then A else A.map (·.add (l*s))) (h - l) (cap - l))):
 iu P aT E w ((do pure (Next.value (<-Instr.sliceAt t (.slice A len cap) (lo.map ρ) (hi.map ρ) none)):Sem Next).run P w) r none:=by
 refine fG hI ?_ hr;simp only[Instr.sliceAt,Instr.slice,Sem.run_bind,run_underlying ht,Result.andThen_ok,pz hs,Sem.run_pure,Oo lJ rE wv zb]
theorem aew{xs:List (List PV)}{v:Value}(hx:bD E (.sl xs) v){s l h:Nat}(lg:∀c,c∈xs->c.length=s)(wv:l<=h)(hh:h<=xs.length):
 ∃A c,v= .slice A xs.length c/\xs.length<=c/\bD E (.sl ((xs.take h).drop l)) (.slice (if c=l then A else A.map (·.add (l*s))) (h - l) (c - l)):=by
 have bW:((xs.take h).drop l).length=h - l:=by simp;omega
 cases hx with
 |oN A c=>
  have h0:h=0:=by simpa using hh
  subst h0;have l0:l=0:=by omega
  subst l0;refine⟨A,c,rfl,by simp,?_⟩;exact .oN _ _
 |sl _ a c s' U hc eA hf hF hR=>
  refine⟨some a,c,rfl,hc,?_⟩;by_cases aex:l=h
  ·subst aex;have:(xs.take l).drop l=[]:=List.eq_nil_of_length_eq_zero (by omega);rw[this,Nat.sub_self];exact .oN _ _
  ·have dW:c≠l:=by omega
   rw[if_neg dW];have ww:∀i(hi:i<((xs.take h).drop l).length),((xs.take h).drop l)[i]=xs[l+i]'(by rw[bW]at hi;omega):=by
    intro i hi;simp
   have y8:s'=s:=by
    have h1:=eA l (by omega);rw[<-h1];exact lg _ (List.getElem_mem _)
   subst y8;have key:=bD.sl (E:=E) ((xs.take h).drop l) (a.add (l*s')) (c - l) s' (fun i j=>U (l+i) j) (by rw[bW];omega) (fun i hi=>by rw[ww i hi];exact eA _ _) (fun x hx c hc=>hf x (List.mem_of_mem_take (List.mem_of_mem_drop hx)) c hc)
    (fun i j hi hj=>by
     rw[bW]at hi;have:=hF (l+i) j (by omega) hj;rw[D2,show l*s'+(i*s'+j)=(l+i)*s'+j by rw[Nat.add_mul];omega];exact this)
    (fun i hi j hj=>by
     have e:=ww i hi;have:=hR (l+i) (by rw[bW]at hi;omega) j (by rw[e]at hj;exact hj);simp only[e];exact this)
   rw[bW]at key;exact key
end
end Go.Pi
end
section
namespace Go.Pi
open Go.RowKit
section
variable{P:Program}{aT:World}{E:Env}{w:World}
theorem D9{ρ:Operand->Value}{ev:bK->PV}(cF:∀x y,di x=some y->bD E (ev y) (ρ x)):∀(xs:List Operand)(ys:List bK),ry xs=some ys->b9 E (ys.map ev) (xs.map ρ):=by
 intro xs
 induction xs with
 |nil=>intro ys h;simp[ry]at h;subst h;exact .nil E
 |cons x xs ih=>
  intro ys h;simp only[ry,bind,Option.bind_eq_some_iff]at h;obtain⟨y,hy,r,hr,h⟩:=h;simp only[Option.some.injEq]at h;subst h;exact .cons (cF x y hy) (ih r hr)
theorem Ih{m n:Nat}{x:PV}{v:Value}(hx:bD E x v)(h:m8 m x=some n):∃k,v= .int k n/\n<m:=by
 cases x with
 |int k i=>
  simp only[m8]at h;split at h
  ·injection h with h;subst h;refine⟨k,?_,by omega⟩;rw[hx.qj];congr 1;omega
  ·cases h
 |_=>simp[m8]at h
theorem aey(hI:Inv P aT E w){t e:TypeId}{s:Nat}{x i:PV}{vx vi:Value}(ht:P.underlying t=some (.slice e))(hs:im P e=some s)(hx:bD E x vx)(hi:bD E i vi){r:PV}{u:mr}
 (h:db s x i=some (r,u)):iu P aT E w ((do pure (Next.value (<-Instr.indexAt t vx vi)):Sem Next).run P w) r u:=by
 unfold db at h;have bC:∀(a:Addr)(len cap n:Nat)(k:IntKind),n<len->(Instr.indexAt t (.slice (some a) len cap) (.int k n)).run P w= .ok (.pointer (some (a.add (n*s)))) w:=by
  intro a len cap n k hn;simp only[Instr.indexAt,asIntOf,Sem.run_bind,Sem.run_pure,Result.andThen_ok,run_underlying ht,Sem.run_ite];simp only[Bool.and_false,pz hs,Result.andThen_ok];rw[if_pos (by omega)];simp
 cases x with
 |sl xs=>
  simp only at h;cases hn:m8 xs.length i with
  |none=>simp[hn]at h
  |some n=>
   obtain⟨k,rfl,cE⟩:=Ih hi hn;simp only[hn,List.getElem?_eq_getElem cE]at h;split at h
   ·rename_i bW;simp only[Option.some.injEq,Prod.mk.injEq]at h;obtain⟨rfl,rfl⟩:=h;cases hx with
    |oN=>simp at cE
    |sl _ a c s' U hc eA hf hF hR=>
     have y8:s'=s:=(eA n cE).symm.trans bW;subst y8;refine fG hI (bC a _ c n k cE) (.fp _ _ (fun j=>U n j) (fun c hc=>hf _ (List.getElem_mem _) c hc) (fun j hj=>?_) (fun j hj=>hR n cE j hj));rw[D2];exact hF n j cE (by rw[eA n cE]at hj;exact hj)
   ·cases h
 |row b g len=>
  simp only at h;cases hn:m8 len i with
  |none=>simp[hn]at h
  |some n=>
   obtain⟨k,rfl,cE⟩:=Ih hi hn;simp only[hn,Option.some.injEq,Prod.mk.injEq]at h;obtain⟨rfl,rfl⟩:=h;obtain⟨⟨a,c,rfl,_⟩,hk,hp⟩:=hx.wk;refine fG hI (bC a _ c n k cE) (.ptr b g (n*s) _ ⟨_,rfl⟩ hk fun ch hc hg=>?_);have:=(hp ch hc hg).2;injection this with e1 _ _;injection e1 with e1;rw[e1];unfold Addr.add;split<;>simp_all
 |_=>simp at h
end
end Go.Pi
end
section
namespace Go.Pi
theorem fb1:(Extern.allGenericRows.lookup "math.Float64bits").isNone=true:=by kernel_rfl
theorem fb2:(Extern.allTypedRows.lookup "math.Float64bits").isNone=true:=by kernel_rfl
theorem fb3:Extern.allRows.lookup "math.Float64bits" =some Extern.MathFloatBits.float64bits:=by kernel_rfl
theorem zd:(Extern.allNextRows.lookup "math.Float64bits").isNone=true:=by kernel_rfl
theorem Oq:(Extern.allNextRows.lookup "").isNone=true:=by kernel_rfl
theorem ff1:(Extern.allGenericRows.lookup "math.Float64frombits").isNone=true:=by kernel_rfl
theorem ff2:(Extern.allTypedRows.lookup "math.Float64frombits").isNone=true:=by kernel_rfl
theorem ff3:Extern.allRows.lookup "math.Float64frombits" =some Extern.MathFloatBits.float64frombits:=by kernel_rfl
theorem ff4:(Extern.allNextRows.lookup "math.Float64frombits").isNone=true:=by kernel_rfl
theorem aeG{fn:Func}(h:fn.name= "math.Float64bits")(ho:fn.origin= ""):Extern.findNext fn=none/\Extern.find fn=some Extern.MathFloatBits.float64bits:=by
 have g1:=Option.isNone_iff_eq_none.1 fb1;have g2:=Option.isNone_iff_eq_none.1 fb2;have g4:=Option.isNone_iff_eq_none.1 zd;have g5:=Option.isNone_iff_eq_none.1 Oq;exact⟨by simp[Extern.findNext,h,ho,g4,g5],by simp[Extern.find,h,g1,g2,fb3]⟩
theorem aeH{fn:Func}(h:fn.name= "math.Float64frombits")(ho:fn.origin= ""):Extern.findNext fn=none/\Extern.find fn=some Extern.MathFloatBits.float64frombits:=by
 have g1:=Option.isNone_iff_eq_none.1 ff1;have g2:=Option.isNone_iff_eq_none.1 ff2;have g4:=Option.isNone_iff_eq_none.1 ff4;have g5:=Option.isNone_iff_eq_none.1 Oq;exact⟨by simp[Extern.findNext,h,ho,g4,g5],by simp[Extern.find,h,g1,g2,ff3]⟩
end Go.Pi
end
