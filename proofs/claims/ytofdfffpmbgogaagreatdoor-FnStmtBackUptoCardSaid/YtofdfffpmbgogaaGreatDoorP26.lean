import Derived.Test.YtofdfffpmbgogaaGreatDoorP20
/- Part of the proof. -/
set_option linter.all false
section
namespace Go.Pi
def mA(v:PV):Prop:=v= .ah\/∃xs,v= .sl xs
inductive Nd:List PV->Prop
 |mk (k num at_:Int) (text more:ByteArray) (kids:PV) (hl:mA kids) (hb:(ae kids).length<=4194304) (hk:∀x,x∈ae kids->Nd x) (hn:k=129\/k=25->1<=(ae kids).length)
   (hd:aw kids=true) (C0:k=105->0<=num/\num<18446744073709551616) (aBB:k=106->text.size<=1099511627776):Nd [.int .i64 k,.str text,.str more,.int .u64 num,kids,.int .i64 at_]
def p8(k:Int)(kids:PV):Prop:=mA kids/\aw kids=true/\(ae kids).length<=4194304/\(∀x,x∈ae kids->Nd x)/\(k=129\/k=25->1<=(ae kids).length)
theorem xS{k num at_:Int}{text more:ByteArray}{kids:PV}:Nd [.int .i64 k,.str text,.str more,.int .u64 num,kids,.int .i64 at_]↔p8 k kids/\(k=105->0<=num/\num<18446744073709551616)/\(k=106->text.size<=1099511627776):=
 ⟨fun h=>by cases h;exact⟨⟨‹_›,‹_›,‹_›,‹_›,‹_›⟩,‹_›,‹_›⟩,fun⟨⟨a,b,c,d,e⟩,f,g⟩=> .mk _ _ _ _ _ _ a c d e b f g⟩
theorem jb{k num at_:Int}{text more:ByteArray}{kids:PV}(h:p8 k kids)(hn:k=105->0<=num/\num<18446744073709551616:=by intro h;omega)(lI:k=106->text.size<=1099511627776:=by intro h;omega):Nd [.int .i64 k,.str text,.str more,.int .u64 num,kids,.int .i64 at_]:=xS.2 ⟨h,hn,lI⟩
theorem Nd.num{k num at_:Int}{text more:ByteArray}{kids:PV}(h:Nd [.int .i64 k,.str text,.str more,.int .u64 num,kids,.int .i64 at_])(hk:k=105):0<=num/\num<18446744073709551616:=(xS.1 h).2.1 hk
theorem mz{k num at_:Int}{text more:ByteArray}{kids:PV}(h1:k≠105)(h2:k≠106):Nd [.int .i64 k,.str text,.str more,.int .u64 num,kids,.int .i64 at_]↔p8 k kids:=
 ⟨fun h=>(xS.1 h).1,fun h=>xS.2 ⟨h,fun e=>(h1 e).elim,fun e=>(h2 e).elim⟩⟩
theorem wW{num at_:Int}{text more:ByteArray}{kids:PV}(h1:0<=num)(h2:num<18446744073709551616):Nd [.int .i64 105,.str text,.str more,.int .u64 num,kids,.int .i64 at_]↔p8 105 kids:=
 ⟨fun h=>(xS.1 h).1,fun h=>xS.2 ⟨h,fun _=>⟨h1,h2⟩,fun e=>absurd e (by decide)⟩⟩
theorem Nd.big{k num at_:Int}{text more:ByteArray}{kids:PV}(h:Nd [.int .i64 k,.str text,.str more,.int .u64 num,kids,.int .i64 at_])(hk:k=106):text.size<=1099511627776:=(xS.1 h).2.2 hk
theorem Nd.open{c:List PV}(h:Nd c):∃(k:Int)(text more:ByteArray)(num:Int)(kids:PV)(at_:Int),c=[.int .i64 k,.str text,.str more,.int .u64 num,kids,.int .i64 at_]/\p8 k kids:=by
 cases h;exact⟨_,_,_,_,_,_,rfl,‹_›,‹_›,‹_›,‹_›,‹_›⟩
theorem Nd.len{c:List PV}(h:Nd c):c.length=6:=by cases h;rfl
theorem Nd.deep{c:List PV}(h:Nd c):aP c=true:=by
 cases h;simp only[aP,aw,Bool.and_true,Bool.true_and, *]
theorem kQ{k:Int}:p8 k .ah↔(k≠129/\k≠25):=by
 constructor
 ·rintro⟨_,_,_,_,h⟩;simp only[ae,List.length_nil]at h;refine⟨fun e=>?_,fun e=>?_⟩
  ·have:=h (.inl e);omega
  ·have:=h (.inr e);omega
 ·rintro⟨h1,h2⟩;exact⟨.inl rfl,rfl,by simp[ae],fun x hx=>absurd hx (by simp[ae]),fun h=>(h.elim h1 h2).elim⟩
theorem ma{k:Int}{cs:List (List PV)}:p8 k (.sl cs)↔(∀c,c∈cs->Nd c)/\cs.length<=4194304/\(k=129\/k=25->1<=cs.length):=by
 constructor
 ·rintro⟨_,_,h3,h4,h5⟩;exact⟨h4,h3,h5⟩
 ·rintro⟨h1,h2,h3⟩;exact⟨.inr ⟨_,rfl⟩,by simp only[aw];exact qo fun x hx=>(h1 x hx).deep,h2,h1,h3⟩
def da(r:PV):Prop:=∃c,r= .agg c/\Nd c
theorem jz{c:List PV}:da (.agg c)↔Nd c:=⟨fun⟨_,h,hc⟩=>by cases h;exact hc,fun h=>⟨_,rfl,h⟩⟩
def pf(n:Nat)(r:PV):Prop:=mA r/\aw r=true/\(ae r).length=n/\∀x,x∈ae r->Nd x
theorem tF{k:Int}{n:Nat}{r:PV}(h:pf n r)(hn:n<=4194304)(hk:k=129\/k=25->1<=n):p8 k r:=⟨h.1,h.2.1,by rw[h.2.2.1];exact hn,h.2.2.2,by rw[h.2.2.1];exact hk⟩
section
variable{T:Nat->Option FX}{X:aS}{G:Nat->PV}{Q:Ex->St->Prop}{w:List Wk}
variable{i len id n:Nat}{tr:er}{d:Option Nat}{os:List XO}{t:Nat->PV}{H:al}
theorem arQ{x:bK}(h:mA (ev G t x)):M T X G (.ops i (⟨d,none,id,.len x⟩::os) len tr::w) ⟨t,H,n⟩ Q↔
 M T X G (.ops (i+1) os len (push tr ([],[]))::w) ⟨put t d (.int .i64 ((ae (ev G t x)).length:Int)),H,n⟩ Q:=by
 rw[I1];have e:runK (ev G t) H id (n+i) (.len x)=some (.int .i64 ((ae (ev G t x)).length:Int),H):=by
  rcases h with h|⟨xs,h⟩<;>simp only[runK,cx,h,ae,Option.map_some,al.fK]<;>rfl
 rw[e,kp];rfl
theorem C1{s i:Nat}{v:PV}(h:mA v)(hi:i<(ae v).length)(hs:(ae v)[i].length=s):db s v (.int .i64 (i:Int))=some (.fp (ae v)[i],none):=by
 rcases h with rfl|⟨xs,rfl⟩
 ·simp[ae]at hi
 ·exact PF hi hs
theorem xT{k:Int}{v:PV}{m:Int}(h:p8 k v)(h0:0<=m)(cE:m<(ae v).length)
 (kk:∀y,Nd y->y∈ae v->(ae v)[m.toNat]?=some y->M T X G (.ops i os len tr::w) ⟨put t d (.fp y),H,n⟩ Q):eD T X G 6 v (.int .i64 m) d i os len tr w t H n Q:=by
 obtain⟨p,rfl⟩:=Int.eq_ofNat_of_zero_le h0;have hp:p<(ae v).length:=by omega
 have hm:=List.getElem_mem hp;have kP:=C1 (s:=6) h.1 hp (h.2.2.2.1 _ hm).len;unfold eD;rw[kP];exact kk _ (h.2.2.2.1 _ hm) hm (by simp)
theorem wX{s b g l:Nat}{m:Int}(h0:0<=m)(cE:m<l)
 (k:M T X G (.ops i os len tr::w) ⟨put t d (.ptr b g (m.toNat*s)),H,n⟩ Q):eD T X G s (.row b g l) (.int .i64 m) d i os len tr w t H n Q:=by
 obtain⟨p,rfl⟩:=Int.eq_ofNat_of_zero_le h0;unfold eD;have hp:p<l:=by omega
 have e:m8 l (.int .i64 (p:Int))=some p:=by
  simp only[m8];rw[if_pos ⟨by omega,by omega⟩];rfl
 simp only[db,e,Option.map_some,kp,al.fK];exact k
end
theorem fQ{v:PV}(h:mA v):cellsOf v=some [v]:=by rcases h with rfl|⟨xs,rfl⟩<;>rfl
attribute [go_sem] arQ al.arO fQ
attribute [go_sem 10] I1
end Go.Pi
end
