import Derived.Laws.Bits64
import Derived.Laws.Bits64b
import Derived.Test.YtofdfffpmbgogaaGreatDoorP01
import Derived.Test.YtofdfffpmbgogaaGreatDoorP06
/- Part of the proof. -/
set_option linter.all false
section
namespace Go.Pi
open Go.RowKit
section
variable{T:Nat->Option FX}{X:aS}{G:Nat->PV}{Q:Ex->St->Prop}{w:List Wk}
variable{i len id n:Nat}{tr:er}{d:Option Nat}{os:List XO}{t:Nat->PV}{H:al}
theorem ahT{x:bK}(h:aQ (ev G t x)):M T X G (.ops i (⟨d,none,id,.len x⟩::os) len tr::w) ⟨t,H,n⟩ Q↔
 M T X G (.ops (i+1) os len (push tr ([],[]))::w) ⟨put t d (.int .i64 ((ae (ev G t x)).length:Int)),H,n⟩ Q:=by
 rw[I1];have e:runK (ev G t) H id (n+i) (.len x)=some (.int .i64 ((ae (ev G t x)).length:Int),H):=by
  rcases h with h|⟨xs,h,_⟩<;>simp only[runK,cx,h,ae,Option.map_some,al.fK]<;>rfl
 rw[e,kp];rfl
theorem Jb{a b:List XC}{s:St}:MB T X G (.bool true) a b w s Q↔M T X G (a.map .code++w) s Q:=by simp[MB]
theorem Jc{a b:List XC}{s:St}:MB T X G (.bool false) a b w s Q↔M T X G (b.map .code++w) s Q:=by simp[MB]
theorem ni{c:Bool}{a b:List XC}{s:St}(h1:c=true->M T X G (a.map .code++w) s Q)(h2:c=false->M T X G (b.map .code++w) s Q):MB T X G (.bool c) a b w s Q:=by
 cases c
 ·exact Jc.2 (h2 rfl)
 ·exact Jb.2 (h1 rfl)
theorem ahU{o:XO}{s:St}:MG T X G (.bool true) true o i os len tr w s Q↔M T X G (.ops i (o::os) len tr::w) s Q:=by simp[MG]
theorem ahV{o:XO}{s:St}:MG T X G (.bool false) false o i os len tr w s Q↔M T X G (.ops i (o::os) len tr::w) s Q:=by simp[MG]
theorem ahW{o:XO}{s:St}:MG T X G (.bool true) false o i os len tr w s Q↔M T X G (.ops (i+1) os len (push tr ([],[]))::w) ⟨put s.t o.dst (.bZ []),s.H,s.n⟩ Q:=by simp[MG]
theorem ahX{o:XO}{s:St}:MG T X G (.bool false) true o i os len tr w s Q↔M T X G (.ops (i+1) os len (push tr ([],[]))::w) ⟨put s.t o.dst (.bZ []),s.H,s.n⟩ Q:=by simp[MG]
theorem ahY{l:List PV}{eZ:Bool}{o:XO}{s:St}:MG T X G (.bZ l) eZ o i os len tr w s Q↔M T X G (.ops (i+1) os len (push tr ([],[]))::w) ⟨put s.t o.dst (.bZ []),s.H,s.n⟩ Q:=Iff.rfl
theorem n5{c eZ:Bool}{o:XO}{s:St}(h1:c=true->MG T X G (.bool true) eZ o i os len tr w s Q)(h2:c=false->MG T X G (.bool false) eZ o i os len tr w s Q):MG T X G (.bool c) eZ o i os len tr w s Q:=by
 cases c
 ·exact h2 rfl
 ·exact h1 rfl
theorem oZ(H:al):H.drop []=H:=by funext b;simp[al.drop]
theorem aH{n:Nat}{H:al}{x:PV}(h:aw x=true):Go.Pi.settle n H x=some (x,[]):=by cases n<;>simp only[Go.Pi.settle,h,if_true]
theorem ahZ{n:Nat}{H:al}{k:IntKind}{m:Int}:Go.Pi.settle n H (.int k m)=some (.int k m,[]):=aH rfl
theorem ah0{n:Nat}{H:al}{b:Bool}:Go.Pi.settle n H (.bool b)=some (.bool b,[]):=aH rfl
theorem ah1{n:Nat}{H:al}{b:ByteArray}:Go.Pi.settle n H (.str b)=some (.str b,[]):=aH rfl
theorem ah2{n:Nat}{H:al}{k:FloatKind}{m:Nat}:Go.Pi.settle n H (.bR k m)=some (.bR k m,[]):=aH rfl
theorem ah3{n:Nat}{H:al}{k:FloatKind}:Go.Pi.settle n H (.nan k)=some (.nan k,[]):=aH rfl
theorem ah4{n:Nat}{H:al}:Go.Pi.settle n H (.bF)=some (.bF,[]):=aH rfl
theorem ah5{n:Nat}{H:al}:Go.Pi.settle n H (.oM)=some (.oM,[]):=aH rfl
theorem ah6{n:Nat}{H:al}:Go.Pi.settle n H (.aF)=some (.aF,[]):=aH rfl
theorem ah7{n:Nat}{H:al}:Go.Pi.settle n H (.ah)=some (.ah,[]):=aH rfl
theorem ah8{n:Nat}{H:al}:Go.Pi.settle n H (.undef)=some (.undef,[]):=aH rfl
def EJ(a:Option (PV×List Nat))(b:Option (List PV×List Nat)):Option (List PV×List Nat):=
 match a,b with
 |some (y,i),some (ys,j)=>some (y::ys,i++j)
 |_,_=>none
theorem ah9{y:PV}{i:List Nat}{ys:List PV}{j:List Nat}:EJ (some (y,i)) (some (ys,j))=some (y::ys,i++j):=rfl
theorem P2{f:PV->Option (PV×List Nat)}:eh f []=some ([],[]):=rfl
theorem P3{n:Nat}{H:al}{x:PV}{xs:List PV}:eh (Go.Pi.settle n H) (x::xs)=EJ (Go.Pi.settle n H x) (eh (Go.Pi.settle n H) xs):=by
 by_cases h:aP (x::xs)=true
 ·rw[ly h];simp only[aP,Bool.and_eq_true]at h;rw[aH h.1,ly h.2];rfl
 ·simp only[eh,if_neg h,EJ];cases Go.Pi.settle n H x with
  |none=>rfl
  |some p=>cases eh (Go.Pi.settle n H) xs<;>rfl
theorem aia{n:Nat}{H:al}{cs:List PV}:Go.Pi.settle (n+1) H (.agg cs)=(eh (Go.Pi.settle n H) cs).map fun r=>(.agg r.1,r.2):=by
 by_cases h:aP cs=true
 ·rw[aH (by simpa only[aw]using h),ly h];rfl
 ·rw[Go.Pi.settle];rw[if_neg (by simpa only[aw]using h)]
theorem aib{n:Nat}{H:al}{cs:List PV}:Go.Pi.settle (n+1) H (.bZ cs)=(eh (Go.Pi.settle n H) cs).map fun r=>(.bZ r.1,r.2):=by
 by_cases h:aP cs=true
 ·rw[aH (by simpa only[aw]using h),ly h];rfl
 ·rw[Go.Pi.settle];rw[if_neg (by simpa only[aw]using h)]
theorem P4{n:Nat}{H:al}{b g len:Nat}{c:Chunk}(hb:H b=some c)(hg:c.gen=g)(hl:len*c.s<=c.cells.length)(hd:aP (c.cells.take (len*c.s))=true):
 Go.Pi.settle (n+1) H (.row b g len)=some (.sl (group c.s len (c.cells.take (len*c.s))),[b]):=by
 rw[Go.Pi.settle];simp only[aw,Bool.false_eq_true,if_false,hb,if_pos (⟨hg,hl⟩:c.gen=g/\len*c.s<=c.cells.length),ly hd,Option.map_some]
def Jd(n:Nat)(H:al)(c:Option Chunk)(b g len:Nat):Option (PV×List Nat):=
 match c with
 |some c=>if c.gen=g/\len*c.s<=c.cells.length then(eh (Go.Pi.settle n H) (c.cells.take (len*c.s))).map fun r=>(.sl (group c.s len r.1),b::r.2)else none
 |none=>none
theorem aic{n:Nat}{H:al}{b g len:Nat}:Go.Pi.settle (n+1) H (.row b g len)=Jd n H (H b) b g len:=by
 rw[Go.Pi.settle];simp only[aw,Bool.false_eq_true,if_false,Jd];cases H b<;>rfl
theorem aid{s:Nat}{cs:List PV}:group s 1 cs=[cs.take s]:=by
 simp only[group,List.range_succ,List.range_zero,List.nil_append,List.map_cons,List.map_nil,Nat.zero_mul,List.drop_zero]
theorem aie{s:Nat}{cs:List PV}:group s 2 cs=[cs.take s,(cs.drop s).take s]:=by
 simp only[group,List.range_succ,List.range_zero,List.nil_append,List.cons_append,List.map_cons,List.map_nil,Nat.zero_mul,List.drop_zero,Nat.one_mul]
def Pure(T:Nat->Option FX)(X:aS)(G:Nat->PV)(f:Nat)(args:List PV)(R:PV->Prop):Prop:=∃r cells,Fn T X G f args none r cells/\R r
theorem aO{f:Nat}{args:List PV}{R:PV->Prop}(hM:Pure T X G f args R)(dW:∀b g rest,args≠ .ptr b g 0::rest)(hd:aP args=true)
 (k:∀r,R r->M T X G (.ops i os len tr::w) ⟨put t d r,H,n⟩ Q)(eT:lj f=false:=by rfl):MC T X G f args d i os len tr w t H n Q:=by
 obtain⟨r,cells,h1,h2⟩:=hM;refine pH eT dW (ly hd) ⟨r,cells,h1,?_⟩;rw[oZ];exact k r h2
end
def Bz(r:PV):Prop:=r= .ah\/∃xs,r= .sl xs/\∀x,x∈xs->Node x
theorem aih{v:PV}:wQ [v]=v:=rfl
theorem aii{v u:PV}:wQ [v,u]= .bZ [v,u]:=rfl
theorem aij{v u x:PV}:wQ [v,u,x]= .bZ [v,u,x]:=rfl
theorem aik{k:IntKind}{n:Int}:cellsOf (.int k n)=some [.int k n]:=rfl
theorem ail{b:Bool}:cellsOf (.bool b)=some [.bool b]:=rfl
theorem aim{b:ByteArray}:cellsOf (.str b)=some [.str b]:=rfl
theorem ain{k:FloatKind}{n:Nat}:cellsOf (.bR k n)=some [.bR k n]:=rfl
theorem aio{k:FloatKind}:cellsOf (.nan k)=some [.nan k]:=rfl
theorem aip:cellsOf .bF=some [.bF]:=rfl
theorem aiq:cellsOf .oM=some [.oM]:=rfl
theorem air:cellsOf .aF=some [.aF]:=rfl
theorem ais:cellsOf .ah=some [.ah]:=rfl
theorem ait{xs:List (List PV)}:cellsOf (.sl xs)=some [.sl xs]:=rfl
theorem aiu{xs:List PV}:cellsOf (.fp xs)=some [.fp xs]:=rfl
theorem aiv{b g o:Nat}:cellsOf (.ptr b g o)=some [.ptr b g o]:=rfl
theorem aiw{b g l:Nat}:cellsOf (.row b g l)=some [.row b g l]:=rfl
theorem aix{t:Nat}{v:PV}:cellsOf (.aj t v)=some [.aj t v]:=rfl
theorem aiy{f:Go.Fn}{x y:List PV}:cellsOf (.kM f x y)=some [.kM f x y]:=rfl
theorem aiz{c:List PV}:cellsOf (.agg c)=some c:=rfl
theorem Bz.one{r:PV}(h:Bz r):cellsOf r=some [r]:=by
 rcases h with rfl|⟨xs,rfl,_⟩<;>rfl
theorem aQ.one{r:PV}(h:aQ r):cellsOf r=some [r]:=by
 rcases h with rfl|⟨xs,rfl,_⟩<;>rfl
theorem Bz.deep{r:PV}(h:Bz r):aw r=true:=by
 rcases h with rfl|⟨xs,rfl,h⟩
 ·rfl
 ·simp only[aw];exact qo fun x hx=>(h x hx).deep
theorem Node.of{k num at_:Int}{text more:ByteArray}{kids:PV}(h:Bz kids):Node [.int .i64 k,.str text,.str more,.int .u64 num,kids,.int .i64 at_]:=by
 refine .mk k num at_ text more kids ?_ ?_ ?_
 ·rcases h with rfl|⟨xs,rfl,_⟩
  ·exact .inl rfl
  ·exact .inr ⟨xs,rfl⟩
 ·rcases h with rfl|⟨xs,rfl,h⟩
  ·intro x hx;cases hx
  ·exact h
 ·simp only[aP,aw,h.deep,Bool.and_self]
set_option maxRecDepth 10000 in
theorem aX.fin{A:List Nat}{H:al}{e s:Nat}{v:PV}{ys:List (List PV)}{b:Bool}{R:PV->List PV->Prop}(h:aX A H e s v ys)(hA:0∉A)(hR:∀y,((ys=[]/\y= .ah)\/y= .sl ys)->R y [.bool b]):
 EA R (eh (Go.Pi.settle depth H) [v,.bool b]):=by
 obtain⟨y,ids,hs,kO,hy,hd⟩:=h.settle;have hL:eh (Go.Pi.settle depth H) [v,.bool b]=some ([y,.bool b],ids):=by
  simp only[eh];split
  ·rename_i eX;simp only[aP,aw,Bool.and_true]at eX;have:Go.Pi.settle depth H v=some (v,[]):=by show Go.Pi.settle (29+1) H v=_;simp only[Go.Pi.settle,eX,if_true]
   rw[this]at hs;cases hs;rfl
  ·simp[hs,aP,aw]
 rw[hL,Pz];refine⟨?_,hR y hy⟩;have:0∉ids:=fun h=>hA (kO 0 h)
 simpa using this
end Go.Pi
end
section
namespace Go.Pi
open Go.RowKit
section
variable{T:Nat->Option FX}{X:aS}{G:Nat->PV}{Q:Ex->St->Prop}{w:List Wk}
variable{i len id n:Nat}{tr:er}{d:Option Nat}{os:List XO}{t:Nat->PV}{H:al}
theorem aiA{s:St}:dQ T X G Q w .ret s↔Q .ret s:=by
 induction w with
 |nil=>exact Iff.rfl
 |cons k w ih=>cases k<;>simpa only[dQ]using ih
end
end Go.Pi
end
section
namespace Go.Pi
open Go.RowKit
theorem wrap_u64{n:Int}(h1:0<=n)(h2:n<18446744073709551616):IntKind.wrap .u64 n=n:=by
 rw[IntKind.wrap_u64];omega
theorem qK{x:Int}(h0:0<=x)(h1:x<18446744073709551616):bits .and .u64 x 4294967295=x % 4294967296:=by
 have h:=bits_and_u64_nat x.toNat 4294967295 (by omega) (by omega);have e:x.toNat &&& 4294967295=x.toNat % 4294967296:=Nat.and_two_pow_sub_one_eq_mod _ 32;rw[Int.toNat_of_nonneg h0,e]at h;have h2:((x.toNat % 4294967296:Nat):Int)=x % 4294967296:=by omega
 exact h.trans h2
theorem tf{x:Int}(h0:0<=x)(h1:x<18446744073709551616):bits .and .u64 x 4503599627370495=x % 4503599627370496:=by
 have h:=bits_and_u64_nat x.toNat 4503599627370495 (by omega) (by omega);have e:x.toNat &&& 4503599627370495=x.toNat % 4503599627370496:=Nat.and_two_pow_sub_one_eq_mod _ 52;rw[Int.toNat_of_nonneg h0,e]at h;have h2:((x.toNat % 4503599627370496:Nat):Int)=x % 4503599627370496:=by omega
 exact h.trans h2
theorem tj{x:Int}(h0:0<=x)(h1:x<18446744073709551616):bits .and .u64 x 2047=x % 2048:=by
 have h:=bits_and_u64_nat x.toNat 2047 (by omega) (by omega);have e:x.toNat &&& 2047=x.toNat % 2048:=Nat.and_two_pow_sub_one_eq_mod _ 11;rw[Int.toNat_of_nonneg h0,e]at h;have h2:((x.toNat % 2048:Nat):Int)=x % 2048:=by omega
 exact h.trans h2
theorem tn{x:Int}(h0:0<=x)(h1:x<18446744073709551616):bits .and .u64 x 9223372036854775807=x % 9223372036854775808:=by
 have h:=bits_and_u64_nat x.toNat 9223372036854775807 (by omega) (by omega);have e:x.toNat &&& 9223372036854775807=x.toNat % 9223372036854775808:=Nat.and_two_pow_sub_one_eq_mod _ 63;rw[Int.toNat_of_nonneg h0,e]at h;have h2:((x.toNat % 9223372036854775808:Nat):Int)=x % 9223372036854775808:=by omega
 exact h.trans h2
theorem te{x:Int}(h0:0<=x)(h1:x<18446744073709551616):bits .and .u64 x 1=x % 2:=by
 have h:=bits_and_u64_nat x.toNat 1 (by omega) (by omega);have e:x.toNat &&& 1=x.toNat % 2:=Nat.and_one_is_mod _;rw[Int.toNat_of_nonneg h0,e]at h;have h2:((x.toNat % 2:Nat):Int)=x % 2:=by omega
 exact h.trans h2
theorem MU{a b:Int}{r:Nat}(ha:0<=a)(hb:0<=b)(uv:b<2 ^ r)(h:a*2 ^ r+b<18446744073709551616):bits .or .u64 (a*2 ^ r) b=a*2 ^ r+b:=by
 obtain⟨a,rfl⟩:=Int.eq_ofNat_of_zero_le ha;obtain⟨b,rfl⟩:=Int.eq_ofNat_of_zero_le hb;have e1:(a:Int)*2 ^ r=((a*2 ^ r:Nat):Int):=by simp
 have uv:b<2 ^ r:=by
  have:(b:Int)<((2 ^ r:Nat):Int):=by simpa using uv
  omega
 rw[e1]at h⊢;have h2:=bits_or_u64_nat (a*2 ^ r) b (by omega) (by omega);rw[h2];have:a*2 ^ r ||| b=a*2 ^ r+b:=by
  rw[Nat.mul_comm a,Nat.two_pow_add_eq_or_of_lt uv]
 rw[this];simp
theorem Hj(x:Int)(k:Nat)(hk:k<=64):x.fdiv (2 ^ (min k IntKind.u64.bits))=x / 2 ^ k:=by
 have:min k IntKind.u64.bits=k:=by simp[IntKind.bits];omega
 rw[this];exact Int.fdiv_eq_ediv_of_nonneg _ (Int.pow_nonneg (by decide))
theorem s8(x:Int):x.fdiv (2 ^ (min 32 64))=x / 4294967296:=Hj x 32 (by decide)
theorem s9(x:Int):x.fdiv (2 ^ (min 1 64))=x / 2:=Hj x 1 (by decide)
theorem tk(x:Int):x.fdiv (2 ^ (min 52 64))=x / 4503599627370496:=Hj x 52 (by decide)
theorem tl(x:Int):x.fdiv (2 ^ (min 63 64))=x / 9223372036854775808:=Hj x 63 (by decide)
theorem at7{a b A B:Int}(h0:0<=a)(h1:a<A)(h2:0<=b)(h3:b<B):0<=a*b/\a*b<=(A - 1)*(B - 1):=
 ⟨Int.mul_nonneg h0 h2,Int.mul_le_mul (by omega) (by omega) h2 (by omega)⟩
theorem tb{n:Int}(h:0<=n):n.tdiv 32=n / 32:=Int.tdiv_eq_ediv_of_nonneg h
theorem tc{n:Int}(h:0<=n):n.tmod 32=n % 32:=Int.tmod_eq_emod_of_nonneg h
theorem td{n:Int}(h:0<=n):min (n % 32).toNat 64=(n % 32).toNat:=by omega
theorem rL{a b:Int}(ha:0<=a)(hb:0<=b)(uv:b<4503599627370496)(h:a*4503599627370496+b<18446744073709551616):bits .or .u64 (a*4503599627370496) b=a*4503599627370496+b:=
 MU (r:=52) ha hb uv h
theorem al0(x:Int):x*2 ^ (min 52 64)=x*4503599627370496:=rfl
theorem tg{a b:Int}(ha:0<=a)(hb:0<=b)(uv:b<4294967296)(h:a*4294967296+b<18446744073709551616):bits .or .u64 (a*4294967296) b=a*4294967296+b:=
 MU (r:=32) ha hb uv h
theorem Hk(x:Int):x*2 ^ (min 32 64)=x*4294967296:=rfl
theorem th{n:Int}(h:0<=n):n.tdiv 10=n / 10:=Int.tdiv_eq_ediv_of_nonneg h
theorem ti{n:Int}(h:0<=n):n.tmod 10=n % 10:=Int.tmod_eq_emod_of_nonneg h
theorem tm{b:Int}(hb:0<=b)(uv:b<4503599627370496):bits .or .u64 b 4503599627370496=b+4503599627370496:=by
 have h:=rL (a:=1) (b:=b) (by omega) hb uv (by omega);rw[show(1:Int)*4503599627370496=4503599627370496 from rfl]at h;have hc:bits .or .u64 b 4503599627370496=bits .or .u64 4503599627370496 b:=by
  unfold bits;simp only[BitVec.or_comm]
 rw[hc,h];omega
end Go.Pi
end
section
namespace Go.Pi
structure Dk(P A B E:Nat):Prop where
 lt:A*P<9007199254740992*(B*2 ^ E)
 ge:E=0\/∃E',E=E'+1/\9007199254740992*(B*2 ^ E')<=A*P
def Dl(N D:Nat):Nat:=if D<2*(N % D)\/(2*(N % D)=D/\(N / D) % 2=1)then N / D+1 else N / D
def yo(P A B r:Nat):Prop:=∃E,Dk P A B E/\r=min (E*4503599627370496+Dl (A*P) (B*2 ^ E)) (2047*4503599627370496)
theorem Yj(B:Nat){a b:Nat}(h:a<b):2*(B*2 ^ a)<=B*2 ^ b:=by
 obtain⟨k,rfl⟩:∃k,b=a+1+k:=⟨b - (a+1),by omega⟩;have h1:2 ^ (a+1+k)=2 ^ a*2*2 ^ k:=by rw[Nat.pow_add,Nat.pow_succ]
 have h2:1<=2 ^ k:=Nat.one_le_two_pow;have h3:B*2 ^ (a+1+k)=2*(B*2 ^ a)*2 ^ k:=by rw[h1,<-Nat.mul_assoc,<-Nat.mul_assoc,Nat.mul_comm 2 (B*2 ^ a)]
 rw[h3];exact Nat.le_mul_of_pos_right _ h2
theorem Yk{N D m:Nat}(hD:0<D)(h1:m*D<=N->2*(N - m*D)<D)(h2:N<m*D->2*(m*D - N)<D):Dl N D=m:=by
 unfold Dl;by_cases h:m*D<=N
 ·have h3:=h1 h;have hq:N / D=m:=Nat.div_eq_of_lt_le h (by rw[Nat.succ_mul];omega);have hr:N % D=N - m*D:=by
   have:=Nat.div_add_mod N D;rw[hq,Nat.mul_comm]at this;omega
  rw[hq,hr,if_neg];omega
 ·have h3:=h2 (by omega);obtain⟨k,rfl⟩:∃k,m=k+1:=by
   cases m with
   |zero=>omega
   |succ k=>exact⟨k,rfl⟩
  have e0:(k+1)*D=k*D+D:=Nat.succ_mul k D;have hq:N / D=k:=Nat.div_eq_of_lt_le (by omega) (by omega);have hr:N % D=N - k*D:=by
   have:=Nat.div_add_mod N D;rw[hq,Nat.mul_comm]at this;omega
  rw[hq,hr,if_pos];left;omega
theorem Yl{P A B m E r:Nat}(hB:0<B)(h:yo P A B r)(hm:m<9007199254740992)(hE:E=0\/4503599627370496<=m)(p6:E<=2045)
 (c1:m*(B*2 ^ E)<=A*P->2*(A*P - m*(B*2 ^ E))<B*2 ^ E)
 (c2:A*P<m*(B*2 ^ E)->2*(m*(B*2 ^ E) - A*P)<B*2 ^ E)
 (c3:A*P<m*(B*2 ^ E)->m=4503599627370496->4*(m*(B*2 ^ E) - A*P)<B*2 ^ E):r=E*4503599627370496+m:=by
 obtain⟨E',⟨cE,qp⟩,rfl⟩:=h;have hD:0<B*2 ^ E:=Nat.mul_pos hB (Nat.pow_pos (by decide));have hD':0<B*2 ^ E':=Nat.mul_pos hB (Nat.pow_pos (by decide));obtain⟨N,hN⟩:∃N,N=A*P:=⟨_,rfl⟩;rw[<-hN]at cE c1 c2 c3 qp⊢;have hmD:m*(B*2 ^ E)+B*2 ^ E<=9007199254740992*(B*2 ^ E):=by
  rw[<-Nat.succ_mul];exact Nat.mul_le_mul_right _ hm
 have aV:E'<=E:=by
  refine Nat.le_of_not_lt fun Ht=>?_
  rcases qp with h0|⟨k,rfl,hk⟩
  ·omega
  ·have:B*2 ^ E<=B*2 ^ k:=Nat.mul_le_mul_left _ (Nat.pow_le_pow_right (by decide) (by omega));omega
 by_cases hc:E=0\/4503599627370496*(B*2 ^ E)<=N
 ·have e:E'=E:=by
   refine Nat.le_antisymm aV (Nat.le_of_not_lt fun Ht=>?_);have:=Yj B Ht;omega
  subst e;rw[Yk hD c1 c2];omega
 ·have hE0:E≠0:=fun h=>hc (.inl h)
  have Ym:N<4503599627370496*(B*2 ^ E):=Nat.lt_of_not_le fun h=>hc (.inr h)
  have vC:4503599627370496<=m:=hE.resolve_left hE0;have au0:m=4503599627370496:=by
   refine Nat.le_antisymm (Nat.le_of_not_lt fun h4=>?_) vC;have h5:(4503599627370496+1)*(B*2 ^ E)<=m*(B*2 ^ E):=Nat.mul_le_mul_right _ h4;rw[Nat.succ_mul]at h5;have:=c2 (by omega);omega
  subst au0;have h4:=c3 Ym rfl;obtain⟨F,rfl⟩:∃F,E=F+1:=⟨E - 1,by omega⟩;have hF:B*2 ^ (F+1)=2*(B*2 ^ F):=by rw[Nat.pow_succ,Nat.mul_comm (2 ^ F) 2,Nat.mul_left_comm]
  rw[hF]at h4 Ym hmD;have e:E'=F:=by
   have h6:E'<=F:=by
    refine Nat.le_of_not_lt fun h7=>?_
    have:E'=F+1:=by omega
    subst this;rcases qp with h0|⟨k,fw,hk⟩
    ·omega
    ·have:k=F:=by omega
     subst this;omega
   refine Nat.le_antisymm h6 (Nat.le_of_not_lt fun Ht=>?_);have:=Yj B Ht;omega
  subst e;rw[Yk (m:=9007199254740992) hD' (by omega) (by omega)];omega
end Go.Pi
end
section
namespace Go.Pi
theorem au1{N m D U:Nat}(hm:m<9007199254740992)(hU:10000000000000000*U<=m*D)(hD:0<D)(h1:2*(N - m*D)<=U)(h2:2*(m*D - N)<=U):
 (m*D<=N->2*(N - m*D)<D)/\(N<m*D->2*(m*D - N)<D)/\(N<m*D->m=4503599627370496->4*(m*D - N)<D):=by
 have h3:m*D<=9007199254740991*D:=Nat.mul_le_mul_right _ (by omega);refine⟨fun _=>by omega,fun _=>by omega,fun _ h=>?_⟩;subst h;omega
theorem Yn{x y Q:Nat}(hy:0<y)(hQ:Q=if y<=2*(x % y)then x / y+1 else x / y):2*(x - Q*y)<=y/\2*(Q*y - x)<=y:=by
 have h:=Nat.div_add_mod x y;have hr:=Nat.mod_lt x hy;have e1:(x / y+1)*y=y*(x / y)+y:=by grind
 have e2:x / y*y=y*(x / y):=Nat.mul_comm _ _;split at hQ
 ·subst hQ;rw[e1];omega
 ·subst hQ;rw[e2];omega
theorem Yo{b u v w:Nat}(hb:0<b)(h:2*(b*u - b*v)<=b*w):2*(u - v)<=w:=by
 rw[<-Nat.mul_sub,<-Nat.mul_assoc,Nat.mul_comm 2 b,Nat.mul_assoc]at h;exact Nat.le_of_mul_le_mul_left h hb
theorem Yp{P a b m u B N y' x' t Q:Nat}(hb:0<b)(hB:0<B)(hu:0<u)(hx:a*P=m*u*b)(hm:m<9007199254740992)(lJ:10000000000000000*t*b<=a*B)
 (n1:2*(x' - Q*y')<=y')(n2:2*(Q*y' - x')<=y')(hy':y'=b*t)(qw:x'=a*B)(hN:N=Q*t):
 (m*(B*u)<=N*P->2*(N*P - m*(B*u))<B*u)/\(N*P<m*(B*u)->2*(m*(B*u) - N*P)<B*u)/\(N*P<m*(B*u)->m=4503599627370496->4*(m*(B*u) - N*P)<B*u):=by
 subst hy' qw hN;have e1:b*(Q*t*P)=P*(Q*(b*t)):=by grind
 have e2:b*(m*(B*u))=P*(a*B):=by grind
 refine au1 (U:=P*t) hm ?_ (Nat.mul_pos hB hu) ?_ ?_
 ·refine Nat.le_of_mul_le_mul_left ?_ hb;rw[e2,show b*(10000000000000000*(P*t))=P*(10000000000000000*t*b)by grind];exact Nat.mul_le_mul_left _ lJ
 ·refine Yo hb ?_;rw[e1,e2,<-Nat.mul_sub,show b*(P*t)=P*(b*t)by grind,show 2*(P*(Q*(b*t) - a*B))=P*(2*(Q*(b*t) - a*B))by grind];exact Nat.mul_le_mul_left _ n2
 ·refine Yo hb ?_;rw[e1,e2,<-Nat.mul_sub,show b*(P*t)=P*(b*t)by grind,show 2*(P*(a*B - Q*(b*t)))=P*(2*(a*B - Q*(b*t)))by grind];exact Nat.mul_le_mul_left _ n1
theorem au3{P a b m E i Q r:Nat}(hb:0<b)(hx:a*P=m*2 ^ E*b)(hm:m<9007199254740992)(hE:E=0\/4503599627370496<=m)(p6:E<=2045)
 (lJ:10000000000000000*10 ^ i*b<=a)(hQ:Q=if b*10 ^ i<=2*(a % (b*10 ^ i))then a / (b*10 ^ i)+1 else a / (b*10 ^ i))(hr:yo P (Q*10 ^ i) 1 r):r=E*4503599627370496+m:=by
 have hp:0<10 ^ i:=Nat.pow_pos (by decide);have h2:0<2 ^ E:=Nat.pow_pos (by decide);obtain⟨n1,n2⟩:=Yn (Nat.mul_pos hb hp) hQ;obtain⟨c1,c2,c3⟩:=Yp (B:=1) (N:=Q*10 ^ i) hb (by decide) h2 hx hm (by omega) n1 n2 rfl (by omega) rfl;exact Yl (by decide) hr hm hE p6 c1 c2 c3
theorem au4{P a b m E j Q r:Nat}(hb:0<b)(hx:a*P=m*2 ^ E*b)(hm:m<9007199254740992)(hE:E=0\/4503599627370496<=m)(p6:E<=2045)
 (lJ:10000000000000000*b<=a*10 ^ j)(hQ:Q=if b<=2*(a*10 ^ j % b)then a*10 ^ j / b+1 else a*10 ^ j / b)(hr:yo P Q (10 ^ j) r):r=E*4503599627370496+m:=by
 have hp:0<10 ^ j:=Nat.pow_pos (by decide);have h2:0<2 ^ E:=Nat.pow_pos (by decide);obtain⟨n1,n2⟩:=Yn hb hQ;obtain⟨c1,c2,c3⟩:=Yp (B:=10 ^ j) (N:=Q) (t:=1) hb hp h2 hx hm (by omega) n1 n2 (by omega) rfl (by omega);exact Yl hp hr hm hE p6 c1 c2 c3
theorem au5{P A B E q r v:Nat}(h:Dk P A B E)(hq:q=A*P / (B*2 ^ E))(hr:r=A*P % (B*2 ^ E)){q2:Nat}(eu:q2=if B*2 ^ E<2*r\/2*r=B*2 ^ E/\q % 2=1 then q+1 else q)
 (hv:v=min (E*4503599627370496+q2) (2047*4503599627370496)):yo P A B v:=by
 subst hq hr eu;exact⟨E,h,by rw[hv,Dl]⟩
end Go.Pi
end
