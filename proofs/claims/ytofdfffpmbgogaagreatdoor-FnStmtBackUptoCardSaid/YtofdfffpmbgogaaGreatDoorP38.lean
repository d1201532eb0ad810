import Derived.Test.YtofdfffpmbgogaaGreatDoorP08
import Derived.Test.YtofdfffpmbgogaaGreatDoorP09
import Derived.Test.YtofdfffpmbgogaaGreatDoorP10
import Derived.Test.YtofdfffpmbgogaaGreatDoorP11
import Derived.Test.YtofdfffpmbgogaaGreatDoorP12
import Derived.Test.YtofdfffpmbgogaaGreatDoorP13
import Derived.Test.YtofdfffpmbgogaaGreatDoorP18
import Derived.Test.YtofdfffpmbgogaaGreatDoorP29
/- Part of the proof. -/
set_option linter.all false
section
namespace Go.Pi
section
variable{T:Nat->Option FX}{X:aS}{G:Nat->PV}{Q:Ex->St->Prop}{w:List Wk}
variable{i len id n:Nat}{tr:er}{d:Option Nat}{os:List XO}{t:Nat->PV}{H:al}
def Sc(T:Nat->Option FX)(X:aS)(G:Nat->PV)(f:Nat)(s:ByteArray)(args:List PV)(Hl:Int->Prop)(R:Int->Int->Int->Int->PV->Prop):Prop:=
 ∀(e:Nat)(sc ln:Bool)(bB cT:Int),0<=bB->bB<=(s.size:Int)->Hl bB->∃r cells,Fn T X G f (.ptr 0 0 0::args) (some ⟨e,0,[.str s,.int .i64 bB,.bool sc,.bool ln,.int .i64 cT],0⟩) r cells/\
  ∃(cR:Int)(fh:Bool)(dg:Int),cells=[.str s,.int .i64 cR,.bool sc,.bool fh,.int .i64 dg]/\bB<=cR/\cR<=(s.size:Int)/\R bB cT cR dg r
theorem gA{f b g e:Nat}{s:ByteArray}{sc ln:Bool}{bB cT:Int}{args:List PV}{Hl:Int->Prop}{R:Int->Int->Int->Int->PV->Prop}(hM:Sc T X G f s args Hl R)
 (h0:H b=some ⟨e,g,[.str s,.int .i64 bB,.bool sc,.bool ln,.int .i64 cT],0⟩)(h1:0<=bB)(h2:bB<=(s.size:Int))(hp:Hl bB)(hd:aP args=true)
 (k:∀r(cR:Int)(fh:Bool)(dg:Int),bB<=cR->cR<=(s.size:Int)->R bB cT cR dg r->M T X G (.ops i os len tr::w) ⟨put t d r,H.put b (some ⟨e,g,[.str s,.int .i64 cR,.bool sc,.bool fh,.int .i64 dg],0⟩),n⟩ Q)(eT:lj f=false:=by rfl):
 MC T X G f (.ptr b g 0::args) d i os len tr w t H n Q:=by
 obtain⟨r,cells,hf,cR,fh,dg,rfl,ha,hb,hr⟩:=hM e sc ln bB cT h1 h2 hp;refine qC eT h0 rfl (by rfl) (ly hd) (by rfl) ⟨r,_,hf,rfl,?_⟩;rw[oZ];exact k r cR fh dg ha hb hr
def yf(T:Nat->Option FX)(X:aS)(G:Nat->PV)(f:Nat)(s:ByteArray)(args:List PV)(R:Int->PV->Prop):Prop:=
 ∀(e:Nat)(sc ln:Bool)(bB cT:Int),0<=bB->bB<=(s.size:Int)->∃r,Fn T X G f (.ptr 0 0 0::args) (some ⟨e,0,[.str s,.int .i64 bB,.bool sc,.bool ln,.int .i64 cT],0⟩) r [.str s,.int .i64 bB,.bool sc,.bool ln,.int .i64 cT]/\R bB r
theorem o5{f b g e:Nat}{s:ByteArray}{sc ln:Bool}{bB cT:Int}{args:List PV}{R:Int->PV->Prop}(hM:yf T X G f s args R)
 (h0:H b=some ⟨e,g,[.str s,.int .i64 bB,.bool sc,.bool ln,.int .i64 cT],0⟩)(h1:0<=bB)(h2:bB<=(s.size:Int))(hd:aP args=true)
 (k:∀r,R bB r->M T X G (.ops i os len tr::w) ⟨put t d r,H,n⟩ Q)(eT:lj f=true:=by rfl):
 MC T X G f (.ptr b g 0::args) d i os len tr w t H n Q:=by
 obtain⟨r,hf,hr⟩:=hM e sc ln bB cT h1 h2;exact agn eT h0 rfl (by rfl) (ly hd) (by simp[wB,Ef]) ⟨r,hf,k r hr⟩
def jU(s:ByteArray)(m:Int):Int:=((s.data.toList.getD m.toNat 0).toNat:Int)
theorem aub{s:ByteArray}{m:Int}:0<=jU s m:=Int.natCast_nonneg _
theorem auc{s:ByteArray}{m:Int}:jU s m<256:=by
 unfold jU;have:=(s.data.toList.getD m.toNat 0).toNat_lt;omega
def WK(T:Nat->Option FX)(X:aS)(G:Nat->PV)(v j:PV)(d:Option Nat)(i:Nat)(os:List XO)(len:Nat)(tr:er)(w:List Wk)(t:Nat->PV)(H:al)(n:Nat)(Q:Ex->St->Prop):Prop:=
 ∃s m,v= .str s/\(∃k,j= .int k m)/\(0<=m/\m<(s.size:Int))/\M T X G (.ops i os len tr::w) ⟨put t d (.int .u8 (jU s m)),H,n⟩ Q
theorem wY{x j:bK}(h:WK T X G (ev G t x) (ev G t j) d (i+1) os len (push tr ([],[])) w t H n Q):M T X G (.ops i (⟨d,none,id,.sx x j⟩::os) len tr::w) ⟨t,H,n⟩ Q:=by
 obtain⟨s,m,h1,⟨k,h2⟩,h3,h4⟩:=h;rw[agJ];have e:runK (ev G t) H id (n+i) (.sx x j)=some (.int .u8 (jU s m),H):=by
  simp only[runK,cx,h1,h2,m8];rw[if_pos h3];rfl
 rw[e,kp];exact h4
theorem oh{s:ByteArray}{m:Int}{k:IntKind}(h1:0<=m)(h2:m<(s.size:Int))(h:∀b,b=jU s m->0<=b->b<256->M T X G (.ops i os len tr::w) ⟨put t d (.int .u8 b),H,n⟩ Q):WK T X G (.str s) (.int k m) d i os len tr w t H n Q:=
 ⟨s,m,rfl,⟨k,rfl⟩,⟨h1,h2⟩,h _ rfl aub auc⟩
def pn(s:ByteArray)(a b:Int):ByteArray:=s.extract a.toNat b.toNat
theorem MV{s:ByteArray}{a b:Int}(h0:0<=a)(h1:a<=b)(h2:b<=(s.size:Int)):((pn s a b).size:Int)=b - a:=by
 unfold pn;rw[ByteArray.size_extract];omega
def yg(d:Int):Option PV->Option Int
 |none=>some d
 |some (.int _ n)=>some n
 |_=>none
def WL(T:Nat->Option FX)(X:aS)(G:Nat->PV)(v:PV)(lo hi:Option PV)(d:Option Nat)(i:Nat)(os:List XO)(len:Nat)(tr:er)(w:List Wk)(t:Nat->PV)(H:al)(n:Nat)(Q:Ex->St->Prop):Prop:=
 ∃(s:ByteArray)(a b:Int),v= .str s/\yg 0 lo=some a/\yg s.size hi=some b/\(0<=a/\a<=b/\b<=(s.size:Int))/\M T X G (.ops i os len tr::w) ⟨put t d (.str (pn s a b)),H,n⟩ Q
theorem WM{dd:Nat}{x:Option bK}{a:Int}(h:yg dd (x.map (ev G t))=some a)(h0:0<=a):jh dd (ev G t) x=some a.toNat:=by
 cases x with
 |none=>simp only[Option.map_none,yg,Option.some.injEq]at h;subst h;rfl
 |some x=>
  simp only[Option.map_some]at h;unfold yg at h;simp only[jh];cases hx:ev G t x with
  |int k n=>
   simp only[hx,Option.some.injEq]at h;subst h;simp only[if_pos h0]
  |_=>simp[hx]at h
theorem wZ{x:bK}{lo hi:Option bK}(h:WL T X G (ev G t x) (lo.map (ev G t)) (hi.map (ev G t)) d (i+1) os len (push tr ([],[])) w t H n Q):M T X G (.ops i (⟨d,none,id,.jF x lo hi⟩::os) len tr::w) ⟨t,H,n⟩ Q:=by
 obtain⟨s,a,b,h1,h2,h3,⟨h4,h5,h6⟩,h7⟩:=h;rw[agH];have e1:jh 0 (ev G t) lo=some a.toNat:=WM (dd:=0) h2 h4;have e2:jh s.size (ev G t) hi=some b.toNat:=WM h3 (by omega);have e:runK (ev G t) H id (n+i) (.jF x lo hi)=some (.str (pn s a b),H):=by
  simp only[runK,cx,h1,e1,e2];rw[if_pos ⟨by omega,by omega⟩];rfl
 rw[e,kp];exact h7
theorem oi{s:ByteArray}{lo hi:Option PV}{a b:Int}(e1:yg 0 lo=some a)(e2:yg s.size hi=some b)(h0:0<=a)(h1:a<=b)(h2:b<=(s.size:Int))(h:∀z,z=pn s a b->(z.size:Int)=b - a->M T X G (.ops i os len tr::w) ⟨put t d (.str z),H,n⟩ Q):
 WL T X G (.str s) lo hi d i os len tr w t H n Q:=⟨s,a,b,rfl,e1,e2,⟨h0,h1,h2⟩,h _ rfl (MV h0 h1 h2)⟩
theorem ig{l:List Nat}:(bs l).size=l.length:=by
 simp only[bs,ByteArray.size,List.size_toArray,List.length_map]
noncomputable def MW(X:aS)(G:Nat->PV)(T:Nat->Option FX)(f:Nat)(args:List PV):Bool:=by
 classical exact if h:∃b,Pure T X G f args (fun r=>r= .bool b)then h.choose else false
theorem aud{f:Nat}{args:List PV}(h:Pure T X G f args (fun r=>∃b,r= .bool b)):Pure T X G f args (fun r=>r= .bool (MW X G T f args)):=by
 have h2:∃b,Pure T X G f args (fun r=>r= .bool b):=by
  obtain⟨r,c,h1,b,h2⟩:=h;exact⟨b,r,c,h1,h2⟩
 unfold MW;rw[dif_pos h2];exact h2.choose_spec
noncomputable def Hm(X:aS)(G:Nat->PV)(T:Nat->Option FX)(f:Nat)(args:List PV)(P:Int->Prop):Int:=by
 classical exact if h:∃b,P b/\Pure T X G f args (fun r=>r= .int .i64 b)then h.choose else 0
theorem aue{f:Nat}{args:List PV}{P:Int->Prop}(h:Pure T X G f args (fun r=>∃b,r= .int .i64 b/\P b)):P (Hm X G T f args P)/\Pure T X G f args (fun r=>r= .int .i64 (Hm X G T f args P)):=by
 have h2:∃b,P b/\Pure T X G f args (fun r=>r= .int .i64 b):=by
  obtain⟨r,c,h1,b,h2,h3⟩:=h;exact⟨b,h3,r,c,h1,h2⟩
 unfold Hm;rw[dif_pos h2];exact h2.choose_spec
noncomputable def Ar(X:aS)(G:Nat->PV)(T:Nat->Option FX)(f:Nat)(args:List PV)(P:Int->Int->Prop):Int×Int:=by
 classical exact if h:∃p:Int×Int,P p.1 p.2/\Pure T X G f args (fun r=>r= .bZ [.int .i64 p.1,.int .i64 p.2])then h.choose else(0,0)
theorem auf{f:Nat}{args:List PV}{P:Int->Int->Prop}(h:Pure T X G f args (fun r=>∃a b,r= .bZ [.int .i64 a,.int .i64 b]/\P a b)):
 P (Ar X G T f args P).1 (Ar X G T f args P).2/\Pure T X G f args (fun r=>r= .bZ [.int .i64 (Ar X G T f args P).1,.int .i64 (Ar X G T f args P).2]):=by
 have h2:∃p:Int×Int,P p.1 p.2/\Pure T X G f args (fun r=>r= .bZ [.int .i64 p.1,.int .i64 p.2]):=by
  obtain⟨r,c,h1,a,b,h2,h3⟩:=h;exact⟨(a,b),h3,r,c,h1,h2⟩
 unfold Ar;rw[dif_pos h2];exact h2.choose_spec
end
theorem aug:wQ []= .bZ []:=rfl
attribute [go_sem] aug af7
end Go.Pi
end
section
open Go Go.Pi
namespace Go.Pi
variable{p q a:Prop}
set_option maxRecDepth 100000
set_option maxHeartbeats 0
def FI(s:ByteArray)(bB:Int)(r n:Int):Prop:=0<=r/\r<=1114111/\0<=n/\n<=4/\bB+n<=(s.size:Int)
section
variable{X:aS}{G:Nat->PV}
namespace WN
theorem cr(h:p:=by
 first
 |((simp[*];done))<;>exact bp
 |fail):p:=h
end WN
theorem Rs(lo n hi:Int):Pure ai X G 190 [.int .i64 lo,.int .i64 n,.int .i64 hi] (fun r=>r= .bool (decide (lo<=n/\n<=hi))):=by
 refine ay ars af ?_;refine zA ?_;open WN Y1 in exact bp
theorem JL(n:Int):Pure ai X G 174 [.int .i64 n] (fun r=>r= .bool (decide (48<=n/\n<=57))):=by
 refine ay aq9 af ?_;refine zA ?_;open Y1 K9 in exact bp
theorem auh(n:Int):Pure ai X G 171 [.int .i64 n] Je:=by
 refine ay aqw af ?_;refine zA ?_;open Y1 Y9 in exact bp
noncomputable def WO(X:aS)(G:Nat->PV)(n:Int):Bool:=MW X G ai 171 [.int .i64 n]
theorem Rv(n:Int):Pure ai X G 171 [.int .i64 n] (fun r=>r= .bool (WO X G n)):=aud (auh n)
theorem WQ(n:Int):Pure ai X G 172 [.int .i64 n] Je:=by
 refine ay aqx af ?_;refine zA ?_;open Y1 Y9 K9 in exact bp
namespace WR
theorem cr(h:p:=by
 first
 |((refine⟨_,rfl,?_⟩;omega))<;>exact bp
 |fail):p:=h
theorem bw(h:p:=by
 first
 |exact FH
 |exact FG
 |fail):p:=h
end WR
theorem aui(n:Int)(h0:0<=n)(h1:n<256):Pure ai X G 209 [.int .i64 n] (fun r=>∃v,r= .int .i64 v/\(-1<=v/\v<=15)):=by
 refine ay arL af ?_;refine zA ?_;open WR Y1 in exact bp
noncomputable def As(X:aS)(G:Nat->PV)(n:Int):Int:=Hm X G ai 209 [.int .i64 n] (fun v=>-1<=v/\v<=15)
theorem Ry(n:Int)(h0:0<=n)(h1:n<256):Pure ai X G 209 [.int .i64 n] (fun r=>∃v,r= .int .i64 v/\v=As X G n/\-1<=v/\v<=15):=by
 obtain⟨h2,r,c,h3,h4⟩:=aue (aui (X:=X) (G:=G) n h0 h1);exact⟨r,c,h3,_,h4,rfl,h2⟩
namespace WS
theorem cr(h:p:=by
 first
 |((refine⟨_,_,rfl,?_⟩;unfold FI;omega))<;>exact bp
 |fail):p:=h
theorem xz(h:p:=by
 first
 |skip
  skip;refine b5 (fun m' s'=>∃(i r:Int),s'.t 0= .str s/\s'.t 1= .int .i64 bB/\s'.t 7= .int .i64 2/\s'.t 8= .int .i64 r/\s'.t 9= .int .i64 128/\s'.t 10= .int .i64 i/\(1<=i)/\m'=(2 - i).toNat) ?_ (n:=_) ⟨_,_,bV,bV,bV,bV,bV,bV,wM,rfl⟩;rintro m' ⟨t,H,k⟩ ⟨i,r,h0,h1,h7,h8,h9,dN,cg,hm⟩ next
  simp only at h0 h1 h7 h8 h9 dN;refine nA (Kj h0 (Kj h1 (Kj h7 (Kj h8 (Kj h9 dN))))) ?_;open Gk Gl Gm in exact bN
  done
 |fail):p:=h
theorem xA(h:p:=by
 first
 |skip
  skip;refine b5 (fun m' s'=>∃(i r:Int),s'.t 0= .str s/\s'.t 1= .int .i64 bB/\s'.t 7= .int .i64 3/\s'.t 8= .int .i64 r/\s'.t 9= .int .i64 2048/\s'.t 10= .int .i64 i/\(1<=i)/\m'=(3 - i).toNat) ?_ (n:=_) ⟨_,_,bV,bV,bV,bV,bV,bV,wM,rfl⟩;rintro m' ⟨t,H,k⟩ ⟨i,r,h0,h1,h7,h8,h9,dN,cg,hm⟩ next
  simp only at h0 h1 h7 h8 h9 dN;refine nA (Kj h0 (Kj h1 (Kj h7 (Kj h8 (Kj h9 dN))))) ?_;open Gk Gl Gm in exact bN
  done
 |fail):p:=h
theorem MX(h:p:=by
 first
 |skip
  skip;refine b5 (fun m' s'=>∃(i r:Int),s'.t 0= .str s/\s'.t 1= .int .i64 bB/\s'.t 7= .int .i64 4/\s'.t 8= .int .i64 r/\s'.t 9= .int .i64 65536/\s'.t 10= .int .i64 i/\(1<=i)/\m'=(4 - i).toNat) ?_ (n:=_) ⟨_,_,bV,bV,bV,bV,bV,bV,wM,rfl⟩;rintro m' ⟨t,H,k⟩ ⟨i,r,h0,h1,h7,h8,h9,dN,cg,hm⟩ next
  simp only at h0 h1 h7 h8 h9 dN;refine nA (Kj h0 (Kj h1 (Kj h7 (Kj h8 (Kj h9 dN))))) ?_;open Gk Gl Gm in exact bN
  done
 |fail):p:=h
theorem bj(h:p:=by
 first
 |skip
  all_goals (try (exfalso;omega;done))
  all_goals first
  |exact xz
  |exact xA
  |exact MX
  |fail
  done
 |fail):p:=h
end WS
theorem auj{s:ByteArray}(bB:Int)(hs:s.size<=4398046511104)(h0:0<=bB)(h1:bB<=(s.size:Int)):Pure ai X G 37 [.str s,.int .i64 bB] (fun v=>∃r n,v= .bZ [.int .i64 r,.int .i64 n]/\FI s bB r n):=by
 refine ay T37 af ?_;refine zA ?_;open WS Y1 in exact bp
noncomputable def Au(X:aS)(G:Nat->PV)(s:ByteArray)(bB:Int):Int×Int:=Ar X G ai 37 [.str s,.int .i64 bB] (FI s bB)
theorem Ro{s:ByteArray}(bB:Int)(hs:s.size<=4398046511104)(h0:0<=bB)(h1:bB<=(s.size:Int)):Pure ai X G 37 [.str s,.int .i64 bB] (fun v=>∃r n,v= .bZ [.int .i64 r,.int .i64 n]/\r=(Au X G s bB).1/\n=(Au X G s bB).2/\0<=r/\r<=1114111/\0<=n/\n<=4/\bB+n<=(s.size:Int)):=by
 obtain⟨h2,r,c,h3,h4⟩:=auf (auj (X:=X) (G:=G) bB hs h0 h1);exact⟨r,c,h3,_,_,h4,rfl,rfl,h2⟩
def rj(s:ByteArray)(bB:Int)(t:ByteArray):Bool:=decide ((t.size:Int)<=s.size - bB)&&((pn s bB (bB+t.size)).toList==t.toList)
namespace WT
theorem cr(h:p:=by
 first
 |((refine⟨_,rfl,fun _=>ad,?_⟩;simp[rj, *];done))<;>exact bp
 |((refine⟨_,rfl,fun h=>absurd h Bool.false_ne_true,?_⟩;simp[rj, *];done))<;>exact bp
 |fail):p:=h
end WT
theorem RI{s:ByteArray}(hs:s.size<=4398046511104)(t:ByteArray)(ht:t.size<=4398046511104):yf ai X G 167 s [.str t] (fun bB r=>∃b',r= .bool b'/\(b'=true->bB+(t.size:Int)<=(s.size:Int))/\b'=rj s bB t):=by
 intro e sc ln bB cT h0 h1;have key:∃r cells,Fn ai X G 167 (.ptr 0 0 0::[.str t]) (some ⟨e,0,[.str s,.int .i64 bB,.bool sc,.bool ln,.int .i64 cT],0⟩) r cells/\cells=[.str s,.int .i64 bB,.bool sc,.bool ln,.int .i64 cT]/\∃b',r= .bool b'/\(b'=true->bB+(t.size:Int)<=(s.size:Int))/\b'=rj s bB t:=by
  refine ay aqs af ?_;refine zA ?_;open WT Y1 in exact bp
 obtain⟨r,cells,hf,rfl,hr⟩:=key;exact⟨r,hf,hr⟩
theorem Hn{s:ByteArray}(hs:s.size<=4398046511104)(l:List Nat)(n:Nat)(hl:l.length=n)(hn:n<=1000):yf ai X G 167 s [.str (bs l)] (fun bB r=>∃b',r= .bool b'/\(b'=true->bB+(n:Int)<=(s.size:Int))/\b'=rj s bB (bs l)):=by
 have:=RI (X:=X) (G:=G) hs (bs l) (by rw[ig];omega);rw[ig,hl]at this;exact this
theorem zZ{s:ByteArray}(hs:s.size<=4398046511104)(a:Nat):yf ai X G 167 s [.str (bs [a])] (fun bB r=>∃b',r= .bool b'/\(b'=true->bB+1<=(s.size:Int))/\b'=rj s bB (bs [a])):=Hn hs [a] 1 rfl aJ
theorem FJ{s:ByteArray}(hs:s.size<=4398046511104)(a b:Nat):yf ai X G 167 s [.str (bs [a,b])] (fun bB r=>∃b',r= .bool b'/\(b'=true->bB+2<=(s.size:Int))/\b'=rj s bB (bs [a,b])):=Hn hs [a,b] 2 rfl aJ
theorem auk{s:ByteArray}(hs:s.size<=4398046511104)(a b c:Nat):yf ai X G 167 s [.str (bs [a,b,c])] (fun bB r=>∃b',r= .bool b'/\(b'=true->bB+3<=(s.size:Int))/\b'=rj s bB (bs [a,b,c])):=Hn hs [a,b,c] 3 rfl aJ
theorem aul{s:ByteArray}(hs:s.size<=4398046511104)(a b c d:Nat):yf ai X G 167 s [.str (bs [a,b,c,d])] (fun bB r=>∃b',r= .bool b'/\(b'=true->bB+4<=(s.size:Int))/\b'=rj s bB (bs [a,b,c,d])):=Hn hs [a,b,c,d] 4 rfl aJ
namespace WU
theorem cr(h:p:=by
 first
 |((refine⟨_,_,_,rfl,ad,ad,rfl,ad,ad⟩))<;>exact bp
 |fail):p:=h
end WU
theorem FK{s:ByteArray}(what:Int):Sc ai X G 170 s [.int .i64 what] (fun _=>True) (fun bB cT cR dg r=>bB=cR/\(cT=0->dg=what)/\(cT≠0->dg=cT)):=by
 intro e sc ln bB cT h0 h1 _;refine ay aqv af ?_;refine zA ?_;open WU Y1 in exact bp
namespace WV
theorem cr(h:p:=by
 first
 |((refine⟨_,_,_,rfl,ad,ad,rfl,rfl,_,_,rfl,pG,gj,r4,qR,iv,tE,o3⟩))<;>exact bp
 |fail):p:=h
theorem bw(h:p:=by
 first
 |(refine aO (Ro _ hs h0 h1) pP fe ?_;rintro _ ⟨r,n,rfl,pG,gj,r4,qR,iv,tE,o3⟩;(refine aU aI ?_;exact bp))
 |fail):p:=h
end WV
theorem zY{s:ByteArray}(hs:s.size<=4398046511104):Sc ai X G 169 s [] (fun _=>True) (fun bB cT cR dg v=>bB=cR/\cT=dg/\∃r n,v= .bZ [.int .i64 r,.int .i64 n]/\r=(Au X G s bB).1/\n=(Au X G s bB).2/\0<=r/\r<=1114111/\0<=n/\n<=4/\bB+n<=(s.size:Int)):=by
 intro e sc ln bB cT h0 h1 _;refine ay aqu af ?_;refine zA ?_;open WV Y1 in exact bp
namespace WW
theorem aU(x:a)(g:q)(h:a->q->p:=by(intro x g;exact nA (Kj x (Kj h0 (Kj e0 aI))) g)):p:=h x g
theorem Qf(h:p:=by
 first
 |(refine next _ ?_ _ ⟨_,_,Fo,Fo,wM,wM,rfl⟩;exact wM)
 |fail):p:=h
theorem cr(h:p:=by
 first
 |((refine⟨_,_,_,rfl,ad,ad,rfl,fun kT lD WX=>?_⟩;(first|omega|(rcases Int.lt_or_eq_of_le cg with cE|hpe;(focus omega);subst hpe;first|omega|(rw[<-pG]at WX;simp_all;done)))))<;>exact bp
 |fail):p:=h
theorem bw(h:p:=by
 first
 |exact Rt
 |exact Ru
 |fail):p:=h
end WW
theorem WY{s:ByteArray}(hs:s.size<=4398046511104):Sc ai X G 168 s [] (fun _=>True) (fun bB cT cR dg _=>cT=dg/\(bB<s.size->(Au X G s bB).2≠0->WO X G (Au X G s bB).1=false->bB<cR)):=by
 intro e sc ln bB cT h0 h1 _;refine ay aqt af ?_;refine zA ?_;refine b5 (fun m' s'=>∃(p:Int)(l2:Bool),s'.t 0= .ptr 0 0 0/\s'.H 0=some ⟨e,0,[.str s,.int .i64 p,.bool sc,.bool l2,.int .i64 cT],0⟩/\(bB<=p)/\(p<=s.size)/\m'=(s.size - p).toNat) ?_ (n:=_) ⟨_,_,bV,bV,wM,wM,rfl⟩;rintro m' ⟨t,H,k⟩ ⟨p,l2,h0,e0,cg,dH,hm⟩ next
 simp only at h0 e0;refine nA (Kj h0 e0) ?_;open WW in exact bp
namespace WZ
theorem bx(x:a)(g:q)(h:a->q->p:=by(intro x g;exact nA (Kj x (Kj h0 (Kj e0 aI))) g)):p:=h x g
theorem gT(h:p:=by
 first
 |(refine next _ ?_ _ ⟨_,_,_,Fo,Fo,wM,wM,rfl⟩;exact wM)
 |fail):p:=h
theorem gw(h:p:=by
 first
 |((refine⟨_,_,_,rfl,ad,ad,ad⟩))<;>exact bN
 |fail):p:=h
theorem cw(h:p:=by
 first
 |exact Rw
 |exact Rx
 |exact xo
 |exact JM
 |fail):p:=h
end WZ
namespace W0
theorem bj(h:p:=by
 first
 |skip
  refine b5 (fun m' s'=>∃(p:Int)(l2:Bool)(b2:Int),s'.t 0= .ptr 0 0 0/\s'.H 0=some ⟨e,0,[.str s,.int .i64 p,.bool sc,.bool l2,.int .i64 b2],0⟩/\(bB<p)/\(p<=s.size)/\m'=(s.size - p).toNat) ?_ (n:=_) ⟨_,_,_,bV,bV,wM,wM,rfl⟩;rintro m' ⟨t,H,k⟩ ⟨p,l2,b2,h0,e0,cg,dH,hm⟩ next
  simp only at h0 e0;refine nA (Kj h0 e0) ?_;open WZ in exact bN
  done
 |fail):p:=h
end W0
theorem aun{s:ByteArray}(hs:s.size<=4398046511104):Sc ai X G 173 s [] (fun a=>a+2<=(s.size:Int)) (fun bB cT cR dg _=>bB<cR):=by
 intro e sc ln bB cT h0 h1 mF;have mF:bB+2<=(s.size:Int):=mF;refine ay aqy af ?_;refine zA ?_;open W0 Y1 in exact bp
end
end Go.Pi
end
section
open Go Go.Pi
namespace Go.Pi
variable{p q a:Prop}
set_option maxRecDepth 100000
set_option maxHeartbeats 0
section
variable{X:aS}{G:Nat->PV}
namespace W1
theorem bx(x:a)(g:q)(h:a->q->p:=by(intro x g;exact nA (Kj x (Kj h0 (Kj h1 (Kj h6 (Kj h7 (Kj e0 aI)))))) g)):p:=h x g
theorem gT(h:p:=by
 first
 |(refine next _ ?_ _ ⟨_,_,_,BO,BO,BO,BO,BO,wM,wM,wM,rfl⟩;exact wM)
 |fail):p:=h
theorem cw(h:p:=by
 first
 |exact JN
 |fail):p:=h
end W1
namespace W2
theorem bj(h:p:=by
 first
 |skip
  refine b5 (fun m' s'=>∃(p v i:Int),s'.t 0= .ptr 0 0 0/\s'.t 1= .int .i64 d/\s'.t 6= .int .i64 v/\s'.t 7= .int .i64 i/\s'.H 0=some ⟨e,0,[.str s,.int .i64 p,.bool sc,.bool ln,.int .i64 cT],0⟩/\(bB<=p)/\(p<=s.size)/\(0<=i)/\m'=(d - i).toNat) ?_ (n:=_) ⟨_,_,_,bV,bV,bV,bV,bV,wM,wM,wM,rfl⟩;rintro m' ⟨t,H,k⟩ ⟨p,v,i,h0,h1,h6,h7,e0,cg,dH,eu,hm⟩ next
  simp only at h0 h1 h6 h7 e0;refine nA (Kj h0 (Kj h1 (Kj h6 (Kj h7 e0)))) ?_;open W1 La in exact bN
  done
 |fail):p:=h
end W2
theorem W3{s:ByteArray}(hs:s.size<=4398046511104)(d:Int)(hd:0<=d/\d<=8):Sc ai X G 205 s [.int .i64 d] (fun _=>True) (fun bB cT cR dg r=>cT=dg/\∃v b,r= .bZ [.int .i64 v,.bool b]):=by
 intro e sc ln bB cT h0 h1 _;refine ay arH af ?_;refine zA ?_;open W2 Y1 in exact bp
namespace W4
theorem gT(h:p:=by
 first
 |(refine next _ ?_ _ ⟨_,_,_,_,xe,xe,xe,xe,wM,wM,rfl⟩;exact wM)
 |fail):p:=h
theorem cw(h:p:=by
 first
 |exact JN
 |(refine o5 (zZ hs _) ol ad ad iK (fun r hr=>?_);obtain⟨b,rfl,hb,pZ⟩:=hr;cases b;all_goals (first|(have hb:=hb rfl)|clear hb);all_goals (refine bx aI ?_;exact bN))
 |fail):p:=h
end W4
namespace W5
theorem cr(h:p:=by
 first
 |((refine⟨_,_,_,rfl,ad,ad,rfl,_,_,rfl⟩))<;>exact bp
 |fail):p:=h
theorem bw(h:p:=by
 first
 |(refine o5 (zZ hs _) lA ad ad fe (fun r hr=>?_);obtain⟨b,rfl,hb,pZ⟩:=hr;cases b;all_goals (first|(have hb:=hb rfl)|clear hb);all_goals (refine aU aI ?_;exact bp))
 |(refine gA (W3 hs 4 ad) lA ad ad gx fe (fun r cR fh dg fc gL hr=>?_);obtain⟨rfl,v,b,rfl⟩:=hr;(refine aU aI ?_;exact bp))
 |fail):p:=h
theorem bj(h:p:=by
 first
 |skip
  refine b5 (fun m' s'=>∃(p v i:Int)(l2:Bool),s'.t 0= .ptr 0 0 0/\s'.t 4= .int .i64 v/\s'.t 5= .int .i64 i/\s'.H 0=some ⟨e,0,[.str s,.int .i64 p,.bool sc,.bool l2,.int .i64 cT],0⟩/\(bB<=p)/\(p<=s.size)/\m'=(s.size - p).toNat) ?_ (n:=_) ⟨_,_,_,_,bV,bV,bV,bV,wM,wM,rfl⟩;rintro m' ⟨t,H,k⟩ ⟨p,v,i,l2,h0,h4,h5,e0,cg,dH,hm⟩ next
  simp only at h0 h4 h5 e0;refine nA (Kj h0 (Kj h4 (Kj h5 e0))) ?_;open W4 Lb La in exact bN
  done
 |fail):p:=h
end W5
theorem W6{s:ByteArray}(hs:s.size<=4398046511104):Sc ai X G 206 s [] (fun _=>True) (fun bB cT cR dg r=>cT=dg/\∃v b,r= .bZ [.int .i64 v,.bool b]):=by
 intro e sc ln bB cT h0 h1 _;refine ay arI af ?_;refine zA ?_;open W5 Y1 in exact bp
def MY(r:PV):Prop:=∃n,r= .int .i64 n
theorem auo(n:Int):Pure ai X G 197 [.int .i64 n] MY:=by
 refine ay arz af ?_;refine zA ?_;open Y1 Y9 in exact bp
namespace W7
theorem bw(h:p:=by
 first
 |exact FG
 |exact Ru
 |(refine aO (WQ _) pP fe ?_;rintro _ ⟨b,rfl⟩;(refine aU aI ?_;exact bp))
 |fail):p:=h
end W7
theorem aup(n:Int):Pure ai X G 198 [.int .i64 n] MY:=by
 refine ay arA af ?_;refine zA ?_;open W7 Y1 Y9 in exact bp
namespace W8
theorem bw(h:p:=by
 first
 |exact FG
 |exact FH
 |(refine aO (auo _) pP fe ?_;rintro _ ⟨v,rfl⟩;(refine aU aI ?_;exact bp))
 |(refine aO (aup _) pP fe ?_;rintro _ ⟨v,rfl⟩;(refine aU aI ?_;exact bp))
 |fail):p:=h
end W8
theorem M0(n:Int):Pure ai X G 176 [.int .i64 n] MY:=by
 refine ay arb af ?_;refine zA ?_;open W8 Y1 Y9 in exact bp
namespace W9
theorem cr(h:p:=by
 first
 |((refine⟨_,_,_,rfl,ad,ad,_,_,rfl,ad⟩))<;>exact bp
 |fail):p:=h
theorem bw(h:p:=by
 first
 |exact Rt
 |exact Rz
 |(refine gA (W6 hs) lA ad ad gx fe (fun r cR fh dg fc gL hr=>?_);obtain⟨rfl,v,b2,rfl⟩:=hr;(refine aU aI ?_;exact bp))
 |exact B8
 |(refine aO (M0 _) pP fe ?_;rintro _ ⟨v2,rfl⟩;(refine aU aI ?_;exact bp))
 |fail):p:=h
end W9
theorem auq{s:ByteArray}(hs:s.size<=4398046511104)(first:Bool):Sc ai X G 199 s [.bool first] (fun _=>True) (fun bB cT cR dg r=>∃v b,r= .bZ [.int .i64 v,.bool b]/\(0<=v->bB<cR)):=by
 intro e sc ln bB cT h0 h1 _;refine ay arB af ?_;refine zA ?_;open W9 Y1 in exact bp
def pX(cells:List PV):Prop:=∀c,c∈cells->∃n:Int,c= .int .u8 n/\0<=n/\n<256
theorem vt(n:Int):0<=IntKind.wrap .u8 n/\IntKind.wrap .u8 n<256:=by
 have e:IntKind.wrap .u8 n=n % 256:=by simp[IntKind.wrap,IntKind.bits,IntKind.signed]
 rw[e];omega
theorem pX.io{cells:List PV}{o:Nat}{n:Int}(h:pX cells)(h0:0<=n)(h1:n<256):pX (io cells o [.int .u8 n]):=by
 intro c hc;simp only[Go.Pi.io,List.mem_append,List.mem_singleton]at hc;rcases hc with(hc|hc)|hc
 ·exact h c (List.mem_of_mem_take hc)
 ·exact⟨n,hc,h0,h1⟩
 ·exact h c (List.mem_of_mem_drop hc)
theorem QD{cells:List PV}{o:Nat}{v:PV}(h:o<cells.length):(io cells o [v]).length=cells.length:=by
 simp only[io,List.length_append,List.length_take,List.length_cons,List.length_nil,List.length_drop];omega
theorem M1:∀{cells:List PV},pX cells->∃l,qi cells=some l/\l.length=cells.length
 |[],_=>⟨[],rfl,rfl⟩
 |c::cs,h=>by
  obtain⟨n,rfl,_,_⟩:=h c af;obtain⟨l,h1,h2⟩:=M1 (cells:=cs) fun x hx=>h x (by simp[hx])
  exact⟨UInt8.ofNat n.toNat::l,by simp only[qi,h1,Option.map_some],by simp[h2]⟩
theorem pX.rR{n:Nat}:pX (List.replicate n [PV.int .u8 0]).flatten:=by
 intro c hc;simp only[List.mem_flatten,List.mem_replicate]at hc;obtain⟨l,⟨_,rfl⟩,hc⟩:=hc;simp only[List.mem_singleton]at hc;exact⟨0,hc,ad,ad⟩
theorem QC{n:Nat}{v:PV}:(List.replicate n [v]).flatten.length=n:=by
 simp
def vv(v:PV):Prop:=aB (fun y=>∃n:Int,y=[.int .i64 n]) v
theorem vv.of{xs:List (List PV)}(h:∀y,y∈xs->∃n:Int,y=[.int .i64 n])(hl:xs.length<=1000):vv (.sl xs):=
 ⟨.inr ⟨xs,rfl,ad⟩,by simp only[aw];exact qo fun y hy=>by obtain⟨n,rfl⟩:=h y hy;rfl,h⟩
namespace Xa
theorem bx(x:a)(g:q)(h:a->q->p:=by(intro x g;exact nA (Kj x (Kj h0 (Kj h3 (Kj h4 (Kj xj (Kj lv.1 (Kj @Int.toNat_natCast aI))))))) g)):p:=h x g
theorem gT(h:p:=by
 first
 |(refine next _ ?_ _ ⟨_,_,_,Fj,Fj,Fj,Fj,Jr,Jr,Jr,rfl⟩;(first|exact wM|exact QC|exact pX.rR|exact pX.io eu (vt _).1 (vt _).2|exact(QD ad).trans dH))
 |fail):p:=h
theorem cw(h:p:=by
 first
 |((refine cO (P:=fun y=>∃n:Int,y=[.int .i64 n]) (fun h=>by obtain⟨n,rfl⟩:=h;rfl) lv ad ad (fun y hy b6 hg=>?_);obtain⟨yn,rfl⟩:=hy;refine nA (Kj h0 (Kj h3 (Kj h4 (Kj xj (Kj lv.1 @Int.toNat_natCast))))) ?_))<;>exact bN
 |((refine wX ad ad ?_;refine nA (Kj h0 (Kj h3 (Kj h4 (Kj xj (Kj lv.1 @Int.toNat_natCast))))) ?_))<;>exact bN
 |fail):p:=h
theorem fu(h:p:=by
 first
 |skip
  obtain⟨l,bL,aW⟩:=M1 eu;have he:gE H 1 (.row 1003 st (ae v).length)=some ((ae v).length,cells):=by
   simp only[gE,xj];rw[if_pos ⟨trivial,ad⟩,List.take_of_length_le ad]
  simp only[he,bL];simp only[Option.map_some,Option.map_none,go_sem,Nat.reduceEqDiff,Nat.reduceAdd,Nat.reduceLeDiff,Nat.reduceLT,Nat.reduceMul,Nat.reduceSub,reduceIte,reduceCtorEq,Int.reduceEq,Int.reduceLT,Int.reduceLE,Nat.reduceBEq,Int.reduceToNat,cV];exact⟨_,rfl,ai7⟩;done
 |fail):p:=h
end Xa
namespace Xb
theorem aU(x:a)(g:q)(h:a->q->p:=by(intro x g;exact nA (Kj x (Kj lv.1 (Kj lv.2.1 (Kj @Int.toNat_natCast aI)))) g)):p:=h x g
theorem bj(h:p:=by
 first
 |skip
  refine b5 (fun m' s'=>∃(i:Int)(st:Nat)(cells:List PV),s'.t 0=v/\s'.t 3= .row 1003 st (ae v).length/\s'.t 4= .int .i64 i/\s'.H 1003=some ⟨5,st,cells,1⟩/\(0<=i)/\(cells.length=(ae v).length)/\(pX cells)/\m'=((ae v).length - i).toNat) ?_ (n:=_) ⟨_,_,_,Fq,Fq,Fq,Fq,Jr,Jr,Jr,rfl⟩;rintro m' ⟨t,H,k⟩ ⟨i,st,cells,h0,h3,h4,xj,cg,dH,eu,hm⟩ next
  simp only at h0 h3 h4 xj;refine nA (Kj h0 (Kj h3 (Kj h4 (Kj xj (Kj lv.1 @Int.toNat_natCast))))) ?_;open Xa in exact bN
  done
 |fail):p:=h
end Xb
theorem B9{v:PV}(lv:vv v):Pure ai X G 127 [v] (fun r=>∃z,r= .str z/\z.size=(ae v).length):=by
 have hB:=lv.1.len;refine ay apg af ?_;refine nA (Kj lv.1 lv.2.1) ?_;open Xb in exact bp
namespace Xc
theorem bw(h:p:=by
 first
 |exact RA
 |fail):p:=h
end Xc
theorem RD(n:Int):Pure ai X G 82 [.int .i64 n] (fun r=>∃z,r= .str z/\z.size=2):=by
 refine ay T82 af ?_;refine zA ?_;open Xc Y1 Lc in exact bp
end
end Go.Pi
end
section
open Go Go.Pi
namespace Go.Pi
variable{p q a:Prop}
set_option maxRecDepth 100000
set_option maxHeartbeats 0
section
variable{X:aS}{G:Nat->PV}
namespace Xe
theorem bw(h:p:=by
 first
 |((refine pH rfl bS (zB) ?_;obtain⟨r,cells,hf,z,rfl,hz⟩:=B9 (X:=X) (G:=G) (vv.of (xs:=[[.int .i64 _]]) af af);refine⟨_,_,hf,?_⟩;(have lD:z.size=1:=hz);refine zA ?_))<;>exact bp
 |exact RA
 |((refine pH rfl bS (zB) ?_;obtain⟨r,cells,hf,z,rfl,hz⟩:=B9 (X:=X) (G:=G) (vv.of (xs:=[[.int .i64 _],[.int .i64 _],[.int .i64 _]]) af af);refine⟨_,_,hf,?_⟩;(have lD:z.size=3:=hz);refine zA ?_))<;>exact bp
 |((refine pH rfl bS (zB) ?_;obtain⟨r,cells,hf,z,rfl,hz⟩:=B9 (X:=X) (G:=G) (vv.of (xs:=[[.int .i64 _],[.int .i64 _],[.int .i64 _],[.int .i64 _]]) af af);refine⟨_,_,hf,?_⟩;(have lD:z.size=4:=hz);refine zA ?_))<;>exact bp
 |fail):p:=h
end Xe
theorem c71(n:Int):Pure ai X G 102 [.int .i64 n] (fun r=>∃z,r= .str z/\z.size<=4):=by
 refine ay ao0 af ?_;refine zA ?_;open Xe Y1 Lc in exact bp
namespace Xf
theorem cr(h:p:=by
 first
 |(exact⟨_,rfl,by first|omega|(rw[ByteArray.size_append];omega)⟩)<;>exact bp
 |fail):p:=h
theorem bw(h:p:=by
 first
 |exact RB
 |fail):p:=h
end Xf
theorem JK(n:Int):Pure ai X G 38 [.int .i64 n] (fun r=>∃z,r= .str z/\z.size<=4):=by
 refine ay T38 af ?_;refine zA ?_;open Xf Y1 in exact bp
namespace Xg
theorem gT(h:p:=by
 first
 |(refine next _ ?_ _ ⟨_,_,_,_,_,xe,xe,xe,xe,wM,wM,wM,rfl⟩;exact wM)
 |fail):p:=h
theorem gw(h:p:=by
 first
 |((refine⟨_,_,_,rfl,ad,ad,_,_,rfl,ad⟩))<;>exact bN
 |fail):p:=h
theorem cw(h:p:=by
 first
 |(refine gA (auq hs _) ol ad ad gx iK (fun r cR fh dg fc gL hr=>?_);obtain⟨v,b,rfl,hv⟩:=hr;(refine bx aI ?_;exact bN))
 |exact Rr
 |fail):p:=h
end Xg
namespace Xh
theorem bj(h:p:=by
 first
 |skip
  refine b5 (fun m' s'=>∃(p b2:Int)(l2 bb:Bool)(z:ByteArray),s'.t 0= .ptr 0 0 0/\s'.t 4= .str z/\s'.t 5= .bool bb/\s'.H 0=some ⟨e,0,[.str s,.int .i64 p,.bool sc,.bool l2,.int .i64 b2],0⟩/\(bB<=p)/\(p<=s.size)/\((z.size:Int)<=4*(p - bB))/\m'=(s.size - p).toNat) ?_ (n:=_) ⟨_,_,_,_,_,bV,bV,bV,bV,wM,wM,wM,rfl⟩;rintro m' ⟨t,H,k⟩ ⟨p,b2,l2,bb,z,h0,h4,h5,e0,cg,dH,eu,hm⟩ next
  simp only at h0 h4 h5 e0;refine nA (Kj h0 (Kj h4 (Kj h5 e0))) ?_;open Xg Lb in exact bN
  done
 |fail):p:=h
end Xh
theorem aur{s:ByteArray}(hs:s.size<=4398046511104):Sc ai X G 179 s [] (fun _=>True) (fun bB cT cR dg r=>∃z b,r= .bZ [.str z,.bool b]/\(z.size:Int)<=4*(cR - bB)):=by
 intro e sc ln bB cT h0 h1 _;refine ay arf af ?_;refine zA ?_;open Xh Y1 in exact bp
def iM(X:aS)(G:Nat->PV)(base:Int)(z:ByteArray):Prop:=∀i:Nat,i<z.size->0<=As X G (jU z i)/\As X G (jU z i)<base
theorem iM.nil{base:Int}:iM X G base (bs []):=fun i h=>absurd h (by rw[ig];simp)
theorem Xi{a b:ByteArray}(i:Nat):jU (a++b) i=if i<a.size then jU a i else jU b ((i - a.size:Nat):Int):=by
 unfold jU;simp only[Int.toNat_natCast];have e:(a++b).data.toList=a.data.toList++b.data.toList:=by simp[ByteArray.data_append]
 have e2:a.size=a.data.toList.length:=by rw[Array.length_toList];rfl
 rw[e];simp only[List.getD_eq_getElem?_getD];split
 ·rename_i h;rw[List.getElem?_append_left ad]
 ·rename_i h;rw[List.getElem?_append_right ad,e2]
theorem aus{s:ByteArray}{p:Int}(h0:0<=p)(h1:p<(s.size:Int)):jU (pn s p (p+1)) 0=jU s p:=by
 unfold jU pn;have e2:s.size=s.data.toList.length:=by rw[Array.length_toList];rfl
 have e:(s.extract p.toNat (p+1).toNat).data.toList=(s.data.toList.drop p.toNat).take 1:=by
  rw[ByteArray.data_extract,Array.toList_extract,List.extract_eq_take_drop];congr 1;omega
 rw[e];simp only[List.getD_eq_getElem?_getD];rw[show(0:Int).toNat=0 from rfl,List.getElem?_take,if_pos ad,List.getElem?_drop,Nat.add_zero]
theorem iM.snoc{base:Int}{z s:ByteArray}{p:Int}(h:iM X G base z)(h0:0<=p)(h1:p<(s.size:Int))(g0:0<=As X G (jU s p))(g1:As X G (jU s p)<base):iM X G base (z++pn s p (p+1)):=by
 intro i hi;rw[Xi];have hz:(pn s p (p+1)).size=1:=by have:=MV (s:=s) h0 (by omega:p<=p+1) ad;omega
 rw[ByteArray.size_append,hz]at hi;split
 ·rename_i h2;exact h i h2
 ·rename_i h2;have:i - z.size=0:=by omega
  rw[this,show((0:Nat):Int)=0 from rfl,aus h0 h1];exact⟨g0,g1⟩
namespace Xj
theorem bx(x:a)(g:q)(h:a->q->p:=by(intro x g;exact nA (Kj x (Kj h0 (Kj h1 (Kj h2 (Kj h7 (Kj e0 aI)))))) g)):p:=h x g
theorem gT(h:p:=by
 first
 |(refine next _ ?_ _ ⟨_,_,_,BM,BM,BM,BM,BM,vp,vp,vp,vp,rfl⟩;(first|exact wM|exact iM.nil|(subst hz;have Jp:=‹_=jU s _›;subst Jp;exact iM.snoc ax ad ad ad ad)))
 |fail):p:=h
theorem gw(h:p:=by
 first
 |((refine⟨_,_,_,rfl,ad,ad,_,rfl,ad,ax⟩))<;>exact bN
 |fail):p:=h
theorem cw(h:p:=by
 first
 |exact JN
 |exact xo
 |fail):p:=h
end Xj
namespace Xl
theorem bj(h:p:=by
 first
 |skip
  refine b5 (fun m' s'=>∃(p:Int)(l2:Bool)(z:ByteArray),s'.t 0= .ptr 0 0 0/\s'.t 1= .int .i64 base/\s'.t 2= .bool Xm/\s'.t 7= .str z/\s'.H 0=some ⟨e,0,[.str s,.int .i64 p,.bool sc,.bool l2,.int .i64 cT],0⟩/\(bB<=p)/\(p<=s.size)/\((z.size:Int)<=p - bB)/\(iM X G base z)/\m'=(s.size - p).toNat) ?_ (n:=_) ⟨_,_,_,bV,bV,bV,bV,bV,vp,vp,vp,vp,rfl⟩;rintro m' ⟨t,H,k⟩ ⟨p,l2,z,h0,h1,h2,h7,e0,cg,dH,eu,jT,hm⟩ next
  simp only at h0 h1 h2 h7 e0;refine nA (Kj h0 (Kj h1 (Kj h2 (Kj h7 e0)))) ?_;open Xj in exact bN
  done
 |fail):p:=h
end Xl
theorem ajF{s:ByteArray}(hs:s.size<=4398046511104)(base:Int)(Xm:Bool):Sc ai X G 193 s [.int .i64 base,.bool Xm] (fun _=>True) (fun bB cT cR dg r=>∃z,r= .str z/\(z.size:Int)<=cR - bB/\iM X G base z):=by
 intro e sc ln bB cT h0 h1 _;refine ay arv af ?_;refine zA ?_;open Xl Y1 in exact bp
end
end Go.Pi
end
section
open Go Go.Pi
namespace Go.Pi
variable{p q a:Prop}
set_option maxRecDepth 100000
set_option maxHeartbeats 0
section
variable{X:aS}{G:Nat->PV}
namespace Xn
theorem bx(x:a)(g:q)(h:a->q->p:=by(intro x g;exact nA (Kj x (Kj h0 (Kj h3 (Kj h4 (Kj h5 (Kj h6 (Kj e0 aI))))))) g)):p:=h x g
theorem gT(h:p:=by
 first
 |(refine next _ ?_ _ ⟨_,_,_,_,_,_,BK,BK,BK,BK,BK,BK,wM,wM,wM,rfl⟩;exact wM)
 |fail):p:=h
end Xn
namespace Xo
theorem cr(h:p:=by
 first
 |((refine⟨_,_,_,rfl,ad,ad,_,rfl⟩))<;>exact bp
 |fail):p:=h
theorem bw(h:p:=by
 first
 |exact FL
 |exact FM
 |exact B8
 |fail):p:=h
theorem bj(h:p:=by
 first
 |skip
  all_goals
   refine b5 (fun m' s'=>∃(v i p b2:Int)(l2 bb:Bool),s'.t 0= .ptr 0 0 0/\s'.t 3= .bool bb/\s'.t 4= .str zz/\s'.t 5= .int .i64 v/\s'.t 6= .int .i64 i/\s'.H 0=some ⟨e,0,[.str s,.int .i64 p,.bool sc,.bool l2,.int .i64 b2],0⟩/\(bB<=p)/\(p<=s.size)/\(0<=i)/\m'=(zz.size - i).toNat) ?_ (n:=_) ⟨_,_,_,_,_,_,bV,bV,bV,bV,bV,bV,wM,wM,wM,rfl⟩;rintro m' ⟨t,H,k⟩ ⟨v,i,p,b2,l2,bb,h0,h3,h4,h5,h6,e0,cg,dH,eu,hm⟩ next
   simp only at h0 h3 h4 h5 h6 e0;refine nA (Kj h0 (Kj h3 (Kj h4 (Kj h5 (Kj h6 e0))))) ?_;open Xn Ld in exact bN
  done
 |fail):p:=h
end Xo
theorem aut{s:ByteArray}(hs:s.size<=268435456):Sc ai X G 196 s [] (fun _=>True) (fun bB cT cR dg r=>∃n,r= .int .i64 n):=by
 intro e sc ln bB cT h0 h1 _;have eA:s.size<=4398046511104:=by omega
 refine ay ary af ?_;refine zA ?_;open Xo Y1 in exact bp
namespace Xp
theorem bx(x:a)(g:q)(h:a->q->p:=by(intro x g;exact nA (Kj x (Kj h0 (Kj h3 (Kj h4 (Kj e0 aI))))) g)):p:=h x g
theorem gT(h:p:=by
 first
 |(refine next _ ?_ _ ⟨_,_,_,_,Fk,Fk,Fk,Fk,wM,wM,rfl⟩;exact wM)
 |fail):p:=h
theorem cw(h:p:=by
 first
 |(refine aO (Rs _ _ _) pP iK ?_;rintro _ rfl;(refine bx aI ?_;exact bN))
 |fail):p:=h
end Xp
namespace Xq
theorem bj(h:p:=by
 first
 |skip
  refine b5 (fun m' s'=>∃(p v n:Int)(l2:Bool),s'.t 0= .ptr 0 0 0/\s'.t 3= .int .i64 v/\s'.t 4= .int .i64 n/\s'.H 0=some ⟨e,0,[.str s,.int .i64 p,.bool sc,.bool l2,.int .i64 cT],0⟩/\(bB<=p)/\(p<=s.size)/\m'=(s.size - p).toNat) ?_ (n:=_) ⟨_,_,_,_,bV,bV,bV,bV,wM,wM,rfl⟩;rintro m' ⟨t,H,k⟩ ⟨p,v,n,l2,h0,h3,h4,e0,cg,dH,hm⟩ next
  simp only at h0 h3 h4 e0;refine nA (Kj h0 (Kj h3 (Kj h4 e0))) ?_;open Xp Ld in exact bN
  done
 |fail):p:=h
end Xq
theorem auu{s:ByteArray}(hs:s.size<=268435456):Sc ai X G 207 s [] (fun _=>True) (fun bB cT cR dg r=>∃n,r= .int .i64 n):=by
 intro e sc ln bB cT h0 h1 _;have eA:s.size<=4398046511104:=by omega
 refine ay arJ af ?_;refine zA ?_;open Xq Y1 in exact bp
namespace Xr
theorem cr(h:p:=by
 first
 |((refine⟨_,_,_,rfl,ad,ad,_,_,_,rfl,ajd⟩))<;>exact bp
 |fail):p:=h
theorem bw(h:p:=by
 first
 |exact FL
 |(refine gA (zY eA) lA ad ad gx fe (fun r cR fh dg fc gL hr=>?_);obtain⟨rfl,rfl,r,n,rfl,pG,gj,r4,qR,iv,tE,o3⟩:=hr;(refine aU aI ?_;exact bp))
 |(refine gA (W3 eA _ ad) lA ad ad gx fe (fun r cR fh dg fc gL hr=>?_);obtain⟨rfl,v,b,rfl⟩:=hr;(refine aU aI ?_;exact bp))
 |(refine gA (W6 eA) lA ad ad gx fe (fun r cR fh dg fc gL hr=>?_);obtain⟨rfl,v,b,rfl⟩:=hr;(refine aU aI ?_;exact bp))
 |(refine gA (auu hs) lA ad ad gx fe (fun r cR fh dg fc gL hr=>?_);obtain⟨v,rfl⟩:=hr;(refine aU aI ?_;exact bp))
 |exact RB
 |(refine aO (JK _) pP fe ?_;rintro _ ⟨z,rfl,hz⟩;(refine aU aI ?_;exact bp))
 |exact FH
 |fail):p:=h
end Xr
theorem ajH{s:ByteArray}(hs:s.size<=268435456)(tpl:Bool):Sc ai X G 189 s [.bool tpl] (fun _=>True) (fun bB cT cR dg r=>∃z a b,r= .bZ [.str z,.bool a,.bool b]/\z.size<=4):=by
 intro e sc ln bB cT h0 h1 _;have eA:s.size<=4398046511104:=by omega
 refine ay arq af ?_;refine zA ?_;open Xr Y1 in exact bp
namespace Xs
theorem bj(h:p:=by
 first
 |skip
  refine b5 (fun m' s'=>∃(p:Int)(z:ByteArray),s'.t 0= .str s/\s'.t 3= .str z/\s'.t 4= .int .i64 p/\(0<=p)/\(p<=s.size)/\((z.size:Int)<=4*p)/\m'=(s.size - p).toNat) ?_ (n:=_) ⟨_,_,bV,bV,bV,wM,wM,wM,rfl⟩;rintro m' ⟨t,H,k⟩ ⟨p,z,h0,h3,h4,cg,dH,eu,hm⟩ next
  simp only at h0 h3 h4;refine nA (Kj h0 (Kj h3 h4)) ?_;open Y5 Y6 Y7 Y8 in exact bN
  done
 |fail):p:=h
end Xs
theorem auw{s:ByteArray}(hs:s.size<=268435456):Pure ai X G 188 [.str s] (fun r=>∃z,r= .str z):=by
 have eA:s.size<=4398046511104:=by omega
 refine ay arp af ?_;refine zA ?_;open Xs Y1 in exact bp
end
end Go.Pi
end
