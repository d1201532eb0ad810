import Derived.Test.YtofdfffpmbgogaaGreatDoorP09
import Derived.Test.YtofdfffpmbgogaaGreatDoorP10
import Derived.Test.YtofdfffpmbgogaaGreatDoorP11
import Derived.Test.YtofdfffpmbgogaaGreatDoorP12
import Derived.Test.YtofdfffpmbgogaaGreatDoorP13
import Derived.Test.YtofdfffpmbgogaaGreatDoorP18
import Derived.Test.YtofdfffpmbgogaaGreatDoorP19
import Derived.Test.YtofdfffpmbgogaaGreatDoorP29
/- Part of the proof. -/
set_option linter.all false
set_option maxHeartbeats 0
set_option maxRecDepth 100000
section
open Go Go.Pi
namespace Go.Pi
variable{p q a:Prop}
def GX(n:Nat)(H:al)(o:Option Chunk)(b g off:Nat):Option (PV×List Nat):=
 match o with
 |some c=>if c.gen=g/\off<=c.cells.length then(eh (Go.Pi.settle n H) (c.cells.drop off)).map fun r=>(.fp r.1,b::r.2)else none
 |none=>none
theorem arX{n:Nat}{H:al}{b g off:Nat}:Go.Pi.settle (n+1) H (.ptr b g off)=GX n H (H b) b g off:=by
 simp only[Go.Pi.settle,aw,Bool.false_eq_true,if_false,GX];rfl
theorem arY{n e s b g:Nat}{H:al}{cells:List PV}:GX n H (some ⟨e,g,cells,s⟩) b g 0=(eh (Go.Pi.settle n H) cells).map fun r=>(.fp r.1,b::r.2):=by
 simp[GX]
theorem arZ{n t b g off:Nat}{H:al}:Go.Pi.settle (n+1) H (.aj t (.ptr b g off))=(Go.Pi.settle n H (.ptr b g off)).map fun r=>(.aj t r.1,r.2):=by
 simp only[Go.Pi.settle,aw,Bool.false_eq_true,if_false]
attribute [go_sem] arX arY arZ
section
variable{X:aS}{G:Nat->PV}
def Iv(d:PV):Prop:=d= .aF\/∃t x,d= .aj t x
def Ev(c:List PV):Prop:=∃d z,c=[d,.int .i32 z]/\Iv d/\aw d=true
theorem Ev.len{c:List PV}(h:Ev c):c.length=2:=by obtain⟨d,z,rfl,_⟩:=h;rfl
theorem Ev.deep{c:List PV}(h:Ev c):aP c=true:=by obtain⟨d,z,rfl,_,h⟩:=h;simp[aP,aw,h]
def TR(n:Nat)(P:Prop)(r:PV):Prop:=∃v b,r= .bZ [v,.bool b]/\mA v/\aw v=true/\(∀c,c∈ae v->Ev c)/\(ae v).length<=n/\(b=true->(ae v).length=n)/\(P->b=true)
theorem i32(n:Int):Pure ai X G 29 [.int .i64 n] (fun r=>r= .agg [.int .u32 0,.int .u32 (IntKind.u32.wrap n)]):=by
 refine ay T29 af ?_;exact nB
theorem TR.EM{v:PV}(h:mA v)(b g:Nat):v≠ .ptr b g 0:=by rintro rfl;rcases h with h|⟨_,h⟩<;>cases h
end
end Go.Pi
end
section
open Go Go.Pi
namespace Go.Pi
variable{p q a:Prop}
section
variable{X:aS}{G:Nat->PV}
namespace Uu
theorem cw(h:p:=by
 first
 |(refine aO (ci ‹EZ _ _› ((show∀y,y∈ae v0->cD y from ok) _ b6)) bS (cB) ?_;rintro _ ⟨u,k1,d1,rfl,cN,cy,bL⟩;refine cA ?_)<;>exact bu
 |fail):p:=h
theorem iZ(h:p:=by
 first
 |skip
  refine ik (A:=[8004]) (ys:=ys) (zs:=[[.aj u k1,ab]]) (ids:=[8003]) (cB) gy af af iA af fH (fun v' H' z' bI hf=>?_);clear hE hf;simp only[push];refine cA ?_;simp only[cG];refine cA ?_;have next:=nx
  unfold Hid at next
  have eO:=hg;simp only[Int.toNat_natCast]at eO;exact next (n - 1) ad _ ⟨i+1,_,_,ad,cB,cB,gK,lV,jR,iP.snoc (cy),aV.take eO (bL)⟩
  done
 |fail):p:=h
end Uu
namespace Uv
theorem bj(h:p:=by
 first
 |skip
  refine b5 (fun n s'=>∃(i:Nat)(ys ds:List (List PV)),i+n=(ae v0).length/\s'.t 9=v0/\s'.t 10= .int .i64 (ae v0).length/\s'.t 11= .int .i64 i/\aX [8004] s'.H 81 2 (s'.t 4) ys/\ys.length=i/\Pr CE ys ds/\aK ((ae v0).take i) ds) ?_ (n:=(ae v0).length)
   ⟨0,[],[],af,nB,nB,nB,aiL,rfl,.nil,kS⟩
  rintro n ⟨t,H,k⟩ ⟨i,ys,ds,hi,cp,cI,cS,aY,eY,iP,aV⟩ next
  simp only at cp cI cS aY;have hE:=fun(n:Nat) (H':al) (q1:H' 8004=H 8004)=>(aX.dF (n:=n) (aY.frame (H':=H') iY))
  obtain⟨g1,g2,g3,g4⟩:=aY.gv;refine nA (Kj cp (Kj cI cS)) ?_;have nx:Hid _:=next
  clear next
  open Uu dO Ac kU in exact bu
  done
 |fail):p:=h
end Uv
theorem Am{m:Nat}{v0:PV}(lv:aB (EZ m) v0)(ok:∀y,y∈ae v0->cD y)(ci:∀{y},EZ m y->cD y->Pure ai X G 109 [.agg y] (N1 CE y)):Pure ai X G 65 [v0] (ra CE (ae v0)):=by
 have hv:=lv.1;have eo:=lv.2.1;have hB:=lv.1.len;have ok:Hid (∀y,y∈ae v0->cD y):=ok;refine ay Tw af ?_;refine nA hv ?_;open Uv bi in exact az
theorem CE.shape{c d:List PV}(h:CE c d):∃u x,c=[.aj u x,ab]:=by cases h<;>exact⟨_,_,rfl⟩
def Cc(c:List PV):Prop:=∃u x,c=[.aj u x,ab]/\aw x=true
theorem Cc.len{c:List PV}(h:Cc c):c.length=2:=by obtain⟨u,x,rfl,_⟩:=h;rfl
theorem ar4{w:PV}{c:List PV}(h:aw w=true)(hc:c∈ae w):aP c=true:=by
 cases w<;>simp only[ae,List.not_mem_nil]at hc;simp only[aw]at h;exact zg h _ hc
theorem br.get{P:List PV->List PV->Prop}{w:PV}{ds:List (List PV)}{c:List PV}{i:Nat}(h:br P w ds)(hc:(ae w)[i]?=some c):∃d,ds[i]?=some d/\P c d:=by
 have hi:=(List.getElem?_eq_some_iff.1 hc).1;have hl:=h.1.2.2;exact⟨ds[i],ai1,h.2 i c _ hc ai1⟩
theorem br.Mz{P:List PV->List PV->Prop}(hP:∀c d,P c d->∃u x,c=[.aj u x,ab]){w:PV}{ds:List (List PV)}(h:br P w ds):aB Cc w:=by
 refine⟨h.1.1,h.1.2.1,fun c hc=>?_⟩;obtain⟨i,hi,rfl⟩:=List.getElem_of_mem hc;obtain⟨d,_,hd⟩:=h.get (i:=i) (c:=(ae w)[i]) (by simp[hi]);obtain⟨u,x,e⟩:=hP _ _ hd;have:=ar4 h.1.2.1 hc;rw[e]at this;exact⟨u,x,e,by simpa[aP,aw]using this⟩
namespace Uw
theorem bw(h:p:=by
 first
 |(refine cO (P:=Cc) Cc.len lw ad ad (fun y hy b6 hg=>?_);obtain⟨u,x,rfl,eX⟩:=hy;refine cA ?_)<;>exact az
 |fail):p:=h
theorem xz(h:p:=by
 first
 |skip
  have:ds=[]:=List.eq_nil_of_length_eq_zero ad;subst this;exact⟨_,_,rfl,rfl,rfl,.none,hl⟩;done
 |fail):p:=h
theorem xA(h:p:=by
 first
 |skip
  obtain⟨d0,h0,hP⟩:=hw.get (i:=0) hg;have:ds=[d0]:=by
   match ds,h0,bL with
   |[a],h0,_=>simp at h0;rw[h0]
   |a::b::_,_,bL=>simp at bL;omega
  subst this;exact⟨_,_,rfl,rfl,by simp[aw,eX],.some _ _ hP,hl⟩;done
 |fail):p:=h
end Uw
theorem qH{m:Nat}{v0:PV}(lv:aB (EZ m) v0)(h1:(ae v0).length<=1)(ok:∀y,y∈ae v0->cD y)(ci:∀{y},EZ m y->cD y->Pure ai X G 109 [.agg y] (N1 CE y)):Pure ai X G 30 [v0] (NoR (ae v0)):=by
 have hv:=lv.1;have hB:=lv.1.len;have eo:=lv.2.1;refine ay Tq af ?_;refine EL hv ?_;refine aO (Am lv ok ci) ai4 (sB eo) ?_;rintro _ ⟨w,ds,rfl,hw,hl⟩;have hS:=hw.1.1;have hD:=hw.1.2.1;have hn:=hw.1.2.2;have bL:=hl.1;have lw:=hw.Mz (fun c d h=>CE.shape h);refine nA (Kj hS hD) ?_;open Uw qY Gt in exact az
end
end Go.Pi
end
section
open Go Go.Pi
namespace Go.Pi
variable{p q a:Prop}
def bl:List PV->Int
 | .int _ k::_=>k
 |_=>-1
theorem aX.aiP{A:List Nat}{H:al}{e s id st:Nat}(hA:id∈A)(hH:H id=some ⟨e,st,[],s⟩):aX A H e s (.row id st 0) []:=
 ⟨fun y hy=>by simp at hy,.inr ⟨id,st,hA,rfl,by simp[hH]⟩⟩
theorem cQ{i:IntKind}{k:Int}{l:List PV}:bl (.int i k::l)=k:=rfl
section
variable{X:aS}{G:Nat->PV}
theorem bz(n:Int):bits .and .i64 0 n=0:=by
 unfold bits;have:(BitVec.ofInt IntKind.i64.bits 0 &&& BitVec.ofInt IntKind.i64.bits n).toNat=0:=by simp
 simp only[this];decide
theorem nJ{n:Int}(h0:0<=n)(h1:n<1000):IntKind.u32.wrap n=n:=by
 have e:IntKind.wrap .u32 n=n % 4294967296:=by simp[IntKind.wrap,IntKind.signed,IntKind.bits]
 rw[e];omega
theorem R9{kind op aA chain flags:Int}{nn:Nat}{str kids bf parts aC aG:PV}{text:ByteArray}(f:Int)(hx:aR [PV.int .i64 kind,.int .i64 op,.int .i64 aA,.int .i64 chain,.int .i64 flags,.bR .f64 nn,str,.str text,kids,bf,parts,aC,aG]):
 Pure ai X G 163 [.agg [PV.int .i64 kind,.int .i64 op,.int .i64 aA,.int .i64 chain,.int .i64 flags,.bR .f64 nn,str,.str text,kids,bf,parts,aC,aG],.int .i64 f] (fun r=>r= .bool (!decide (bits .and .i64 flags f=0))):=by
 obtain⟨_,_,_,_,_,_,_,_,_,_,_,_,_,he,hn,ao,ht,aq,aE,aD,av,au⟩:=hx.open (Nat.le_refl _);cases he;have:=ao.1;have:=ao.2.1;have:=aq.1;have:=aq.2.1;have:=aE.1;have:=aE.2.1;have:=aD.1;have:=aD.2.1;have:=av.1;have:=av.2.1;have:=au.1;have:=au.2.1;refine ay aqo af ?_;refine cA ?_;open bi in exact az
def NX(x:List PV)(r:PV):Prop:=∃t k d,r= .bZ [.aj t k,.bool true]/\aw k=true/\CE [.aj t k,ab] d/\dE x d
def xX(r:PV):Prop:=r= .bZ [.aF,.bool false]
namespace Ux
theorem cr(h:p:=by
 first
 |((refine⟨_,_,_,rfl,vg,?_,oF ao.1 aq.1 aE.1 aD.1 av.1 au.1 ax ax ax ax ax ax⟩;exact .null (oE ad aJ)))<;>exact az
 |exact kH
 |fail):p:=h
end Ux
theorem ar6{m:Nat}{x:List PV}(hx:aR x)(hm:SizeOf.sizeOf x<=m)(ok:cD x)(hk:bl x=0):Pure ai X G 146 [.agg x] (NX x):=by
 obtain⟨kind,op,aA,chain,flags,nn,str,text,kids,bf,parts,aC,aG,rfl,hn,ao,ht,aq,aE,aD,av,au⟩:=hx.open (hm);have bX:aR [PV.int .i64 kind,.int .i64 op,.int .i64 aA,.int .i64 chain,.int .i64 flags,.bR .f64 nn,str,.str text,kids,bf,parts,aC,aG]:=hx;simp only[cQ]at hk;subst hk;cases ok with
 |mk _ _ _ _ _ _ _ _ _ _ _ _ _ hf hK=>
 revert hf hK;simp[fP,gN,ia];intros;subst_vars;have bz:=bz
 (try have hw:=nJ (n:=aA) ax ax)
 have:=ao.1;have:=ao.2.1;have:=aq.1;have:=aq.2.1;have:=aE.1;have:=aE.2.1;have:=aD.1;have:=aD.2.1;have:=av.1;have:=av.2.1;have:=au.1;have:=au.2.1;refine ay pe af ?_;refine cA ?_;open Ux pc in exact az
namespace Uy
theorem cr(h:p:=by
 first
 |((refine⟨_,_,_,rfl,vg,?_,oF ao.1 aq.1 aE.1 aD.1 av.1 au.1 ax ax ax ax ax ax⟩;exact .undef (oE ad aJ)))<;>exact az
 |exact kH
 |fail):p:=h
end Uy
theorem ar7{m:Nat}{x:List PV}(hx:aR x)(hm:SizeOf.sizeOf x<=m)(ok:cD x)(hk:bl x=1):Pure ai X G 146 [.agg x] (NX x):=by
 obtain⟨kind,op,aA,chain,flags,nn,str,text,kids,bf,parts,aC,aG,rfl,hn,ao,ht,aq,aE,aD,av,au⟩:=hx.open (hm);have bX:aR [PV.int .i64 kind,.int .i64 op,.int .i64 aA,.int .i64 chain,.int .i64 flags,.bR .f64 nn,str,.str text,kids,bf,parts,aC,aG]:=hx;simp only[cQ]at hk;subst hk;cases ok with
 |mk _ _ _ _ _ _ _ _ _ _ _ _ _ hf hK=>
 revert hf hK;simp[fP,gN,ia];intros;subst_vars;have bz:=bz
 (try have hw:=nJ (n:=aA) ax ax)
 have:=ao.1;have:=ao.2.1;have:=aq.1;have:=aq.2.1;have:=aE.1;have:=aE.2.1;have:=aD.1;have:=aD.2.1;have:=av.1;have:=av.2.1;have:=au.1;have:=au.2.1;refine ay pe af ?_;refine cA ?_;open Uy pc in exact az
namespace Uz
theorem cr(h:p:=by
 first
 |((refine⟨_,_,_,rfl,vg,?_,oF ao.1 aq.1 aE.1 aD.1 av.1 au.1 ax ax ax ax ax ax⟩;exact .number _ (oE ad aJ)))<;>exact az
 |exact kH
 |fail):p:=h
end Uz
theorem ar8{m:Nat}{x:List PV}(hx:aR x)(hm:SizeOf.sizeOf x<=m)(ok:cD x)(hk:bl x=3):Pure ai X G 146 [.agg x] (NX x):=by
 obtain⟨kind,op,aA,chain,flags,nn,str,text,kids,bf,parts,aC,aG,rfl,hn,ao,ht,aq,aE,aD,av,au⟩:=hx.open (hm);have bX:aR [PV.int .i64 kind,.int .i64 op,.int .i64 aA,.int .i64 chain,.int .i64 flags,.bR .f64 nn,str,.str text,kids,bf,parts,aC,aG]:=hx;simp only[cQ]at hk;subst hk;cases ok with
 |mk _ _ _ _ _ _ _ _ _ _ _ _ _ hf hK=>
 revert hf hK;simp[fP,gN,ia];intros;subst_vars;have bz:=bz
 (try have hw:=nJ (n:=aA) ax ax)
 have:=ao.1;have:=ao.2.1;have:=aq.1;have:=aq.2.1;have:=aE.1;have:=aE.2.1;have:=aD.1;have:=aD.2.1;have:=av.1;have:=av.2.1;have:=au.1;have:=au.2.1;refine ay pe af ?_;refine cA ?_;open Uz pc in exact az
namespace UA
theorem cr(h:p:=by
 first
 |((refine⟨_,_,_,rfl,vg,?_,oF ao.1 aq.1 aE.1 aD.1 av.1 au.1 ax ax ax ax ax ax⟩;exact .TZ _ (oE ad ht)))<;>exact az
 |exact kH
 |fail):p:=h
end UA
theorem ar9{m:Nat}{x:List PV}(hx:aR x)(hm:SizeOf.sizeOf x<=m)(ok:cD x)(hk:bl x=5):Pure ai X G 146 [.agg x] (NX x):=by
 obtain⟨kind,op,aA,chain,flags,nn,str,text,kids,bf,parts,aC,aG,rfl,hn,ao,ht,aq,aE,aD,av,au⟩:=hx.open (hm);have bX:aR [PV.int .i64 kind,.int .i64 op,.int .i64 aA,.int .i64 chain,.int .i64 flags,.bR .f64 nn,str,.str text,kids,bf,parts,aC,aG]:=hx;simp only[cQ]at hk;subst hk;cases ok with
 |mk _ _ _ _ _ _ _ _ _ _ _ _ _ hf hK=>
 revert hf hK;simp[fP,gN,ia];intros;subst_vars;have bz:=bz
 (try have hw:=nJ (n:=aA) ax ax)
 have:=ao.1;have:=ao.2.1;have:=aq.1;have:=aq.2.1;have:=aE.1;have:=aE.2.1;have:=aD.1;have:=aD.2.1;have:=av.1;have:=av.2.1;have:=au.1;have:=au.2.1;refine ay pe af ?_;refine cA ?_;open UA pc in exact az
namespace UC
theorem cr(h:p:=by
 first
 |((refine⟨_,_,_,rfl,vg,?_,oF ao.1 aq.1 aE.1 aD.1 av.1 au.1 ax ax ax ax ax ax⟩;exact .T0 _ (oE ad ht)))<;>exact az
 |exact kH
 |fail):p:=h
end UC
theorem asa{m:Nat}{x:List PV}(hx:aR x)(hm:SizeOf.sizeOf x<=m)(ok:cD x)(hk:bl x=6):Pure ai X G 146 [.agg x] (NX x):=by
 obtain⟨kind,op,aA,chain,flags,nn,str,text,kids,bf,parts,aC,aG,rfl,hn,ao,ht,aq,aE,aD,av,au⟩:=hx.open (hm);have bX:aR [PV.int .i64 kind,.int .i64 op,.int .i64 aA,.int .i64 chain,.int .i64 flags,.bR .f64 nn,str,.str text,kids,bf,parts,aC,aG]:=hx;simp only[cQ]at hk;subst hk;cases ok with
 |mk _ _ _ _ _ _ _ _ _ _ _ _ _ hf hK=>
 revert hf hK;simp[fP,gN,ia];intros;subst_vars;have bz:=bz
 (try have hw:=nJ (n:=aA) ax ax)
 have:=ao.1;have:=ao.2.1;have:=aq.1;have:=aq.2.1;have:=aE.1;have:=aE.2.1;have:=aD.1;have:=aD.2.1;have:=av.1;have:=av.2.1;have:=au.1;have:=au.2.1;refine ay pe af ?_;refine cA ?_;open UC pc in exact az
namespace UD
theorem cr(h:p:=by
 first
 |((refine⟨_,_,_,rfl,vg,?_,oF ao.1 aq.1 aE.1 aD.1 av.1 au.1 ax ax ax ax ax ax⟩;exact .this (oE ad aJ)))<;>exact az
 |exact kH
 |fail):p:=h
end UD
theorem asb{m:Nat}{x:List PV}(hx:aR x)(hm:SizeOf.sizeOf x<=m)(ok:cD x)(hk:bl x=7):Pure ai X G 146 [.agg x] (NX x):=by
 obtain⟨kind,op,aA,chain,flags,nn,str,text,kids,bf,parts,aC,aG,rfl,hn,ao,ht,aq,aE,aD,av,au⟩:=hx.open (hm);have bX:aR [PV.int .i64 kind,.int .i64 op,.int .i64 aA,.int .i64 chain,.int .i64 flags,.bR .f64 nn,str,.str text,kids,bf,parts,aC,aG]:=hx;simp only[cQ]at hk;subst hk;cases ok with
 |mk _ _ _ _ _ _ _ _ _ _ _ _ _ hf hK=>
 revert hf hK;simp[fP,gN,ia];intros;subst_vars;have bz:=bz
 (try have hw:=nJ (n:=aA) ax ax)
 have:=ao.1;have:=ao.2.1;have:=aq.1;have:=aq.2.1;have:=aE.1;have:=aE.2.1;have:=aD.1;have:=aD.2.1;have:=av.1;have:=av.2.1;have:=au.1;have:=au.2.1;refine ay pe af ?_;refine cA ?_;open UD pc in exact az
namespace UE
theorem cr(h:p:=by
 first
 |((refine⟨_,_,_,rfl,vg,?_,oF ao.1 aq.1 aE.1 aD.1 av.1 au.1 ax ax ax ax ax ax⟩;exact .ident _ ⟨ax,ax⟩ (oE ad aJ)))<;>exact az
 |exact kH
 |fail):p:=h
end UE
theorem asc{m:Nat}{x:List PV}(hx:aR x)(hm:SizeOf.sizeOf x<=m)(ok:cD x)(hk:bl x=8):Pure ai X G 146 [.agg x] (NX x):=by
 obtain⟨kind,op,aA,chain,flags,nn,str,text,kids,bf,parts,aC,aG,rfl,hn,ao,ht,aq,aE,aD,av,au⟩:=hx.open (hm);have bX:aR [PV.int .i64 kind,.int .i64 op,.int .i64 aA,.int .i64 chain,.int .i64 flags,.bR .f64 nn,str,.str text,kids,bf,parts,aC,aG]:=hx;simp only[cQ]at hk;subst hk;cases ok with
 |mk _ _ _ _ _ _ _ _ _ _ _ _ _ hf hK=>
 revert hf hK;simp[fP,gN,ia];intros;subst_vars;have bz:=bz
 (try have hw:=nJ (n:=aA) ax ax)
 have:=ao.1;have:=ao.2.1;have:=aq.1;have:=aq.2.1;have:=aE.1;have:=aE.2.1;have:=aD.1;have:=aD.2.1;have:=av.1;have:=av.2.1;have:=au.1;have:=au.2.1;refine ay pe af ?_;refine cA ?_;open UE pc in exact az
namespace UF
theorem cr(h:p:=by
 first
 |((refine⟨_,_,_,rfl,vg,?_,oF ao.1 aq.1 aE.1 aD.1 av.1 au.1 ax ax ax ax ax ax⟩;exact .sq (oE ad aJ)))<;>exact az
 |exact kH
 |fail):p:=h
end UF
theorem asd{m:Nat}{x:List PV}(hx:aR x)(hm:SizeOf.sizeOf x<=m)(ok:cD x)(hk:bl x=9):Pure ai X G 146 [.agg x] (NX x):=by
 obtain⟨kind,op,aA,chain,flags,nn,str,text,kids,bf,parts,aC,aG,rfl,hn,ao,ht,aq,aE,aD,av,au⟩:=hx.open (hm);have bX:aR [PV.int .i64 kind,.int .i64 op,.int .i64 aA,.int .i64 chain,.int .i64 flags,.bR .f64 nn,str,.str text,kids,bf,parts,aC,aG]:=hx;simp only[cQ]at hk;subst hk;cases ok with
 |mk _ _ _ _ _ _ _ _ _ _ _ _ _ hf hK=>
 revert hf hK;simp[fP,gN,ia];intros;subst_vars;have bz:=bz
 (try have hw:=nJ (n:=aA) ax ax)
 have:=ao.1;have:=ao.2.1;have:=aq.1;have:=aq.2.1;have:=aE.1;have:=aE.2.1;have:=aD.1;have:=aD.2.1;have:=av.1;have:=av.2.1;have:=au.1;have:=au.2.1;refine ay pe af ?_;refine cA ?_;open UF pc in exact az
namespace UG
theorem cr(h:p:=by
 first
 |((refine⟨_,_,_,rfl,vg,?_,oF ao.1 aq.1 aE.1 aD.1 av.1 au.1 ax ax ax ax ax ax⟩;exact .TX (oE ad aJ)))<;>exact az
 |exact kH
 |fail):p:=h
end UG
theorem ase{m:Nat}{x:List PV}(hx:aR x)(hm:SizeOf.sizeOf x<=m)(ok:cD x)(hk:bl x=25):Pure ai X G 146 [.agg x] (NX x):=by
 obtain⟨kind,op,aA,chain,flags,nn,str,text,kids,bf,parts,aC,aG,rfl,hn,ao,ht,aq,aE,aD,av,au⟩:=hx.open (hm);have bX:aR [PV.int .i64 kind,.int .i64 op,.int .i64 aA,.int .i64 chain,.int .i64 flags,.bR .f64 nn,str,.str text,kids,bf,parts,aC,aG]:=hx;simp only[cQ]at hk;subst hk;cases ok with
 |mk _ _ _ _ _ _ _ _ _ _ _ _ _ hf hK=>
 revert hf hK;simp[fP,gN,ia];intros;subst_vars;have bz:=bz
 (try have hw:=nJ (n:=aA) ax ax)
 have:=ao.1;have:=ao.2.1;have:=aq.1;have:=aq.2.1;have:=aE.1;have:=aE.2.1;have:=aD.1;have:=aD.2.1;have:=av.1;have:=av.2.1;have:=au.1;have:=au.2.1;refine ay pe af ?_;refine cA ?_;open UG pc in exact az
namespace UH
theorem cr(h:p:=by
 first
 |((refine⟨_,_,_,rfl,vg,?_,oF ao.1 aq.1 aE.1 aD.1 av.1 au.1 ax ax ax ax ax ax⟩;exact .TY (oE ad aJ)))<;>exact az
 |exact kH
 |fail):p:=h
end UH
theorem asf{m:Nat}{x:List PV}(hx:aR x)(hm:SizeOf.sizeOf x<=m)(ok:cD x)(hk:bl x=26):Pure ai X G 146 [.agg x] (NX x):=by
 obtain⟨kind,op,aA,chain,flags,nn,str,text,kids,bf,parts,aC,aG,rfl,hn,ao,ht,aq,aE,aD,av,au⟩:=hx.open (hm);have bX:aR [PV.int .i64 kind,.int .i64 op,.int .i64 aA,.int .i64 chain,.int .i64 flags,.bR .f64 nn,str,.str text,kids,bf,parts,aC,aG]:=hx;simp only[cQ]at hk;subst hk;cases ok with
 |mk _ _ _ _ _ _ _ _ _ _ _ _ _ hf hK=>
 revert hf hK;simp[fP,gN,ia];intros;subst_vars;have bz:=bz
 (try have hw:=nJ (n:=aA) ax ax)
 have:=ao.1;have:=ao.2.1;have:=aq.1;have:=aq.2.1;have:=aE.1;have:=aE.2.1;have:=aD.1;have:=aD.2.1;have:=av.1;have:=av.2.1;have:=au.1;have:=au.2.1;refine ay pe af ?_;refine cA ?_;open UH pc in exact az
namespace UI
theorem bj(h:p:=by
 first
 |skip
  have e0':(FloatKind.f64.format.order 0 0!=some Ordering.eq)=false:=by rfl
  have e1:(FloatKind.f64.format.order 4607182418800017408 0!=some Ordering.eq)=true:=by rfl
  rcases‹nn=0\/nn=4607182418800017408›with rfl|rfl
  ·rw[e0'];exact⟨_,_,_,rfl,rfl,.boolean false (oE aJ aJ),oF ao.1 aq.1 aE.1 aD.1 av.1 au.1 ax ax ax ax ax ax⟩
  ·rw[e1];exact⟨_,_,_,rfl,rfl,.boolean true (oE aJ aJ),oF ao.1 aq.1 aE.1 aD.1 av.1 au.1 ax ax ax ax ax ax⟩
  done
 |fail):p:=h
end UI
theorem ash{m:Nat}{x:List PV}(hx:aR x)(hm:SizeOf.sizeOf x<=m)(ok:cD x)(hk:bl x=2):Pure ai X G 146 [.agg x] (NX x):=by
 obtain⟨kind,op,aA,chain,flags,nn,str,text,kids,bf,parts,aC,aG,rfl,hn,ao,ht,aq,aE,aD,av,au⟩:=hx.open (hm);have bX:aR [PV.int .i64 kind,.int .i64 op,.int .i64 aA,.int .i64 chain,.int .i64 flags,.bR .f64 nn,str,.str text,kids,bf,parts,aC,aG]:=hx;simp only[cQ]at hk;subst hk;cases ok with
 |mk _ _ _ _ _ _ _ _ _ _ _ _ _ hf hK=>
 revert hf hK;simp[fP,gN,ia];intros;subst_vars;have bz:=bz
 (try have hw:=nJ (n:=aA) ax ax)
 have:=ao.1;have:=ao.2.1;have:=aq.1;have:=aq.2.1;have:=aE.1;have:=aE.2.1;have:=aD.1;have:=aD.2.1;have:=av.1;have:=av.2.1;have:=au.1;have:=au.2.1;refine ay pe af ?_;refine cA ?_;open UI bi pc in exact az
namespace UJ
theorem fu(h:p:=by
 first
 |skip
  refine⟨by simp only[List.all_eq_true];intro y hy;have:=mR y hy;simp at this⊢;omega,by simpa using fun h:0∈gi v'=>absurd (g4 0 h) af,?_⟩;rw[List.nil_append]at g1 g2 g3;exact⟨_,_,_,rfl,by simp[aw,aP,g2],.string _ (ae str) (C7 g1 g2 g3 ao) g3 (XT (df:=[]) aJ (C6 ao) aJ .nil .nil .nil (.inl ⟨rfl,.nil⟩) .nil),XLs ao aq.1 aE.1 aD.1 av.1 au.1 ax ax ax ax ax⟩;done
 |fail):p:=h
end UJ
namespace UK
theorem bj(h:p:=by
 first
 |skip
  refine oz (A:=[11001,11004]) (ys:=[]) (r:=str) (zB) (ao.1.imp id (fun⟨xs,h,_⟩=>⟨xs,h⟩)) ao.2.1 (fun c hc=>FB) zy af Fx (fun v' H' fb bI hf fq hz=>?_);obtain⟨zz,rfl,mR⟩:=hz _ _ rfl;have e1:=hf 1 af
  replace e1:=aaD e1
  have jw:=hZ bI;have hE:=fun(n:Nat) (fJ:al) (q1:fJ 11001=H' 11001) (q2:fJ 11004=H' 11004)=>(aX.dF (n:=n) (bI.frame (H':=fJ) pR))
  obtain⟨g1,g2,g3,g4⟩:=bI.gv;refine cA ?_;open UJ dO Gu in exact bu
  done
 |fail):p:=h
end UK
theorem asi{m:Nat}{x:List PV}(hx:aR x)(hm:SizeOf.sizeOf x<=m)(ok:cD x)(hk:bl x=4):Pure ai X G 146 [.agg x] (NX x):=by
 obtain⟨kind,op,aA,chain,flags,nn,str,text,kids,bf,parts,aC,aG,rfl,hn,ao,ht,aq,aE,aD,av,au⟩:=hx.open (hm);have bX:aR [PV.int .i64 kind,.int .i64 op,.int .i64 aA,.int .i64 chain,.int .i64 flags,.bR .f64 nn,str,.str text,kids,bf,parts,aC,aG]:=hx;simp only[cQ]at hk;subst hk;cases ok with
 |mk _ _ _ _ _ _ _ _ _ _ _ _ _ hf hK=>
 revert hf hK;simp[fP,gN,ia];intros;subst_vars;have bz:=bz
 (try have hw:=nJ (n:=aA) ax ax)
 have:=ao.1;have:=ao.2.1;have:=aq.1;have:=aq.2.1;have:=aE.1;have:=aE.2.1;have:=aD.1;have:=aD.2.1;have:=av.1;have:=av.2.1;have:=au.1;have:=au.2.1;refine ay pe af ?_;refine cA ?_;open UK bi pc in exact az
theorem akg{m:Nat}{x:List PV}(hx:aR x)(hm:SizeOf.sizeOf x<=m)(hk:10<=bl x/\bl x<=20):Pure ai X G 146 [.agg x] xX:=by
 obtain⟨kind,op,aA,chain,flags,nn,str,text,kids,bf,parts,aC,aG,rfl,hn,ao,ht,aq,aE,aD,av,au⟩:=hx.open (hm);simp only[cQ]at hk;obtain⟨h0,h1,h2,h3,h4,h5,h6,h7,h8,h9,ME,UM,UN,UO⟩:decide (kind=0)=false/\decide (kind=1)=false/\decide (kind=2)=false/\decide (kind=3)=false/\decide (kind=4)=false/\decide (kind=5)=false/\decide (kind=6)=false/\decide (kind=7)=false/\decide (kind=8)=false/\decide (kind=9)=false/\decide (kind=21)=false/\decide (kind=22)=false/\decide (kind=25)=false/\decide (kind=26)=false:=by simp only[decide_eq_false_iff_not];omega
 have:=ao.1;have:=ao.2.1;have:=aq.1;have:=aq.2.1;have:=aE.1;have:=aE.2.1;have:=aD.1;have:=aD.2.1;have:=av.1;have:=av.2.1;have:=au.1;have:=au.2.1;refine ay pe af ?_;refine cA ?_;open vO in exact az
end
end Go.Pi
end
section
open Go Go.Pi
namespace Go.Pi
variable{p q a:Prop}
theorem br.cons{w:PV}{d:List PV}{ds:List (List PV)}(h:br CE w (d::ds)):∃u x cs,w= .sl ([.aj u x,ab]::cs)/\aw x=true/\CE [.aj u x,ab] d/\br CE (.sl cs) ds:=by
 obtain⟨⟨hs,hd,hn⟩,h⟩:=h;rcases hs with rfl|⟨xs,rfl,hl⟩
 ·simp[ae]at hn
 cases xs with
 |nil=>simp[ae]at hn
 |cons c cs=>
  have hP:=h 0 c d o0 af;obtain⟨u,x,rfl⟩:=hP.shape;simp only[aw,jx,aP,Bool.and_eq_true,Bool.and_true]at hd;simp only[ae,List.length_cons]at hn hl;exact⟨u,x,cs,rfl,hd.1,hP,⟨.sl ad,by simp only[aw];exact hd.2,by simp only[ae];omega⟩,fun i c d hc hd=>h (i+1) c d (by simpa[ae]using hc) (by simpa using hd)⟩
theorem br.UP{P:List PV->List PV->Prop}{cs:List (List PV)}(h:br P (.sl cs) []):cs=[]:=List.eq_nil_of_length_eq_zero h.1.2.2
theorem br.one{w:PV}{d:List PV}(h:br CE w [d]):∃u x,w= .sl [[.aj u x,ab]]/\aw x=true/\CE [.aj u x,ab] d:=by
 obtain⟨u,x,cs,rfl,h1,h2,h3⟩:=h.cons;have:=h3.UP;subst this;exact⟨u,x,rfl,h1,h2⟩
theorem br.two{w:PV}{d d1:List PV}(h:br CE w [d,d1]):∃u x u1 x1,w= .sl [[.aj u x,ab],[.aj u1 x1,ab]]/\aw x=true/\aw x1=true/\CE [.aj u x,ab] d/\CE [.aj u1 x1,ab] d1:=by
 obtain⟨u,x,cs,rfl,h1,h2,h3⟩:=h.cons;obtain⟨u1,x1,e,h4,h5⟩:=h3.one;cases e;exact⟨u,x,u1,x1,rfl,h1,h4,h2,h5⟩
theorem br.three{w:PV}{d d1 d2:List PV}(h:br CE w [d,d1,d2]):∃u x u1 x1 u2 x2,w= .sl [[.aj u x,ab],[.aj u1 x1,ab],[.aj u2 x2,ab]]/\aw x=true/\aw x1=true/\aw x2=true/\CE [.aj u x,ab] d/\CE [.aj u1 x1,ab] d1/\CE [.aj u2 x2,ab] d2:=by
 obtain⟨u,x,cs,rfl,h1,h2,h3⟩:=h.cons;obtain⟨u1,x1,u2,x2,e,h4,h5,h6,h7⟩:=h3.two;cases e;exact⟨u,x,u1,x1,u2,x2,rfl,h1,h4,h5,h2,h6,h7⟩
theorem ki{α:Type}{l:List α}(h:l.length=1):∃a,l=[a]:=List.length_eq_one_iff.1 h
theorem pg{α:Type}{l:List α}(h:l.length=2):∃a b,l=[a,b]:=by match l,h with|[a,b],_=>exact⟨a,b,rfl⟩
theorem C8{α:Type}{l:List α}(h:l.length=3):∃a b c,l=[a,b,c]:=by match l,h with|[a,b,c],_=>exact⟨a,b,c,rfl⟩
theorem fA{n:Int}(h0:0<=n)(h1:n<256):IntKind.u8.wrap n=n:=by
 have e:IntKind.wrap .u8 n=n % 256:=by simp[IntKind.wrap,IntKind.signed,IntKind.bits]
 rw[e];omega
theorem br.aj4{P:List PV->List PV->Prop}{v:PV}{cs ds:List (List PV)}(h:br P (.sl cs) ds)(h1:aQ v)(h2:aw v=true)(h3:ae v=cs):br P v ds:=
 ⟨⟨h1,h2,by rw[h3];exact h.1.2.2⟩,fun i c d hc hd=>h.2 i c d (by rw[h3]at hc;exact hc) hd⟩
theorem UQ{α:Type}{l:List α}(h:1<=l.length):∃a r,l=a::r:=by match l,h with|a::r,_=>exact⟨a,r,rfl⟩
section
variable{X:aS}{G:Nat->PV}
namespace UR
theorem cr(h:p:=by
 first
 |((exact⟨_,_,_,rfl,dT,.spread _ _ cv (XK aJ (.one cv.ht)),mC ao.1 aq.1 aE.1 aD.1 av.1 au.1 hl ax ax ax ax ax⟩))<;>exact az
 |exact kH
 |fail):p:=h
end UR
theorem asj{m:Nat}{x:List PV}{w:PV}{ds:List (List PV)}(hx:aR x)(hm:SizeOf.sizeOf x<=m)(ok:cD x)(hk:bl x=10)(hw:br CE w ds)(dB:aK (ae (x.getD 8 .undef)) ds):Pure ai X G 147 [.agg x,w] (NX x):=by
 obtain⟨kind,op,aA,chain,flags,nn,str,text,kids,bf,parts,aC,aG,rfl,hn,ao,ht,aq,aE,aD,av,au⟩:=hx.open (hm);have bX:aR [PV.int .i64 kind,.int .i64 op,.int .i64 aA,.int .i64 chain,.int .i64 flags,.bR .f64 nn,str,.str text,kids,bf,parts,aC,aG]:=hx;simp only[cQ]at hk;subst hk;have hl:aK (ae kids) ds:=dB;clear dB;cases ok with
 |mk _ _ _ _ _ _ _ _ _ _ _ _ _ hf hK=>
 have hn:(ae kids).length=1:=by unfold gN at hK;omega
 revert hf;simp[fP,ia];intros;subst_vars;have eB:=hl.1
 (try have lE:=fA (n:=op) ad ad)
 (try have lF:=fA (n:=chain) ad ad)
 have bz:=bz;obtain⟨d0,rfl⟩:=ki (l:=ds) ad;obtain⟨u0,y0,rfl,iQ,cv⟩:=hw.one;have lw:aQ (.sl [[.aj u0 y0,ab]]):=hw.1.1;have ln:([[.aj u0 y0,ab]]:List (List PV)).length=1:=rfl;have jf:aw (.sl [[.aj u0 y0,ab]])=true:=hw.1.2.1;have jX:db 2 (.sl [[.aj u0 y0,ab]]) (.int .i64 0)=some (.fp [.aj u0 y0,ab],none):=rfl;have:=ao.1;have:=ao.2.1;have:=aq.1;have:=aq.2.1;have:=aE.1;have:=aE.2.1;have:=aD.1;have:=aD.2.1;have:=av.1;have:=av.2.1;have:=au.1;have:=au.2.1;refine ay xR af ?_;refine cA ?_;open UR Ad in exact az
namespace US
theorem cr(h:p:=by
 first
 |((exact⟨_,_,_,rfl,dT,.binary _ _ _ _ _ ⟨ax,ax⟩ cv cy (XK aJ (.two cv.ht cy.ht)),mC ao.1 aq.1 aE.1 aD.1 av.1 au.1 hl ax ax ax ax ax⟩))<;>exact az
 |exact kH
 |fail):p:=h
end US
theorem asl{m:Nat}{x:List PV}{w:PV}{ds:List (List PV)}(hx:aR x)(hm:SizeOf.sizeOf x<=m)(ok:cD x)(hk:bl x=14)(hw:br CE w ds)(dB:aK (ae (x.getD 8 .undef)) ds):Pure ai X G 147 [.agg x,w] (NX x):=by
 obtain⟨kind,op,aA,chain,flags,nn,str,text,kids,bf,parts,aC,aG,rfl,hn,ao,ht,aq,aE,aD,av,au⟩:=hx.open (hm);have bX:aR [PV.int .i64 kind,.int .i64 op,.int .i64 aA,.int .i64 chain,.int .i64 flags,.bR .f64 nn,str,.str text,kids,bf,parts,aC,aG]:=hx;simp only[cQ]at hk;subst hk;have hl:aK (ae kids) ds:=dB;clear dB;cases ok with
 |mk _ _ _ _ _ _ _ _ _ _ _ _ _ hf hK=>
 have hn:(ae kids).length=2:=by unfold gN at hK;omega
 revert hf;simp[fP,ia];intros;subst_vars;have eB:=hl.1
 (try have lE:=fA (n:=op) ad ad)
 (try have lF:=fA (n:=chain) ad ad)
 have bz:=bz;obtain⟨d0,d1,rfl⟩:=pg (l:=ds) ad;obtain⟨u0,y0,u1,y1,rfl,iQ,nF,cv,cy⟩:=hw.two;have lw:aQ (.sl [[.aj u0 y0,ab],[.aj u1 y1,ab]]):=hw.1.1;have ln:([[.aj u0 y0,ab],[.aj u1 y1,ab]]:List (List PV)).length=2:=rfl;have jf:aw (.sl [[.aj u0 y0,ab],[.aj u1 y1,ab]])=true:=hw.1.2.1;have jX:db 2 (.sl [[.aj u0 y0,ab],[.aj u1 y1,ab]]) (.int .i64 0)=some (.fp [.aj u0 y0,ab],none):=rfl;have Cd:db 2 (.sl [[.aj u0 y0,ab],[.aj u1 y1,ab]]) (.int .i64 1)=some (.fp [.aj u1 y1,ab],none):=rfl;have:=ao.1;have:=ao.2.1;have:=aq.1;have:=aq.2.1;have:=aE.1;have:=aE.2.1;have:=aD.1;have:=aD.2.1;have:=av.1;have:=av.2.1;have:=au.1;have:=au.2.1;refine ay xR af ?_;refine cA ?_;open US Ln in exact az
namespace UT
theorem cr(h:p:=by
 first
 |((exact⟨_,_,_,rfl,dT,.cond _ _ _ _ _ _ cv cy jA (XK aJ (.three cv.ht cy.ht jA.ht)),mC ao.1 aq.1 aE.1 aD.1 av.1 au.1 hl ax ax ax ax ax⟩))<;>exact az
 |exact kH
 |fail):p:=h
theorem bw(h:p:=by
 first
 |exact aj2
 |exact aj3
 |exact Se
 |(simp only[eD,MF];refine cA ?_)<;>exact az
 |fail):p:=h
end UT
theorem asm{m:Nat}{x:List PV}{w:PV}{ds:List (List PV)}(hx:aR x)(hm:SizeOf.sizeOf x<=m)(ok:cD x)(hk:bl x=15)(hw:br CE w ds)(dB:aK (ae (x.getD 8 .undef)) ds):Pure ai X G 147 [.agg x,w] (NX x):=by
 obtain⟨kind,op,aA,chain,flags,nn,str,text,kids,bf,parts,aC,aG,rfl,hn,ao,ht,aq,aE,aD,av,au⟩:=hx.open (hm);have bX:aR [PV.int .i64 kind,.int .i64 op,.int .i64 aA,.int .i64 chain,.int .i64 flags,.bR .f64 nn,str,.str text,kids,bf,parts,aC,aG]:=hx;simp only[cQ]at hk;subst hk;have hl:aK (ae kids) ds:=dB;clear dB;cases ok with
 |mk _ _ _ _ _ _ _ _ _ _ _ _ _ hf hK=>
 have hn:(ae kids).length=3:=by unfold gN at hK;omega
 revert hf;simp[fP,ia];intros;subst_vars;have eB:=hl.1
 (try have lE:=fA (n:=op) ad ad)
 (try have lF:=fA (n:=chain) ad ad)
 have bz:=bz;obtain⟨d0,d1,d2,rfl⟩:=C8 (l:=ds) ad;obtain⟨u0,y0,u1,y1,u2,y2,rfl,iQ,nF,An,cv,cy,jA⟩:=hw.three;have lw:aQ (.sl [[.aj u0 y0,ab],[.aj u1 y1,ab],[.aj u2 y2,ab]]):=hw.1.1;have ln:([[.aj u0 y0,ab],[.aj u1 y1,ab],[.aj u2 y2,ab]]:List (List PV)).length=3:=rfl;have jf:aw (.sl [[.aj u0 y0,ab],[.aj u1 y1,ab],[.aj u2 y2,ab]])=true:=hw.1.2.1;have jX:db 2 (.sl [[.aj u0 y0,ab],[.aj u1 y1,ab],[.aj u2 y2,ab]]) (.int .i64 0)=some (.fp [.aj u0 y0,ab],none):=rfl;have Cd:db 2 (.sl [[.aj u0 y0,ab],[.aj u1 y1,ab],[.aj u2 y2,ab]]) (.int .i64 1)=some (.fp [.aj u1 y1,ab],none):=rfl;have MF:db 2 (.sl [[.aj u0 y0,ab],[.aj u1 y1,ab],[.aj u2 y2,ab]]) (.int .i64 2)=some (.fp [.aj u2 y2,ab],none):=rfl;have:=ao.1;have:=ao.2.1;have:=aq.1;have:=aq.2.1;have:=aE.1;have:=aE.2.1;have:=aD.1;have:=aD.2.1;have:=av.1;have:=av.2.1;have:=au.1;have:=au.2.1;refine ay xR af ?_;refine cA ?_;open UT in exact az
namespace UU
theorem cr(h:p:=by
 first
 |((exact⟨_,_,_,rfl,dT,.unary _ _ _ false false ⟨ax,ax⟩ aJ cv (XK aJ (.one cv.ht)),mC ao.1 aq.1 aE.1 aD.1 av.1 au.1 hl ax ax ax ax ax⟩))<;>exact az
 |exact kH
 |fail):p:=h
end UU
namespace UW
theorem cr(h:p:=by
 first
 |((exact⟨_,_,_,rfl,dT,.unary _ _ _ true false ⟨ax,ax⟩ aJ cv (XK aJ (.one cv.ht)),mC ao.1 aq.1 aE.1 aD.1 av.1 au.1 hl ax ax ax ax ax⟩))<;>exact az
 |exact kH
 |fail):p:=h
end UW
namespace UX
theorem cr(h:p:=by
 first
 |((exact⟨_,_,_,rfl,dT,.unary _ _ _ false true ⟨ax,ax⟩ aJ cv (XK aJ (.one cv.ht)),mC ao.1 aq.1 aE.1 aD.1 av.1 au.1 hl ax ax ax ax ax⟩))<;>exact az
 |exact kH
 |fail):p:=h
end UX
theorem asn{m:Nat}{x:List PV}{w:PV}{ds:List (List PV)}(hx:aR x)(hm:SizeOf.sizeOf x<=m)(ok:cD x)(hk:bl x=13)(hw:br CE w ds)(dB:aK (ae (x.getD 8 .undef)) ds):Pure ai X G 147 [.agg x,w] (NX x):=by
 obtain⟨kind,op,aA,chain,flags,nn,str,text,kids,bf,parts,aC,aG,rfl,hn,ao,ht,aq,aE,aD,av,au⟩:=hx.open (hm);have bX:aR [PV.int .i64 kind,.int .i64 op,.int .i64 aA,.int .i64 chain,.int .i64 flags,.bR .f64 nn,str,.str text,kids,bf,parts,aC,aG]:=hx;simp only[cQ]at hk;subst hk;have hl:aK (ae kids) ds:=dB;clear dB;cases ok with
 |mk _ _ _ _ _ _ _ _ _ _ _ _ _ hf hK=>
 have hn:(ae kids).length=1:=by unfold gN at hK;omega
 revert hf;simp[fP,ia];intros;subst_vars;have eB:=hl.1
 (try have lE:=fA (n:=op) ad ad)
 (try have lF:=fA (n:=chain) ad ad)
 have bz:=bz;have f0:decide (bits .and .i64 16 16=0)=false:=by decide
 have f1:decide (bits .and .i64 16 32=0)=true:=by decide
 have f2:decide (bits .and .i64 32 16=0)=true:=by decide
 have f3:decide (bits .and .i64 32 32=0)=false:=by decide
 obtain⟨d0,rfl⟩:=ki (l:=ds) ad;obtain⟨u0,y0,rfl,iQ,cv⟩:=hw.one;have lw:aQ (.sl [[.aj u0 y0,ab]]):=hw.1.1;have ln:([[.aj u0 y0,ab]]:List (List PV)).length=1:=rfl;have jf:aw (.sl [[.aj u0 y0,ab]])=true:=hw.1.2.1;have jX:db 2 (.sl [[.aj u0 y0,ab]]) (.int .i64 0)=some (.fp [.aj u0 y0,ab],none):=rfl;rcases‹flags=0\/flags=16\/flags=32›with rfl|rfl|rfl
 ·have:=ao.1;have:=ao.2.1;have:=aq.1;have:=aq.2.1;have:=aE.1;have:=aE.2.1;have:=aD.1;have:=aD.2.1;have:=av.1;have:=av.2.1;have:=au.1;have:=au.2.1;refine ay xR af ?_;refine cA ?_;open UU Ad in exact az
 ·have:=ao.1;have:=ao.2.1;have:=aq.1;have:=aq.2.1;have:=aE.1;have:=aE.2.1;have:=aD.1;have:=aD.2.1;have:=av.1;have:=av.2.1;have:=au.1;have:=au.2.1;refine ay xR af ?_;refine cA ?_;open UW Ad in exact az
 ·have:=ao.1;have:=ao.2.1;have:=aq.1;have:=aq.2.1;have:=aE.1;have:=aE.2.1;have:=aD.1;have:=aD.2.1;have:=av.1;have:=av.2.1;have:=au.1;have:=au.2.1;refine ay xR af ?_;refine cA ?_;open UX Ad in exact az
namespace UY
theorem cr(h:p:=by
 first
 |((exact⟨_,_,_,rfl,dT,.T2 _ _ _ _ ⟨ax,ax⟩ cv (XK ht (.one cv.ht)),mC ao.1 aq.1 aE.1 aD.1 av.1 au.1 hl ax ax ax ax ax⟩))<;>exact az
 |exact kH
 |fail):p:=h
end UY
theorem aso{m:Nat}{x:List PV}{w:PV}{ds:List (List PV)}(hx:aR x)(hm:SizeOf.sizeOf x<=m)(ok:cD x)(hk:bl x=16)(hw:br CE w ds)(dB:aK (ae (x.getD 8 .undef)) ds):Pure ai X G 148 [.agg x,w] (NX x):=by
 obtain⟨kind,op,aA,chain,flags,nn,str,text,kids,bf,parts,aC,aG,rfl,hn,ao,ht,aq,aE,aD,av,au⟩:=hx.open (hm);have bX:aR [PV.int .i64 kind,.int .i64 op,.int .i64 aA,.int .i64 chain,.int .i64 flags,.bR .f64 nn,str,.str text,kids,bf,parts,aC,aG]:=hx;simp only[cQ]at hk;subst hk;have hl:aK (ae kids) ds:=dB;clear dB;cases ok with
 |mk _ _ _ _ _ _ _ _ _ _ _ _ _ hf hK=>
 have hn:(ae kids).length=1:=by unfold gN at hK;omega
 revert hf;simp[fP,ia];intros;subst_vars;have eB:=hl.1
 (try have lE:=fA (n:=op) ad ad)
 (try have lF:=fA (n:=chain) ad ad)
 have bz:=bz;obtain⟨d0,rfl⟩:=ki (l:=ds) ad;obtain⟨u0,y0,rfl,iQ,cv⟩:=hw.one;have lw:aQ (.sl [[.aj u0 y0,ab]]):=hw.1.1;have ln:([[.aj u0 y0,ab]]:List (List PV)).length=1:=rfl;have jf:aw (.sl [[.aj u0 y0,ab]])=true:=hw.1.2.1;have jX:db 2 (.sl [[.aj u0 y0,ab]]) (.int .i64 0)=some (.fp [.aj u0 y0,ab],none):=rfl;have:=ao.1;have:=ao.2.1;have:=aq.1;have:=aq.2.1;have:=aE.1;have:=aE.2.1;have:=aD.1;have:=aD.2.1;have:=av.1;have:=av.2.1;have:=au.1;have:=au.2.1;refine ay Ak af ?_;refine cA ?_;open UY Ad in exact az
namespace UZ
theorem cr(h:p:=by
 first
 |((exact⟨_,_,_,rfl,dT,.index _ _ _ _ _ ⟨ax,ax⟩ cv cy (XK aJ (.two cv.ht cy.ht)),mC ao.1 aq.1 aE.1 aD.1 av.1 au.1 hl ax ax ax ax ax⟩))<;>exact az
 |exact kH
 |fail):p:=h
end UZ
theorem asp{m:Nat}{x:List PV}{w:PV}{ds:List (List PV)}(hx:aR x)(hm:SizeOf.sizeOf x<=m)(ok:cD x)(hk:bl x=17)(hw:br CE w ds)(dB:aK (ae (x.getD 8 .undef)) ds):Pure ai X G 148 [.agg x,w] (NX x):=by
 obtain⟨kind,op,aA,chain,flags,nn,str,text,kids,bf,parts,aC,aG,rfl,hn,ao,ht,aq,aE,aD,av,au⟩:=hx.open (hm);have bX:aR [PV.int .i64 kind,.int .i64 op,.int .i64 aA,.int .i64 chain,.int .i64 flags,.bR .f64 nn,str,.str text,kids,bf,parts,aC,aG]:=hx;simp only[cQ]at hk;subst hk;have hl:aK (ae kids) ds:=dB;clear dB;cases ok with
 |mk _ _ _ _ _ _ _ _ _ _ _ _ _ hf hK=>
 have hn:(ae kids).length=2:=by unfold gN at hK;omega
 revert hf;simp[fP,ia];intros;subst_vars;have eB:=hl.1
 (try have lE:=fA (n:=op) ad ad)
 (try have lF:=fA (n:=chain) ad ad)
 have bz:=bz;obtain⟨d0,d1,rfl⟩:=pg (l:=ds) ad;obtain⟨u0,y0,u1,y1,rfl,iQ,nF,cv,cy⟩:=hw.two;have lw:aQ (.sl [[.aj u0 y0,ab],[.aj u1 y1,ab]]):=hw.1.1;have ln:([[.aj u0 y0,ab],[.aj u1 y1,ab]]:List (List PV)).length=2:=rfl;have jf:aw (.sl [[.aj u0 y0,ab],[.aj u1 y1,ab]])=true:=hw.1.2.1;have jX:db 2 (.sl [[.aj u0 y0,ab],[.aj u1 y1,ab]]) (.int .i64 0)=some (.fp [.aj u0 y0,ab],none):=rfl;have Cd:db 2 (.sl [[.aj u0 y0,ab],[.aj u1 y1,ab]]) (.int .i64 1)=some (.fp [.aj u1 y1,ab],none):=rfl;have:=ao.1;have:=ao.2.1;have:=aq.1;have:=aq.2.1;have:=aE.1;have:=aE.2.1;have:=aD.1;have:=aD.2.1;have:=av.1;have:=av.2.1;have:=au.1;have:=au.2.1;refine ay Ak af ?_;refine cA ?_;open UZ Ln in exact az
namespace U0
theorem cr(h:p:=by
 first
 |exact FR
 |((exact⟨_,_,_,rfl,dT,.call _ _ _ _ _ (.inl rfl) _ ⟨ax,ax⟩ cv dI.1 dI.2 (XK aJ uj),mC ao.1 aq.1 aE.1 aD.1 av.1 au.1 hl ax ax ax ax ax⟩))<;>exact az
 |exact kH
 |fail):p:=h
end U0
namespace U1
theorem cr(h:p:=by
 first
 |exact FR
 |((exact⟨_,_,_,rfl,dT,.call _ _ _ _ _ (.inr rfl) _ ⟨ax,ax⟩ cv dI.1 dI.2 (XK aJ uj),mC ao.1 aq.1 aE.1 aD.1 av.1 au.1 hl ax ax ax ax ax⟩))<;>exact az
 |exact kH
 |fail):p:=h
end U1
theorem asq{m:Nat}{x:List PV}{w:PV}{ds:List (List PV)}(hx:aR x)(hm:SizeOf.sizeOf x<=m)(ok:cD x)(hk:bl x=18)(hw:br CE w ds)(dB:aK (ae (x.getD 8 .undef)) ds):Pure ai X G 148 [.agg x,w] (NX x):=by
 obtain⟨kind,op,aA,chain,flags,nn,str,text,kids,bf,parts,aC,aG,rfl,hn,ao,ht,aq,aE,aD,av,au⟩:=hx.open (hm);have bX:aR [PV.int .i64 kind,.int .i64 op,.int .i64 aA,.int .i64 chain,.int .i64 flags,.bR .f64 nn,str,.str text,kids,bf,parts,aC,aG]:=hx;simp only[cQ]at hk;subst hk;have hl:aK (ae kids) ds:=dB;clear dB;cases ok with
 |mk _ _ _ _ _ _ _ _ _ _ _ _ _ hf hK=>
 have hn:1<=(ae kids).length:=by unfold gN at hK;omega
 revert hf;simp[fP,ia];intros;subst_vars;have eB:=hl.1
 (try have lE:=fA (n:=op) ad ad)
 (try have lF:=fA (n:=chain) ad ad)
 have bz:=bz;obtain⟨d0,ds,rfl⟩:=UQ (l:=ds) ad;have uj:Ty R.aR (d0::ds):=hw.ty fun _ _ h=>h.ht
 have lc:=hw.Mz (fun c d h=>CE.shape h);obtain⟨u0,y0,cs,rfl,iQ,cv,Fc⟩:=hw.cons;have lw:aQ (.sl ([.aj u0 y0,ab]::cs)):=hw.1.1;have ln:(ae (.sl ([.aj u0 y0,ab]::cs))).length=cs.length+1:=rfl;have jf:aw (.sl ([.aj u0 y0,ab]::cs))=true:=hw.1.2.1;have jX:db 2 (.sl ([.aj u0 y0,ab]::cs)) (.int .i64 0)=some (.fp [.aj u0 y0,ab],none):=by have h9:=C1 (s:=2) (v:= .sl ([.aj u0 y0,ab]::cs)) (i:=0) (.inr ⟨_,rfl⟩) o0 dZ;simpa[ae]using h9
 rcases‹op=0\/op=2›with rfl|rfl
 ·have:=ao.1;have:=ao.2.1;have:=aq.1;have:=aq.2.1;have:=aE.1;have:=aE.2.1;have:=aD.1;have:=aD.2.1;have:=av.1;have:=av.2.1;have:=au.1;have:=au.2.1;refine ay Ak af ?_;refine cA ?_;open U0 Gv in exact az
 ·have:=ao.1;have:=ao.2.1;have:=aq.1;have:=aq.2.1;have:=aE.1;have:=aE.2.1;have:=aD.1;have:=aD.2.1;have:=av.1;have:=av.2.1;have:=au.1;have:=au.2.1;refine ay Ak af ?_;refine cA ?_;open U1 Gv in exact az
namespace U2
theorem cr(h:p:=by
 first
 |exact FR
 |((exact⟨_,_,_,rfl,dT,.new _ _ _ _ cv dI.1 dI.2 (XK aJ uj),mC ao.1 aq.1 aE.1 aD.1 av.1 au.1 hl ax ax ax ax ax⟩))<;>exact az
 |exact kH
 |fail):p:=h
end U2
theorem asr{m:Nat}{x:List PV}{w:PV}{ds:List (List PV)}(hx:aR x)(hm:SizeOf.sizeOf x<=m)(ok:cD x)(hk:bl x=19)(hw:br CE w ds)(dB:aK (ae (x.getD 8 .undef)) ds):Pure ai X G 148 [.agg x,w] (NX x):=by
 obtain⟨kind,op,aA,chain,flags,nn,str,text,kids,bf,parts,aC,aG,rfl,hn,ao,ht,aq,aE,aD,av,au⟩:=hx.open (hm);have bX:aR [PV.int .i64 kind,.int .i64 op,.int .i64 aA,.int .i64 chain,.int .i64 flags,.bR .f64 nn,str,.str text,kids,bf,parts,aC,aG]:=hx;simp only[cQ]at hk;subst hk;have hl:aK (ae kids) ds:=dB;clear dB;cases ok with
 |mk _ _ _ _ _ _ _ _ _ _ _ _ _ hf hK=>
 have hn:1<=(ae kids).length:=by unfold gN at hK;omega
 revert hf;simp[fP,ia];intros;subst_vars;have eB:=hl.1
 (try have lE:=fA (n:=op) ad ad)
 (try have lF:=fA (n:=chain) ad ad)
 have bz:=bz;obtain⟨d0,ds,rfl⟩:=UQ (l:=ds) ad;have uj:Ty R.aR (d0::ds):=hw.ty fun _ _ h=>h.ht
 have lc:=hw.Mz (fun c d h=>CE.shape h);obtain⟨u0,y0,cs,rfl,iQ,cv,Fc⟩:=hw.cons;have lw:aQ (.sl ([.aj u0 y0,ab]::cs)):=hw.1.1;have ln:(ae (.sl ([.aj u0 y0,ab]::cs))).length=cs.length+1:=rfl;have jf:aw (.sl ([.aj u0 y0,ab]::cs))=true:=hw.1.2.1;have jX:db 2 (.sl ([.aj u0 y0,ab]::cs)) (.int .i64 0)=some (.fp [.aj u0 y0,ab],none):=by have h9:=C1 (s:=2) (v:= .sl ([.aj u0 y0,ab]::cs)) (i:=0) (.inr ⟨_,rfl⟩) o0 dZ;simpa[ae]using h9
 have:=ao.1;have:=ao.2.1;have:=aq.1;have:=aq.2.1;have:=aE.1;have:=aE.2.1;have:=aD.1;have:=aD.2.1;have:=av.1;have:=av.2.1;have:=au.1;have:=au.2.1;refine ay Ak af ?_;refine cA ?_;open U2 Gv in exact az
theorem akh{m:Nat}{x:List PV}{w:PV}{ds:List (List PV)}(hx:aR x)(hm:SizeOf.sizeOf x<=m)(hk:bl x=11\/bl x=12\/16<=bl x/\bl x<=20)(hw:br CE w ds):Pure ai X G 147 [.agg x,w] xX:=by
 obtain⟨kind,op,aA,chain,flags,nn,str,text,kids,bf,parts,aC,aG,rfl,hn,ao,ht,aq,aE,aD,av,au⟩:=hx.open (hm);simp only[cQ]at hk;obtain⟨U3,g13,g14,g15,g23,g24⟩:decide (kind=10)=false/\decide (kind=13)=false/\decide (kind=14)=false/\decide (kind=15)=false/\decide (kind=23)=false/\decide (kind=24)=false:=by simp only[decide_eq_false_iff_not];omega
 have lw:=hw.1.1;have jf:=hw.1.2.1;have:=ao.1;have:=ao.2.1;have:=aq.1;have:=aq.2.1;have:=aE.1;have:=aE.2.1;have:=aD.1;have:=aD.2.1;have:=av.1;have:=av.2.1;have:=au.1;have:=au.2.1;refine ay xR af ?_;refine cA ?_;open vO in exact az
theorem asu{m:Nat}{x:List PV}{w:PV}{ds:List (List PV)}(hx:aR x)(hm:SizeOf.sizeOf x<=m)(hk:bl x=11\/bl x=12\/bl x=20)(hw:br CE w ds):Pure ai X G 148 [.agg x,w] xX:=by
 obtain⟨kind,op,aA,chain,flags,nn,str,text,kids,bf,parts,aC,aG,rfl,hn,ao,ht,aq,aE,aD,av,au⟩:=hx.open (hm);simp only[cQ]at hk;obtain⟨g16,g17,g18,g19⟩:decide (kind=16)=false/\decide (kind=17)=false/\decide (kind=18)=false/\decide (kind=19)=false:=by simp only[decide_eq_false_iff_not];omega
 have lw:=hw.1.1;have jf:=hw.1.2.1;have:=ao.1;have:=ao.2.1;have:=aq.1;have:=aq.2.1;have:=aE.1;have:=aE.2.1;have:=aD.1;have:=aD.2.1;have:=av.1;have:=av.2.1;have:=au.1;have:=au.2.1;refine ay Ak af ?_;refine cA ?_;open vO in exact az
end
end Go.Pi
end
section
open Go Go.Pi
namespace Go.Pi
variable{p q a:Prop}
section
variable{X:aS}{G:Nat->PV}
abbrev dK(X:aS)(G:Nat->PV)(m:Nat):Prop:=∀{y:List PV},EZ m y->cD y->Pure ai X G 109 [.agg y] (N1 CE y)
abbrev fj(X:aS)(G:Nat->PV)(m:Nat):Prop:=∀{y:List PV},BZ m y->nH y->Pure ai X G 20 [.agg y] (N1 CB y)
abbrev oG(X:aS)(G:Nat->PV)(m:Nat):Prop:=∀{v:PV},aB (SZ m) v->(∀y,y∈ae v->dJ y)->Pure ai X G 18 [v] (ra CS (ae v))
namespace U6
theorem cw(h:p:=by
 first
 |(have jK:=(show∀y,y∈ae v0->ug y from ok) _ b6;obtain⟨_,_,_,_,q1,q2,q3,q4⟩:=jK;have hwk:=fA (n:=gm) ad ad;have hwf:=fA (n:=et) ad ad;refine aO (Am cH q3 (show dK X G m from ci)) jQ (cB) ?_;rintro _ ⟨w1,tK,rfl,cP,bL⟩;have qT:=cP.1.1;have qU:=cP.1.2.1;rcases cP.U4 bL ad with⟨rfl,uT⟩|⟨d1,u1,y1,rfl,rfl,nF,cy⟩<;>(try have asz:=fh (c:=[.aj u1 y1,ab]))<;>refine cA ?_)<;>exact bu
 |(refine aO (Am bO q4 (show dK X G m from ci)) jQ (cB) ?_;rintro _ ⟨w2,tL,rfl,dI,aW⟩;have xC:=dI.1.1;have xD:=dI.1.2.1;obtain⟨d2,u2,y2,rfl,rfl,An,jA⟩:=dI.U5 aW q2;have aBL:=fh (c:=[.aj u2 y2,ab]);refine cA ?_)<;>exact bu
 |(simp only[eD,Ls];refine cA ?_)<;>exact bu
 |fail):p:=h
theorem iZ(h:p:=by
 first
 |skip
  refine ik (A:=[14004]) (ys:=ys) (zs:=[[.bF,.aF,ab,.aj u2 y2,ab,.aF,ab,.ah,ab,ab,.int .u8 gm,.int .u8 et]]) (ids:=[14003]) (cB) gy af af iA af fH (fun v' H' z' bI hf=>?_);clear hE hf;simp only[push];refine cA ?_;simp only[cG];refine cA ?_;have next:=nx
  unfold Hid at next
  have eO:=hg;simp only[Int.toNat_natCast]at eO;exact next (n - 1) ad _ ⟨i+1,_,_,ad,cB,cB,gK,lV,jR,iP.snoc (.mk _ _ _ _ _ _ ⟨ad,ad⟩ ⟨ad,ad⟩ .none (.some _ _ jA) (PT fN .nil (.one jA.ht))),aV.take eO (.same rfl (.same rfl (.cons (.sl cH.1 bL) rfl (.cons (.sl bO.1 aW) rfl .nil))))⟩
  done
 |fail):p:=h
theorem nD(h:p:=by
 first
 |skip
  refine ik (A:=[14004]) (ys:=ys) (zs:=[[.bF,.aj u1 y1,ab,.aj u2 y2,ab,.aF,ab,.ah,ab,ab,.int .u8 gm,.int .u8 et]]) (ids:=[14003]) (cB) gy af af iA af fH (fun v' H' z' bI hf=>?_);clear hE hf;simp only[push];refine cA ?_;simp only[cG];refine cA ?_;have next:=nx
  unfold Hid at next
  have eO:=hg;simp only[Int.toNat_natCast]at eO;exact next (n - 1) ad _ ⟨i+1,_,_,ad,cB,cB,gK,lV,jR,iP.snoc (.mk _ _ _ _ _ _ ⟨ad,ad⟩ ⟨ad,ad⟩ (.some _ _ cy) (.some _ _ jA) (PT fN (.one cy.ht) (.one jA.ht))),aV.take eO (.same rfl (.same rfl (.cons (.sl cH.1 bL) rfl (.cons (.sl bO.1 aW) rfl .nil))))⟩
  done
 |fail):p:=h
end U6
namespace U7
theorem bj(h:p:=by
 first
 |skip
  refine b5 (fun n s'=>∃(i:Nat)(ys ds:List (List PV)),i+n=(ae v0).length/\s'.t 12=v0/\s'.t 13= .int .i64 (ae v0).length/\s'.t 14= .int .i64 i/\aX [14004] s'.H 142 12 (s'.t 4) ys/\ys.length=i/\Pr CP ys ds/\aK ((ae v0).take i) ds) ?_ (n:=(ae v0).length)
   ⟨0,[],[],af,nB,nB,nB,aiL,rfl,.nil,kS⟩
  rintro n ⟨t,H,k⟩ ⟨i,ys,ds,hi,cp,cI,cS,aY,eY,iP,aV⟩ next
  simp only at cp cI cS aY;have hE:=fun(n:Nat) (H':al) (q1:H' 14004=H 14004)=>(aX.dF (n:=n) (aY.frame (H':=H') iY))
  obtain⟨g1,g2,g3,g4⟩:=aY.gv;refine nA (Kj cp (Kj cI cS)) ?_;have nx:Hid _:=next
  clear next
  open U6 dO Lo Gs in exact bu
  done
 |fail):p:=h
end U7
theorem asA{m:Nat}{v0:PV}(lv:aB (PZ m) v0)(ok:∀y,y∈ae v0->ug y)(ci:dK X G m):Pure ai X G 165 [v0] (ra CP (ae v0)):=by
 have hv:=lv.1;have eo:=lv.2.1;have hB:=lv.1.len;have ok:Hid (∀y,y∈ae v0->ug y):=ok;have ci:Hid (dK X G m):=ci;refine ay aqq af ?_;refine nA hv ?_;open U7 bi in exact az
namespace U8
theorem cw(h:p:=by
 first
 |(have jK:=(show∀y,y∈ae v0->qV y from ok) _ b6;obtain⟨_,_,_,q1,q2⟩:=jK;refine aO (Am bO q2 (show dK X G m from ci)) jQ (cB) ?_;rintro _ ⟨w1,tK,rfl,cP,bL⟩;have qT:=cP.1.1;have qU:=cP.1.2.1;obtain⟨d1,u1,y1,rfl,rfl,nF,cy⟩:=cP.U5 bL q1;have asz:=fh (c:=[.aj u1 y1,ab]);refine cA ?_)<;>exact bu
 |(simp only[eD,Ls];refine cA ?_)<;>exact bu
 |fail):p:=h
theorem iZ(h:p:=by
 first
 |skip
  refine oz (A:=[8007,8010]) (ys:=[]) (r:=kA) (zB) (cb.1.imp id (fun⟨xs,h,_⟩=>⟨xs,h⟩)) cb.2.1 (fun c hc=>by obtain⟨n,rfl,_⟩:=cb.2.2 c hc;rfl) zy af (by have:=cb.1.len;simp only[List.length_nil];omega) (fun v' H' fb bI hf fq hz=>?_);obtain⟨zz,rfl,mR⟩:=hz _ _ rfl;have MH:=hf 8013 af
  replace MH:=aaD MH
  have jw:=hZ bI;have p6:=fun(n:Nat) (fJ:al) (q1:fJ 8007=H' 8007) (q2:fJ 8010=H' 8010)=>(aX.dF (n:=n) (bI.frame (H':=fJ) pR))
  obtain⟨k1,k2,k3,k4⟩:=bI.gv;rw[List.nil_append]at k1 k2 k3;clear hE;refine cA ?_;refine ik (A:=[8013]) (ys:=ys) (zs:=[[.aj u1 y1,ab,.str rM,gv v' (ae kA),.int .i32 0]]) (ids:=8012::gi v') (cB) (by refine cA ?_;exact aY.frame (by intro b hb;simp only[List.mem_singleton]at hb;subst hb;refine zA ?_;exact MH)) af (by intro b hb h2;simp only[List.mem_singleton]at h2;subst h2;rcases List.mem_cons.1 hb with hb|hb<;>first|exact absurd hb aJ|(have:=k4 _ hb;simp at this)) iA af fH (fun v2 H2 z2 Gb vK=>?_);clear p6 hf vK;simp only[push];refine cA ?_;refine⟨by simp only[Bool.not_eq_true',List.contains_eq_mem,decide_eq_false_iff_not];intro h;have:=mR _ h;simp at this,?_⟩;simp only[cG];refine cA ?_;have next:=nx
  unfold Hid at next
  have eO:=hg;simp only[Int.toNat_natCast]at eO;exact next (n - 1) ad _ ⟨i+1,_,_,ad,cB,cB,gK,by first|(exact cB)|(refine cA ?_;exact Gb),jR,iP.snoc (.mk _ _ _ (ae kA) _ cy (C7 k1 k2 k3 cb) k3 (QT (.one cy.ht) (C6 cb) rN)),aV.take eO (.sl bO.1 bL (.xI cb (.same rfl .nil)))⟩
  done
 |fail):p:=h
end U8
namespace U9
theorem bj(h:p:=by
 first
 |skip
  refine b5 (fun n s'=>∃(i:Nat)(ys ds:List (List PV)),i+n=(ae v0).length/\s'.t 9=v0/\s'.t 10= .int .i64 (ae v0).length/\s'.t 11= .int .i64 i/\aX [8013] s'.H 250 5 (s'.t 4) ys/\ys.length=i/\Pr CQ ys ds/\aK ((ae v0).take i) ds) ?_ (n:=(ae v0).length)
   ⟨0,[],[],af,nB,nB,nB,aiL,rfl,.nil,kS⟩
  rintro n ⟨t,H,k⟩ ⟨i,ys,ds,hi,cp,cI,cS,aY,eY,iP,aV⟩ next
  simp only at cp cI cS aY;have hE:=fun(n:Nat) (H':al) (q1:H' 8013=H 8013)=>(aX.dF (n:=n) (aY.frame (H':=H') iY))
  obtain⟨g1,g2,g3,g4⟩:=aY.gv;refine nA (Kj cp (Kj cI cS)) ?_;have nx:Hid _:=next
  clear next
  open U8 dO Ac kU in exact bu
  done
 |fail):p:=h
end U9
theorem aj8{m:Nat}{v0:PV}(lv:aB (QZ m) v0)(ok:∀y,y∈ae v0->qV y)(ci:dK X G m):Pure ai X G 166 [v0] (ra CQ (ae v0)):=by
 have hv:=lv.1;have eo:=lv.2.1;have hB:=lv.1.len;have ok:Hid (∀y,y∈ae v0->qV y):=ok;have ci:Hid (dK X G m):=ci;refine ay aqr af ?_;refine nA hv ?_;open U9 bi in exact az
end
end Go.Pi
end
section
open Go Go.Pi
namespace Go.Pi
variable{p q a:Prop}
section
variable{X:aS}{G:Nat->PV}
namespace Va
theorem cw(h:p:=by
 first
 |(have jK:=(show∀y,y∈ae v0->sm y from ok) _ b6;obtain⟨_,_,_,_,_,p1,p2,p3⟩:=jK;refine aO (((show fj X G m from cM)) mL p1) bS (cB) ?_;rintro _ ⟨u1,y1,Cg,rfl,nF,cy,bL⟩;refine cA ?_)<;>exact bu
 |(refine aO (qH ee p2 p3 (show dK X G m from ci)) jQ (cB) ?_;rintro _ ⟨k2,tL,rfl,jL,en,jA,aW⟩;refine cA ?_)<;>exact bu
 |fail):p:=h
theorem iZ(h:p:=by
 first
 |skip
  obtain⟨d0,d1,d2,d3,rfl⟩:=cy.four;refine ik (A:=[9006]) (ys:=ys) (zs:=[[.aj u1 y1,ab,k2,ab,.ah,b0]]) (ids:=[9005]) (cB) gy af af iA af fH (fun v' H' z' bI hf=>?_);clear hE hf;simp only[push];refine cA ?_;simp only[cG];refine cA ?_;have next:=nx
  unfold Hid at next
  have eO:=hg;simp only[Int.toNat_natCast]at eO;exact next (n - 1) ad _ ⟨i+1,_,_,ad,cB,cB,gK,lV,jR,iP.snoc (.mk _ _ _ _ _ _ _ cy jA (AT jA.ty cy.ht)),aV.take eO (dE.append bL (.sl ee.1 aW .nil))⟩
  done
 |fail):p:=h
end Va
namespace Vb
theorem bj(h:p:=by
 first
 |skip
  refine b5 (fun n s'=>∃(i:Nat)(ys ds:List (List PV)),i+n=(ae v0).length/\s'.t 11=v0/\s'.t 12= .int .i64 (ae v0).length/\s'.t 13= .int .i64 i/\aX [9006] s'.H 432 6 (s'.t 4) ys/\ys.length=i/\Pr CA ys ds/\aK ((ae v0).take i) ds) ?_ (n:=(ae v0).length)
   ⟨0,[],[],af,nB,nB,nB,aiL,rfl,.nil,kS⟩
  rintro n ⟨t,H,k⟩ ⟨i,ys,ds,hi,cp,cI,cS,aY,eY,iP,aV⟩ next
  simp only at cp cI cS aY;have hE:=fun(n:Nat) (H':al) (q1:H' 9006=H 9006)=>(aX.dF (n:=n) (aY.frame (H':=H') iY))
  obtain⟨g1,g2,g3,g4⟩:=aY.gv;refine nA (Kj cp (Kj cI cS)) ?_;have nx:Hid _:=next
  clear next
  open Va dO Ac kU in exact bu
  done
 |fail):p:=h
end Vb
theorem asB{m:Nat}{v0:PV}(lv:aB (AZ m) v0)(ok:∀y,y∈ae v0->sm y)(ci:dK X G m)(cM:fj X G m):Pure ai X G 150 [v0] (ra CA (ae v0)):=by
 have hv:=lv.1;have eo:=lv.2.1;have hB:=lv.1.len;have ok:Hid (∀y,y∈ae v0->sm y):=ok;have ci:Hid (dK X G m):=ci;have cM:Hid (fj X G m):=cM;refine ay aqc af ?_;refine nA hv ?_;open Vb bi in exact az
namespace Vc
theorem cw(h:p:=by
 first
 |(have jK:=(show∀y,y∈ae v0->mS y from ok) _ b6;obtain⟨_,_,_,_,_,p1,p2,p3⟩:=jK;refine aO (((show fj X G m from cM)) mL p1) bS (cB) ?_;rintro _ ⟨u1,y1,Cg,rfl,nF,cy,bL⟩;refine cA ?_)<;>exact bu
 |(refine aO (qH bO p2 p3 (show dK X G m from ci)) jQ (cB) ?_;rintro _ ⟨k2,tL,rfl,jL,en,jA,aW⟩;refine cA ?_)<;>exact bu
 |fail):p:=h
theorem iZ(h:p:=by
 first
 |skip
  obtain⟨d0,d1,d2,d3,rfl⟩:=cy.four;refine ik (A:=[9006]) (ys:=ys) (zs:=[[.aj u1 y1,ab,k2,ab]]) (ids:=[9005]) (cB) gy af af iA af fH (fun v' H' z' bI hf=>?_);clear hE hf;simp only[push];refine cA ?_;simp only[cG];refine cA ?_;have next:=nx
  unfold Hid at next
  have eO:=hg;simp only[Int.toNat_natCast]at eO;exact next (n - 1) ad _ ⟨i+1,_,_,ad,cB,cB,gK,lV,jR,iP.snoc (.mk _ _ _ _ _ _ _ cy jA (DT jA.ty cy.ht)),aV.take eO (dE.append bL (.sl bO.1 aW .nil))⟩
  done
 |fail):p:=h
end Vc
namespace Vd
theorem bj(h:p:=by
 first
 |skip
  refine b5 (fun n s'=>∃(i:Nat)(ys ds:List (List PV)),i+n=(ae v0).length/\s'.t 11=v0/\s'.t 12= .int .i64 (ae v0).length/\s'.t 13= .int .i64 i/\aX [9006] s'.H 384 4 (s'.t 4) ys/\ys.length=i/\Pr CD ys ds/\aK ((ae v0).take i) ds) ?_ (n:=(ae v0).length)
   ⟨0,[],[],af,nB,nB,nB,aiL,rfl,.nil,kS⟩
  rintro n ⟨t,H,k⟩ ⟨i,ys,ds,hi,cp,cI,cS,aY,eY,iP,aV⟩ next
  simp only at cp cI cS aY;have hE:=fun(n:Nat) (H':al) (q1:H' 9006=H 9006)=>(aX.dF (n:=n) (aY.frame (H':=H') iY))
  obtain⟨g1,g2,g3,g4⟩:=aY.gv;refine nA (Kj cp (Kj cI cS)) ?_;have nx:Hid _:=next
  clear next
  open Vc dO Ac kU in exact bu
  done
 |fail):p:=h
end Vd
theorem I9{m:Nat}{v0:PV}(lv:aB (DZ m) v0)(ok:∀y,y∈ae v0->mS y)(ci:dK X G m)(cM:fj X G m):Pure ai X G 111 [v0] (ra CD (ae v0)):=by
 have hv:=lv.1;have eo:=lv.2.1;have hB:=lv.1.len;have ok:Hid (∀y,y∈ae v0->mS y):=ok;have ci:Hid (dK X G m):=ci;have cM:Hid (fj X G m):=cM;refine ay ao8 af ?_;refine nA hv ?_;open Vd bi in exact az
end
end Go.Pi
end
section
open Go Go.Pi
namespace Go.Pi
variable{p q a:Prop}
section
variable{X:aS}{G:Nat->PV}
def NS(x:List PV)(r:PV):Prop:=∃t k d,r= .bZ [.aj t k,.bool true]/\aw k=true/\CS [.aj t k,ab] d/\dE x d
abbrev G0(X:aS)(G:Nat->PV)(m:Nat):Prop:=∀{y:List PV},SZ m y->dJ y->Pure ai X G 27 [.agg y] (NS y)
namespace Ve
theorem cw(h:p:=by
 first
 |(refine aO ((show G0 X G m from Da) ‹SZ _ _› ((show∀y,y∈ae v0->dJ y from ok) _ b6)) bS (cB) ?_;rintro _ ⟨u1,y1,Cg,rfl,nF,cy,bL⟩;refine cA ?_)<;>exact bu
 |fail):p:=h
theorem iZ(h:p:=by
 first
 |skip
  refine ik (A:=[8005]) (ys:=ys) (zs:=[[.aj u1 y1,ab]]) (ids:=[8004]) (cB) gy af af iA af fH (fun v' H' z' bI hf=>?_);clear hE hf;simp only[push];refine cA ?_;simp only[cG];refine cA ?_;have next:=nx
  unfold Hid at next
  have eO:=hg;simp only[Int.toNat_natCast]at eO;exact next (n - 1) ad _ ⟨i+1,_,_,ad,cB,cB,gK,lV,jR,iP.snoc (cy),aV.take eO (bL)⟩
  done
 |fail):p:=h
end Ve
namespace Vf
theorem bj(h:p:=by
 first
 |skip
  refine b5 (fun n s'=>∃(i:Nat)(ys ds:List (List PV)),i+n=(ae v0).length/\s'.t 9=v0/\s'.t 10= .int .i64 (ae v0).length/\s'.t 11= .int .i64 i/\aX [8005] s'.H 92 2 (s'.t 4) ys/\ys.length=i/\Pr CS ys ds/\aK ((ae v0).take i) ds) ?_ (n:=(ae v0).length)
   ⟨0,[],[],af,nB,nB,nB,aiL,rfl,.nil,kS⟩
  rintro n ⟨t,H,k⟩ ⟨i,ys,ds,hi,cp,cI,cS,aY,eY,iP,aV⟩ next
  simp only at cp cI cS aY;have hE:=fun(n:Nat) (H':al) (q1:H' 8005=H 8005)=>(aX.dF (n:=n) (aY.frame (H':=H') iY))
  obtain⟨g1,g2,g3,g4⟩:=aY.gv;refine nA (Kj cp (Kj cI cS)) ?_;have nx:Hid _:=next
  clear next
  open Ve dO Ac kU in exact bu
  done
 |fail):p:=h
end Vf
theorem Vg{m:Nat}{v0:PV}(lv:aB (SZ m) v0)(ok:∀y,y∈ae v0->dJ y)(Da:G0 X G m):Pure ai X G 18 [v0] (ra CS (ae v0)):=by
 have hv:=lv.1;have eo:=lv.2.1;have hB:=lv.1.len;have ok:Hid (∀y,y∈ae v0->dJ y):=ok;have Da:Hid (G0 X G m):=Da;refine ay T18 af ?_;refine nA hv ?_;open Vf bi in exact az
namespace Vh
theorem cw(h:p:=by
 first
 |(have jK:=(show∀y,y∈ae v0->vS y from ok) _ b6;obtain⟨_,_,_,_,_,_,q1,q2,q3,q4,q5⟩:=jK;have hwk:=fA (n:=gm) ad ad;have hwf:=fA (n:=et) ad ad;refine aO (qH cH ad q2 (show dK X G m from ci)) jQ (cB) ?_;rintro _ ⟨k1,tK,rfl,fw,cN,cy,bL⟩;refine cA ?_)<;>exact bu
 |(refine aO (qH bO ad q3 (show dK X G m from ci)) jQ (cB) ?_;rintro _ ⟨k2,tL,rfl,jL,en,jA,aW⟩;refine cA ?_)<;>exact bu
 |(refine aO (qH iJ ad q4 (show dK X G m from ci)) jQ (cB) ?_;rintro _ ⟨k3,Vi,rfl,hk3,o9,MI,lX⟩;refine cA ?_)<;>exact bu
 |(refine aO ((show oG X G m from kE) ‹aB (SZ _) _› q5) jQ (cB) ?_;rintro _ ⟨w4,ds4,rfl,p9,rb⟩;have MJ:=p9.1.1;have MK:=p9.1.2.1;have asE:=fQ (MJ.imp id fun⟨xs,h,_⟩=>⟨xs,h⟩);have asF:=fun(n:Nat) (H:al)=>aH (n:=n) (H:=H) MK;refine cA ?_)<;>exact bu
 |fail):p:=h
theorem iZ(h:p:=by
 first
 |skip
  have e1:=bL.1;have e2:=aW.1;have e3:=lX.1;obtain rfl:tK=[]:=List.eq_nil_of_length_eq_zero ad;obtain rfl:tL=[]:=List.eq_nil_of_length_eq_zero ad;obtain rfl:Vi=[]:=List.eq_nil_of_length_eq_zero ad;cases cy;cases jA;cases MI;refine ik (A:=[16004]) (ys:=ys) (zs:=[[.fp [w4,ab,ab],.aF,ab,.aF,ab,.aF,ab,.ah,ab,ab,.int .u8 _,.int .u8 et]]) (ids:=[16003,15004]) (cB) gy af af iA af fH (fun v' H' z' bI hf=>?_);clear hE hf;simp only[push];refine cA ?_;simp only[cG];refine cA ?_;have next:=nx
  unfold Hid at next
  have eO:=hg;simp only[Int.toNat_natCast]at eO;exact next (n - 1) ad _ ⟨i+1,_,_,ad,cB,cB,gK,lV,jR,iP.snoc (.block _ _ _ _ ad p9.1 p9.2 (MT fN .nil .nil .nil (p9.ty fun _ _ h=>h.ht))),aV.take eO (.same rfl (.same rfl (.sl cH.1 bL (.sl bO.1 aW (.sl iJ.1 lX (.sl ‹aB (SZ _) _›.1 rb .nil))))))⟩
  done
 |fail):p:=h
theorem nD(h:p:=by
 first
 |skip
  have e5:(ae BB).length=0:=by omega
  refine ik (A:=[16004]) (ys:=ys) (zs:=[[.bF,k1,ab,k2,ab,k3,ab,.ah,ab,ab,.int .u8 gm,.int .u8 et]]) (ids:=[16003]) (cB) gy af af iA af fH (fun v' H' z' bI hf=>?_);clear hE hf;simp only[push];refine cA ?_;simp only[cG];refine cA ?_;have next:=nx
  unfold Hid at next
  have eO:=hg;simp only[Int.toNat_natCast]at eO;exact next (n - 1) ad _ ⟨i+1,_,_,ad,cB,cB,gK,lV,jR,iP.snoc (.mk _ _ _ _ _ _ _ _ ⟨ad,ad⟩ ⟨ad,ad⟩ cy jA MI (MT fN cy.ty jA.ty MI.ty .nil)),aV.take eO (.same rfl (.same rfl (.sl cH.1 bL (.sl bO.1 aW (.sl iJ.1 lX (.sl jM.1 (.zero e5) .nil))))))⟩
  done
 |fail):p:=h
end Vh
namespace Vj
theorem bj(h:p:=by
 first
 |skip
  refine b5 (fun n s'=>∃(i:Nat)(ys ds:List (List PV)),i+n=(ae v0).length/\s'.t 16=v0/\s'.t 17= .int .i64 (ae v0).length/\s'.t 18= .int .i64 i/\aX [16004] s'.H 142 12 (s'.t 4) ys/\ys.length=i/\Pr CM ys ds/\aK ((ae v0).take i) ds) ?_ (n:=(ae v0).length)
   ⟨0,[],[],af,nB,nB,nB,aiL,rfl,.nil,kS⟩
  rintro n ⟨t,H,k⟩ ⟨i,ys,ds,hi,cp,cI,cS,aY,eY,iP,aV⟩ next
  simp only at cp cI cS aY;have hE:=fun(n:Nat) (H':al) (q1:H' 16004=H 16004)=>(aX.dF (n:=n) (aY.frame (H':=H') iY))
  obtain⟨g1,g2,g3,g4⟩:=aY.gv;refine nA (Kj cp (Kj cI cS)) ?_;have nx:Hid _:=next
  clear next
  open Vh xM Lo Gs in exact bu
  done
 |fail):p:=h
end Vj
theorem asG{m:Nat}{v0:PV}(lv:aB (MZ m) v0)(ok:∀y,y∈ae v0->vS y)(ci:dK X G m)(kE:oG X G m):Pure ai X G 151 [v0] (ra CM (ae v0)):=by
 have hv:=lv.1;have eo:=lv.2.1;have hB:=lv.1.len;have ok:Hid (∀y,y∈ae v0->vS y):=ok;have ci:Hid (dK X G m):=ci;have kE:Hid (oG X G m):=kE;refine ay aqd af ?_;refine nA hv ?_;open Vj bi in exact az
end
end Go.Pi
end
section
open Go Go.Pi
namespace Go.Pi
variable{p q a:Prop}
theorem J4{nm:PV}{n:Int}(h:CN nm n):cellsOf nm=some [nm]:=by cases h<;>rfl
theorem J5{nm:PV}{n:Int}(h:CN nm n):aw nm=true:=by cases h<;>rfl
def MN(v:PV):Prop:=cellsOf v=some [v]/\aw v=true
def NC(x:List PV)(r:PV):Prop:=∃nm k v d,r= .bZ [.agg [.ah,nm,k,ab,v,ab,ab,ab,ab,b0,.bool true],.bool true]/\MN nm/\MN k/\aQ v/\aw v=true/\CC [.ah,nm,k,ab,v,ab,ab,ab,ab,b0,.bool true] d/\dE x d
def NF(x:List PV)(r:PV):Prop:=∃nm ar bd r1 r2 b1 b2 b3 d,r= .bZ [.agg [nm,ar,bd,ab,ab,.int .u32 r1,.int .u32 r2,ab,.bool b1,.bool b2,.bool b3,b0,b0,b0],.bool true]/\MN nm/\aQ ar/\aw ar=true/\aQ bd/\aw bd=true/\CF [nm,ar,bd,ab,ab,.int .u32 r1,.int .u32 r2,ab,.bool b1,.bool b2,.bool b3,b0,b0,b0] d/\dE x d/\(b3=true->0<(ae ar).length)
def NA(K:Int)(x:List PV)(r:PV):Prop:=∃t k fd,r= .bZ [.aj t k,.bool true]/\aw k=true/\CE [.aj t k,ab] (Xd K 0 0 0 0 0 e0 cq e0 e0 e0 fd e0)/\(∀v,aQ v->ae v=[x]->cd v fd)/\fd.flat=true
abbrev bt(f n:Int):Bool:=!decide (bits .and .i64 f n=0)
theorem asN{f:Int}(h0:0<=f)(h1:f<=7):fg (bt f 1) 1+fg (bt f 2) 2+fg (bt f 4) 4=f/\bits .and .i64 f 16=0/\bits .and .i64 f 32=0/\(bt f 4=true->f % 8≥4):=by
 have h:f=0\/f=1\/f=2\/f=3\/f=4\/f=5\/f=6\/f=7:=by omega
 rcases h with rfl|rfl|rfl|rfl|rfl|rfl|rfl|rfl<;>decide
theorem asO{f:Int}(h:f=0\/f=1\/f=4\/f=5\/f=8\/f=9\/f=12\/f=13):fg (bt f 1) 1+fg (bt f 4) 4+fg (bt f 8) 8=f/\bits .and .i64 f 16=0/\(bt f 1=false↔f=0\/f=4\/f=8\/f=12):=by
 rcases h with rfl|rfl|rfl|rfl|rfl|rfl|rfl|rfl<;>decide
theorem asP{v args body:PV}(hv:aQ v)(ha:aQ args)(hb:aQ body)(h:ae v=[[.int .i64 (-1),.int .i64 0,args,body]])(a0:(ae args).length=0)(b0:(ae body).length=0):cd v oC:=by
 refine cd.trans (cd.sl hv (ds:=[[.int .i64 (-1),.int .i64 0,.sl [],.sl []]]) ?_) (cd.qh rfl);rw[h];exact aK.nil.snoc (.same rfl (.same rfl (.cons (.e0 ha a0) rfl (.cons (.e0 hb b0) rfl .nil))))
section
variable{X:aS}{G:Nat->PV}
namespace Vn
theorem cr(h:p:=by
 first
 |((exact .none))<;>exact az
 |exact kH
 |fail):p:=h
end Vn
namespace Vo
theorem cr(h:p:=by
 first
 |exact FR
 |((exact .some n ⟨h0,h1⟩))<;>exact az
 |exact kH
 |fail):p:=h
end Vo
theorem FV(n:Int)(h:Sy n):Pure ai X G 110 [.int .i64 n] (fun r=>CN r n):=by
 refine ay ao7 af ?_;rcases h with rfl|⟨h0,h1⟩
 ·refine zA ?_;open Vn Cm in exact az
 ·have hw:=nJ h0 h1;refine zA ?_;open Vo Cm in exact az
namespace Vp
theorem bw(h:p:=by
 first
 |(refine aO (qH fR q2 q3 ci) jQ (cB) ?_;rintro _ ⟨k1,tK,rfl,fw,cN,cy,bL⟩;have dt:=fun(n:Nat) (H:al)=>aH (n:=n) (H:=H) cN;refine cA ?_)<;>exact az
 |(refine aO (asQ fz q4) jQ (cB) ?_;rintro _ ⟨w2,tL,rfl,dI,aW⟩;have xC:=dI.1.1;have xD:=dI.1.2.1;have aj5:=fQ (xC.imp id fun⟨xs,h,_⟩=>⟨xs,h⟩);have aj6:=fun(n:Nat) (H:al)=>aH (n:=n) (H:=H) xD;refine cA ?_)<;>exact az
 |(refine aO (FV _ q1) bS (cB) ?_;rintro nm dU;have Cf:=J4 dU;have xF:=J5 dU;have Sn:=fun(n:Nat) (H:al)=>aH (n:=n) (H:=H) xF;refine cA ?_)<;>exact az
 |fail):p:=h
theorem bj(h:p:=by
 first
 |skip
  exact⟨_,_,_,_,rfl,⟨Cf,xF⟩,⟨fw,cN⟩,xC,xD,.mk _ _ _ _ _ _ dU cy dI.1 dI.2 (CT cy.ty (dI.ty fun _ _ h=>h.ht)),.same rfl (.sl fR.1 bL (.sl fz.1 aW .nil))⟩;done
 |fail):p:=h
end Vp
theorem asR{m:Nat}{x:List PV}(ci:dK X G m)(asQ:∀{v1},aB (MZ m) v1->(∀y,y∈ae v1->vS y)->Pure ai X G 151 [v1] (ra CM (ae v1)))(hx:gH x)(hm:SizeOf.sizeOf x<=m)(ok:sj x):Pure ai X G 113 [.agg x] (NC x):=by
 obtain⟨name,ext,fM,rfl,fR,fz⟩:=hx.open (hm);have:=fR.1;have:=fR.2.1;have:=fz.1;have:=fz.2.1;obtain⟨_,_,_,q1,q2,q3,q4⟩:=ok;refine ay apa af ?_;refine cA ?_;open Vp bi in exact az
abbrev MO(X:aS)(G:Nat->PV)(m:Nat):Prop:=∀{v1},aB (AZ m) v1->(∀y,y∈ae v1->sm y)->Pure ai X G 150 [v1] (ra CA (ae v1))
namespace Vq
theorem bw(h:p:=by
 first
 |exact aj7
 |exact Sh
 |(refine aO (FV _ q1.1) bS (cB) ?_;rintro nm dU;have Cf:=J4 dU;have xF:=J5 dU;have Sn:=fun(n:Nat) (H:al)=>aH (n:=n) (H:=H) xF;refine cA ?_)<;>exact az
 |fail):p:=h
theorem bj(h:p:=by
 first
 |skip
  have f1:fg (bt flags 1) 1+fg (bt flags 2) 2+fg (bt flags 4) 4=flags:=f1;exact⟨_,_,_,_,_,_,_,_,_,rfl,⟨Cf,xF⟩,qT,qU,xC,xD,.mk _ _ _ _ _ (bt flags 1) (bt flags 2) (bt flags 4) _ _ _ dU cP.1 cP.2 dI.1 dI.2 (FT (by rw[f1];exact hr) (cP.ty fun _ _ h=>h.ht) (dI.ty fun _ _ h=>h.ht)),.same rfl (.cons (by rw[f1];exact .refl _) rfl (.sl cu.1 bL (.sl cz.1 aW .nil))),fun h=>by have h1:=(show bt flags 4=true->flags % 8≥4 from f4) h;have h2:=q2 h1;have n1:=cP.1.2.2;have m1:=bL.1;omega⟩;done
 |fail):p:=h
end Vq
theorem asS{m:Nat}{x:List PV}{ga gb:Int}(hG:G 0= .fp [.int .u32 ga,.int .u32 gb])(kE:oG X G m)(Ce:MO X G m)(hx:gu x)(hm:SizeOf.sizeOf x<=m)(ok:oB false x):Pure ai X G 112 [.agg x] (NF x):=by
 obtain⟨name,flags,args,body,rfl,hr,cu,cz⟩:=hx.open (hm);have:=cu.1;have:=cu.2.1;have:=cz.1;have:=cz.2.1;obtain⟨_,_,_,_,_,q1,q2,q3,q4,q5⟩:=ok;have q1:Sy name/\0<=flags/\flags<=7:=by simpa using q1
 obtain⟨f1,f2,f3,f4⟩:=asN q1.2.1 q1.2.2;have f4:Hid (bt flags 4=true->flags % 8≥4):=f4;refine ay ao9 af ?_;have f1:Hid (fg (bt flags 1) 1+fg (bt flags 2) 2+fg (bt flags 4) 4=flags):=f1;refine cA ?_;open Vq bi in exact az
namespace Vr
theorem bw(h:p:=by
 first
 |exact aj7
 |exact Sh
 |fail):p:=h
theorem bj(h:p:=by
 first
 |skip
  have f1:fg (bt flags 1) 1+fg (bt flags 4) 4+fg (bt flags 8) 8=flags:=f1;have f3:bt flags 1=false↔flags=0\/flags=4\/flags=8\/flags=12:=f3;have n1:=cP.1.2.2;have n2:=dI.1.2.2;have m1:=bL.1;have m2:=aW.1;by_cases tr:(ae args).length=0/\(ae body).length=0/\bt flags 1=false
  ·obtain⟨t1,t2,t3⟩:=tr;have hf0:flags=0:=by have:=f3.1 t3;omega
   refine⟨_,_,oC,rfl,dT,?_,fun v hv he=>?_,rfl⟩
   ·have t3':(!decide (bits .and .i64 flags 1=0))=false:=t3;rw[t3'];exact .Uc _ _ _ _ ⟨qT,qU,ad⟩ ⟨xC,xD,ad⟩ (XT (df:=[]) aJ .nil aJ .nil .nil .nil (.inr ⟨rfl,.inr rfl⟩) .nil)
   ·rw[hf0]at he;exact asP hv cu.1 cz.1 he t1 t2
  ·refine⟨_,_,.sl [[.int .i64 (-1),.int .i64 (fg (bt flags 1) 1+fg (bt flags 4) 4+fg (bt flags 8) 8),.sl tK,.sl tL]],rfl,dT,.xV _ _ (bt flags 1) (bt flags 4) (bt flags 8) _ _ ?_ cP.1 cP.2 dI.1 dI.2 (XT aJ .nil aJ .nil .nil .nil (.inl ⟨rfl,.one (FT (by rw[f1];exact hr) (cP.ty fun _ _ h=>h.ht) (dI.ty fun _ _ h=>h.ht))⟩) .nil),fun v hv he=>?_,rfl⟩
   ·by_cases e1:(ae args).length=0
    ·by_cases e2:(ae body).length=0
     ·exact .inr (.inr (by cases h:bt flags 1;exact absurd ⟨e1,e2,h⟩ tr;rfl))
     ·exact .inr (.inl ad)
    ·exact .inl ad
   ·exact cd.sl hv (by rw[he];exact aK.nil.snoc (.same rfl (.cons (by rw[f1];exact .refl _) rfl (.sl cu.1 bL (.sl cz.1 aW .nil)))))
  done
 |fail):p:=h
end Vr
theorem asV{m:Nat}{x:List PV}(kE:oG X G m)(Ce:MO X G m)(hx:gu x)(hm:SizeOf.sizeOf x<=m)(ok:oB true x):Pure ai X G 164 [.agg x] (NA 22 x):=by
 obtain⟨name,flags,args,body,rfl,hr,cu,cz⟩:=hx.open (hm);have:=cu.1;have:=cu.2.1;have:=cz.1;have:=cz.2.1;obtain⟨_,_,_,_,_,q1,q2,q3,q4,q5⟩:=ok;have q1:name=-1/\(flags=0\/flags=1\/flags=4\/flags=5\/flags=8\/flags=9\/flags=12\/flags=13):=by simpa using q1
 obtain⟨rfl,p1⟩:=q1;obtain⟨f1,f2,f3⟩:=asO p1;have f1:Hid (fg (bt flags 1) 1+fg (bt flags 4) 4+fg (bt flags 8) 8=flags):=f1;have f3:Hid (bt flags 1=false↔flags=0\/flags=4\/flags=8\/flags=12):=f3;refine ay aqp af ?_;refine cA ?_;open Vr bi in exact az
end
end Go.Pi
end
