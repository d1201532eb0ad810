import Derived.Test.YtofdfffpmbgogaaGreatDoorP13
import Derived.Test.YtofdfffpmbgogaaGreatDoorP18
import Derived.Test.YtofdfffpmbgogaaGreatDoorP23
/- Part of the proof. -/
set_option linter.all false
set_option maxHeartbeats 0
set_option maxRecDepth 100000
section
open Go Go.Pi
namespace Go.Pi
variable{p q a:Prop}
section
variable{X:aS}{G:Nat->PV}
def DR(y:List PV):Prop:=∃l:List PV,y= .int .i64 7::l
def QJ(flags:Int)(kids decls:PV):Prop:=
 ((flags=4/\(ae kids).length=2/\(ae decls).length<=1\/flags=8/\(ae kids).length=2/\(ae decls).length=0\/flags=12/\(ae kids).length=3/\(ae decls).length<=1)/\(∀y,y∈ae kids->DR y))/\(∀y,y∈ae decls->∃b0 b1 b2 b3 v:PV,y=[b0,b1,b2,b3,v]/\(ae v).length=0)/\∀y,y∈ae decls->mS y
theorem s38{m:Nat}(deep:Int)(ih:mj X G m)(kind op aA flags:Int)(str exprs kids decls cases aC aG:PV)(aq:aB (SZ m) kids)(aL:aB (DZ m) decls)(hx:bH [.int .i64 kind,.int .i64 op,.int .i64 aA,.int .i64 flags,str,exprs,kids,decls,cases,aC,aG])
 (hm:SizeOf.sizeOf [PV.int .i64 kind,.int .i64 op,.int .i64 aA,.int .i64 flags,str,exprs,kids,decls,cases,aC,aG]<=m):Pure ai X G 53 [.agg [.int .i64 kind,.int .i64 op,.int .i64 aA,.int .i64 flags,str,exprs,kids,decls,cases,aC,aG],.int .i64 deep] (fm (QJ flags kids decls)):=by
 have cP:IntKind.i64.wrap (1+1)=2:=by decide
 have dI:IntKind.i64.wrap (2+1)=3:=by decide
 obtain⟨awz,op',awB,awC,awD,awE,awF,awG,awH,awI,awJ,he,r4,ao,aN,aC9,aDa,aM,av,au⟩:=hx.open hm;cases he;by_cases c4:bits .and .i64 flags 4=0
 ·by_cases c8:bits .and .i64 flags 8=0
  ·skip;refine ay GM af ?_;refine EL (Kj ao.1 (Kj ao.2.1 (Kj aN.1 (Kj aN.2.1 (Kj aq.1 (Kj aq.2.1 (Kj aL.1 (Kj aL.2.1 (Kj aM.1 (Kj aM.2.1 (Kj av.1 (Kj av.2.1 (Kj au.1 (Kj au.2.1 (Kj c4 (Kj c8 (Kj cP dI))))))))))))))))) ?_;have hB:=aq.1.len;refine b5 (fun n s=>∃i:Nat,i+n=(ae kids).length/\s.t 1= .int .i64 deep/\s.t 2= .ptr 1 1 0/\s.t 5= .int .i64 1/\s.t 6= .int .i64 i/\s.H 1=some ⟨55,1,[.int .i64 kind,.int .i64 op,.int .i64 aA,.int .i64 flags,str,exprs,kids,decls,cases,aC,aG],0⟩/\dL DR kids i) ?_ (n:=(ae kids).length) ⟨0,af,sA (Kj ao.1 (Kj ao.2.1 (Kj aN.1 (Kj aN.2.1 (Kj aq.1 (Kj aq.2.1 (Kj aL.1 (Kj aL.2.1 (Kj aM.1 (Kj aM.2.1 (Kj av.1 (Kj av.2.1 (Kj au.1 (Kj au.2.1 (Kj cP dI))))))))))))))),sA (Kj ao.1 (Kj ao.2.1 (Kj aN.1 (Kj aN.2.1 (Kj aq.1 (Kj aq.2.1 (Kj aL.1 (Kj aL.2.1 (Kj aM.1 (Kj aM.2.1 (Kj av.1 (Kj av.2.1 (Kj au.1 (Kj au.2.1 (Kj cP dI))))))))))))))),sA (Kj ao.1 (Kj ao.2.1 (Kj aN.1 (Kj aN.2.1 (Kj aq.1 (Kj aq.2.1 (Kj aL.1 (Kj aL.2.1 (Kj aM.1 (Kj aM.2.1 (Kj av.1 (Kj av.2.1 (Kj au.1 (Kj au.2.1 (Kj cP dI))))))))))))))),sA (Kj ao.1 (Kj ao.2.1 (Kj aN.1 (Kj aN.2.1 (Kj aq.1 (Kj aq.2.1 (Kj aL.1 (Kj aL.2.1 (Kj aM.1 (Kj aM.2.1 (Kj av.1 (Kj av.2.1 (Kj au.1 (Kj au.2.1 (Kj cP dI))))))))))))))),sA (Kj ao.1 (Kj ao.2.1 (Kj aN.1 (Kj aN.2.1 (Kj aq.1 (Kj aq.2.1 (Kj aL.1 (Kj aL.2.1 (Kj aM.1 (Kj aM.2.1 (Kj av.1 (Kj av.2.1 (Kj au.1 (Kj au.2.1 (Kj cP dI))))))))))))))),dL.zero⟩;rintro n ⟨t,H,k⟩ ⟨i,hi,h1,h2,h5,hI,e1,hU⟩ next
   simp only at h1 h2 h5 hI e1;refine nA (Kj h1 (Kj h2 (Kj h5 (Kj hI (Kj e1 (Kj ao.1 (Kj ao.2.1 (Kj aN.1 (Kj aN.2.1 (Kj aq.1 (Kj aq.2.1 (Kj aL.1 (Kj aL.2.1 (Kj aM.1 (Kj aM.2.1 (Kj av.1 (Kj av.2.1 (Kj au.1 au.2.1)))))))))))))))))) ?_;open Cv Cw Cx in exact b7
  ·skip;refine ay GM af ?_;refine EL (Kj ao.1 (Kj ao.2.1 (Kj aN.1 (Kj aN.2.1 (Kj aq.1 (Kj aq.2.1 (Kj aL.1 (Kj aL.2.1 (Kj aM.1 (Kj aM.2.1 (Kj av.1 (Kj av.2.1 (Kj au.1 (Kj au.2.1 (Kj c4 (Kj c8 (Kj cP dI))))))))))))))))) ?_;have hB:=aq.1.len;refine b5 (fun n s=>∃i:Nat,i+n=(ae kids).length/\s.t 1= .int .i64 deep/\s.t 2= .ptr 1 1 0/\s.t 5= .int .i64 2/\s.t 6= .int .i64 i/\s.H 1=some ⟨55,1,[.int .i64 kind,.int .i64 op,.int .i64 aA,.int .i64 flags,str,exprs,kids,decls,cases,aC,aG],0⟩/\dL DR kids i) ?_ (n:=(ae kids).length) ⟨0,af,sA (Kj ao.1 (Kj ao.2.1 (Kj aN.1 (Kj aN.2.1 (Kj aq.1 (Kj aq.2.1 (Kj aL.1 (Kj aL.2.1 (Kj aM.1 (Kj aM.2.1 (Kj av.1 (Kj av.2.1 (Kj au.1 (Kj au.2.1 (Kj cP dI))))))))))))))),sA (Kj ao.1 (Kj ao.2.1 (Kj aN.1 (Kj aN.2.1 (Kj aq.1 (Kj aq.2.1 (Kj aL.1 (Kj aL.2.1 (Kj aM.1 (Kj aM.2.1 (Kj av.1 (Kj av.2.1 (Kj au.1 (Kj au.2.1 (Kj cP dI))))))))))))))),sA (Kj ao.1 (Kj ao.2.1 (Kj aN.1 (Kj aN.2.1 (Kj aq.1 (Kj aq.2.1 (Kj aL.1 (Kj aL.2.1 (Kj aM.1 (Kj aM.2.1 (Kj av.1 (Kj av.2.1 (Kj au.1 (Kj au.2.1 (Kj cP dI))))))))))))))),sA (Kj ao.1 (Kj ao.2.1 (Kj aN.1 (Kj aN.2.1 (Kj aq.1 (Kj aq.2.1 (Kj aL.1 (Kj aL.2.1 (Kj aM.1 (Kj aM.2.1 (Kj av.1 (Kj av.2.1 (Kj au.1 (Kj au.2.1 (Kj cP dI))))))))))))))),sA (Kj ao.1 (Kj ao.2.1 (Kj aN.1 (Kj aN.2.1 (Kj aq.1 (Kj aq.2.1 (Kj aL.1 (Kj aL.2.1 (Kj aM.1 (Kj aM.2.1 (Kj av.1 (Kj av.2.1 (Kj au.1 (Kj au.2.1 (Kj cP dI))))))))))))))),dL.zero⟩;rintro n ⟨t,H,k⟩ ⟨i,hi,h1,h2,h5,hI,e1,hU⟩ next
   simp only at h1 h2 h5 hI e1;refine nA (Kj h1 (Kj h2 (Kj h5 (Kj hI (Kj e1 (Kj ao.1 (Kj ao.2.1 (Kj aN.1 (Kj aN.2.1 (Kj aq.1 (Kj aq.2.1 (Kj aL.1 (Kj aL.2.1 (Kj aM.1 (Kj aM.2.1 (Kj av.1 (Kj av.2.1 (Kj au.1 au.2.1)))))))))))))))))) ?_;open Cv Cw Cx in exact b7
 ·by_cases c8:bits .and .i64 flags 8=0
  ·skip;refine ay GM af ?_;refine EL (Kj ao.1 (Kj ao.2.1 (Kj aN.1 (Kj aN.2.1 (Kj aq.1 (Kj aq.2.1 (Kj aL.1 (Kj aL.2.1 (Kj aM.1 (Kj aM.2.1 (Kj av.1 (Kj av.2.1 (Kj au.1 (Kj au.2.1 (Kj c4 (Kj c8 (Kj cP dI))))))))))))))))) ?_;have hB:=aq.1.len;refine b5 (fun n s=>∃i:Nat,i+n=(ae kids).length/\s.t 1= .int .i64 deep/\s.t 2= .ptr 1 1 0/\s.t 5= .int .i64 2/\s.t 6= .int .i64 i/\s.H 1=some ⟨55,1,[.int .i64 kind,.int .i64 op,.int .i64 aA,.int .i64 flags,str,exprs,kids,decls,cases,aC,aG],0⟩/\dL DR kids i) ?_ (n:=(ae kids).length) ⟨0,af,sA (Kj ao.1 (Kj ao.2.1 (Kj aN.1 (Kj aN.2.1 (Kj aq.1 (Kj aq.2.1 (Kj aL.1 (Kj aL.2.1 (Kj aM.1 (Kj aM.2.1 (Kj av.1 (Kj av.2.1 (Kj au.1 (Kj au.2.1 (Kj cP dI))))))))))))))),sA (Kj ao.1 (Kj ao.2.1 (Kj aN.1 (Kj aN.2.1 (Kj aq.1 (Kj aq.2.1 (Kj aL.1 (Kj aL.2.1 (Kj aM.1 (Kj aM.2.1 (Kj av.1 (Kj av.2.1 (Kj au.1 (Kj au.2.1 (Kj cP dI))))))))))))))),sA (Kj ao.1 (Kj ao.2.1 (Kj aN.1 (Kj aN.2.1 (Kj aq.1 (Kj aq.2.1 (Kj aL.1 (Kj aL.2.1 (Kj aM.1 (Kj aM.2.1 (Kj av.1 (Kj av.2.1 (Kj au.1 (Kj au.2.1 (Kj cP dI))))))))))))))),sA (Kj ao.1 (Kj ao.2.1 (Kj aN.1 (Kj aN.2.1 (Kj aq.1 (Kj aq.2.1 (Kj aL.1 (Kj aL.2.1 (Kj aM.1 (Kj aM.2.1 (Kj av.1 (Kj av.2.1 (Kj au.1 (Kj au.2.1 (Kj cP dI))))))))))))))),sA (Kj ao.1 (Kj ao.2.1 (Kj aN.1 (Kj aN.2.1 (Kj aq.1 (Kj aq.2.1 (Kj aL.1 (Kj aL.2.1 (Kj aM.1 (Kj aM.2.1 (Kj av.1 (Kj av.2.1 (Kj au.1 (Kj au.2.1 (Kj cP dI))))))))))))))),dL.zero⟩;rintro n ⟨t,H,k⟩ ⟨i,hi,h1,h2,h5,hI,e1,hU⟩ next
   simp only at h1 h2 h5 hI e1;refine nA (Kj h1 (Kj h2 (Kj h5 (Kj hI (Kj e1 (Kj ao.1 (Kj ao.2.1 (Kj aN.1 (Kj aN.2.1 (Kj aq.1 (Kj aq.2.1 (Kj aL.1 (Kj aL.2.1 (Kj aM.1 (Kj aM.2.1 (Kj av.1 (Kj av.2.1 (Kj au.1 au.2.1)))))))))))))))))) ?_;open Cv Cw Cx in exact b7
  ·skip;refine ay GM af ?_;refine EL (Kj ao.1 (Kj ao.2.1 (Kj aN.1 (Kj aN.2.1 (Kj aq.1 (Kj aq.2.1 (Kj aL.1 (Kj aL.2.1 (Kj aM.1 (Kj aM.2.1 (Kj av.1 (Kj av.2.1 (Kj au.1 (Kj au.2.1 (Kj c4 (Kj c8 (Kj cP dI))))))))))))))))) ?_;have hB:=aq.1.len;refine b5 (fun n s=>∃i:Nat,i+n=(ae kids).length/\s.t 1= .int .i64 deep/\s.t 2= .ptr 1 1 0/\s.t 5= .int .i64 3/\s.t 6= .int .i64 i/\s.H 1=some ⟨55,1,[.int .i64 kind,.int .i64 op,.int .i64 aA,.int .i64 flags,str,exprs,kids,decls,cases,aC,aG],0⟩/\dL DR kids i) ?_ (n:=(ae kids).length) ⟨0,af,sA (Kj ao.1 (Kj ao.2.1 (Kj aN.1 (Kj aN.2.1 (Kj aq.1 (Kj aq.2.1 (Kj aL.1 (Kj aL.2.1 (Kj aM.1 (Kj aM.2.1 (Kj av.1 (Kj av.2.1 (Kj au.1 (Kj au.2.1 (Kj cP dI))))))))))))))),sA (Kj ao.1 (Kj ao.2.1 (Kj aN.1 (Kj aN.2.1 (Kj aq.1 (Kj aq.2.1 (Kj aL.1 (Kj aL.2.1 (Kj aM.1 (Kj aM.2.1 (Kj av.1 (Kj av.2.1 (Kj au.1 (Kj au.2.1 (Kj cP dI))))))))))))))),sA (Kj ao.1 (Kj ao.2.1 (Kj aN.1 (Kj aN.2.1 (Kj aq.1 (Kj aq.2.1 (Kj aL.1 (Kj aL.2.1 (Kj aM.1 (Kj aM.2.1 (Kj av.1 (Kj av.2.1 (Kj au.1 (Kj au.2.1 (Kj cP dI))))))))))))))),sA (Kj ao.1 (Kj ao.2.1 (Kj aN.1 (Kj aN.2.1 (Kj aq.1 (Kj aq.2.1 (Kj aL.1 (Kj aL.2.1 (Kj aM.1 (Kj aM.2.1 (Kj av.1 (Kj av.2.1 (Kj au.1 (Kj au.2.1 (Kj cP dI))))))))))))))),sA (Kj ao.1 (Kj ao.2.1 (Kj aN.1 (Kj aN.2.1 (Kj aq.1 (Kj aq.2.1 (Kj aL.1 (Kj aL.2.1 (Kj aM.1 (Kj aM.2.1 (Kj av.1 (Kj av.2.1 (Kj au.1 (Kj au.2.1 (Kj cP dI))))))))))))))),dL.zero⟩;rintro n ⟨t,H,k⟩ ⟨i,hi,h1,h2,h5,hI,e1,hU⟩ next
   simp only at h1 h2 h5 hI e1;refine nA (Kj h1 (Kj h2 (Kj h5 (Kj hI (Kj e1 (Kj ao.1 (Kj ao.2.1 (Kj aN.1 (Kj aN.2.1 (Kj aq.1 (Kj aq.2.1 (Kj aL.1 (Kj aL.2.1 (Kj aM.1 (Kj aM.2.1 (Kj av.1 (Kj av.2.1 (Kj au.1 au.2.1)))))))))))))))))) ?_;open Cv Cw Cx in exact b7
end
end Go.Pi
end
section
open Go Go.Pi
namespace Go.Pi
variable{p q a:Prop}
section
variable{X:aS}{G:Nat->PV}
theorem aiK{v:PV}{n:Int}{l:List PV}(h1:((ae v).length:Int)=1)(hg:(ae v)[(0:Int).toNat]?=some (.int .i64 n::l))(hn:0<=n):∀y,y∈ae v->∃(n:Int)(l:List PV),y= .int .i64 n::l/\0<=n:=
 Jt ad (by simpa using hg) ⟨_,_,rfl,hn⟩
theorem Qp{P:List PV->Prop}{v:PV}{c:List PV}(h1:((ae v).length:Int)=1)(hg:(ae v)[(0:Int).toNat]?=some c)(hp:P c):∀y,y∈ae v->P y:=Jt ad (by simpa using hg) hp
def eg:List PV->Int
 | .int _ k::_=>k
 |_=>-1
abbrev kL(X:aS)(G:Nat->PV)(K:Int):Prop:=∀{m:Nat}{x:List PV}(deep:Int),mj X G m->bH x->SizeOf.sizeOf x<=m->eg x=K->Pure ai X G 25 [.agg x,.int .i64 deep] (fm (dJ x))
theorem azF:kL X G 0:=by
 intro m x deep ih hx hm hk;have bY:=hx;obtain⟨kind,op,aA,flags,str,exprs,kids,decls,cases,aC,aG,rfl,hr,ao,aN,aq,aL,aM,av,au⟩:=bY.open (hm);simp only[eg]at hk;subst hk;refine ay kh af ?_;refine nA (Kj ao.1 (Kj ao.2.1 (Kj aN.1 (Kj aN.2.1 (Kj aq.1 (Kj aq.2.1 (Kj aL.1 (Kj aL.2.1 (Kj aM.1 (Kj aM.2.1 (Kj av.1 (Kj av.2.1 (Kj au.1 au.2.1))))))))))))) ?_;open ke kg in exact b7
theorem azG:kL X G 1:=by
 intro m x deep ih hx hm hk;have bY:=hx;obtain⟨kind,op,aA,flags,str,exprs,kids,decls,cases,aC,aG,rfl,hr,ao,aN,aq,aL,aM,av,au⟩:=bY.open (hm);simp only[eg]at hk;subst hk;refine ay kh af ?_;refine nA (Kj ao.1 (Kj ao.2.1 (Kj aN.1 (Kj aN.2.1 (Kj aq.1 (Kj aq.2.1 (Kj aL.1 (Kj aL.2.1 (Kj aM.1 (Kj aM.2.1 (Kj av.1 (Kj av.2.1 (Kj au.1 au.2.1))))))))))))) ?_;open ke kg in exact b7
theorem azH:kL X G 2:=by
 intro m x deep ih hx hm hk;have bY:=hx;obtain⟨kind,op,aA,flags,str,exprs,kids,decls,cases,aC,aG,rfl,hr,ao,aN,aq,aL,aM,av,au⟩:=bY.open (hm);simp only[eg]at hk;subst hk;refine ay kh af ?_;refine nA (Kj ao.1 (Kj ao.2.1 (Kj aN.1 (Kj aN.2.1 (Kj aq.1 (Kj aq.2.1 (Kj aL.1 (Kj aL.2.1 (Kj aM.1 (Kj aM.2.1 (Kj av.1 (Kj av.2.1 (Kj au.1 au.2.1))))))))))))) ?_;open ke kg in exact b7
theorem azI:kL X G 3:=by
 intro m x deep ih hx hm hk;have bY:=hx;obtain⟨kind,op,aA,flags,str,exprs,kids,decls,cases,aC,aG,rfl,hr,ao,aN,aq,aL,aM,av,au⟩:=bY.open (hm);simp only[eg]at hk;subst hk;refine ay kh af ?_;refine nA (Kj ao.1 (Kj ao.2.1 (Kj aN.1 (Kj aN.2.1 (Kj aq.1 (Kj aq.2.1 (Kj aL.1 (Kj aL.2.1 (Kj aM.1 (Kj aM.2.1 (Kj av.1 (Kj av.2.1 (Kj au.1 au.2.1))))))))))))) ?_;open ke kg in exact b7
theorem azJ:kL X G 4:=by
 intro m x deep ih hx hm hk;have bY:=hx;obtain⟨kind,op,aA,flags,str,exprs,kids,decls,cases,aC,aG,rfl,hr,ao,aN,aq,aL,aM,av,au⟩:=bY.open (hm);simp only[eg]at hk;subst hk;refine ay kh af ?_;refine nA (Kj ao.1 (Kj ao.2.1 (Kj aN.1 (Kj aN.2.1 (Kj aq.1 (Kj aq.2.1 (Kj aL.1 (Kj aL.2.1 (Kj aM.1 (Kj aM.2.1 (Kj av.1 (Kj av.2.1 (Kj au.1 au.2.1))))))))))))) ?_;open ke kg in exact b7
theorem azK:kL X G 5:=by
 intro m x deep ih hx hm hk;have bY:=hx;obtain⟨kind,op,aA,flags,str,exprs,kids,decls,cases,aC,aG,rfl,hr,ao,aN,aq,aL,aM,av,au⟩:=bY.open (hm);simp only[eg]at hk;subst hk;refine ay kh af ?_;refine nA (Kj ao.1 (Kj ao.2.1 (Kj aN.1 (Kj aN.2.1 (Kj aq.1 (Kj aq.2.1 (Kj aL.1 (Kj aL.2.1 (Kj aM.1 (Kj aM.2.1 (Kj av.1 (Kj av.2.1 (Kj au.1 au.2.1))))))))))))) ?_;open ke kg in exact b7
theorem azL:kL X G 6:=by
 intro m x deep ih hx hm hk;have bY:=hx;obtain⟨kind,op,aA,flags,str,exprs,kids,decls,cases,aC,aG,rfl,hr,ao,aN,aq,aL,aM,av,au⟩:=bY.open (hm);simp only[eg]at hk;subst hk;refine ay kh af ?_;refine nA (Kj ao.1 (Kj ao.2.1 (Kj aN.1 (Kj aN.2.1 (Kj aq.1 (Kj aq.2.1 (Kj aL.1 (Kj aL.2.1 (Kj aM.1 (Kj aM.2.1 (Kj av.1 (Kj av.2.1 (Kj au.1 au.2.1))))))))))))) ?_;open ke kg in exact b7
theorem azM:kL X G 7:=by
 intro m x deep ih hx hm hk;have bY:=hx;obtain⟨kind,op,aA,flags,str,exprs,kids,decls,cases,aC,aG,rfl,hr,ao,aN,aq,aL,aM,av,au⟩:=bY.open (hm);simp only[eg]at hk;subst hk;refine ay kh af ?_;refine nA (Kj ao.1 (Kj ao.2.1 (Kj aN.1 (Kj aN.2.1 (Kj aq.1 (Kj aq.2.1 (Kj aL.1 (Kj aL.2.1 (Kj aM.1 (Kj aM.2.1 (Kj av.1 (Kj av.2.1 (Kj au.1 au.2.1))))))))))))) ?_;open ke kg in exact b7
end
end Go.Pi
end
section
open Go Go.Pi
namespace Go.Pi
variable{p q a:Prop}
section
variable{X:aS}{G:Nat->PV}
theorem azN:kL X G 8:=by
 intro m x deep ih hx hm hk;have bY:=hx;obtain⟨kind,op,aA,flags,str,exprs,kids,decls,cases,aC,aG,rfl,hr,ao,aN,aq,aL,aM,av,au⟩:=bY.open (hm);simp only[eg]at hk;subst hk;refine ay kh af ?_;refine nA (Kj ao.1 (Kj ao.2.1 (Kj aN.1 (Kj aN.2.1 (Kj aq.1 (Kj aq.2.1 (Kj aL.1 (Kj aL.2.1 (Kj aM.1 (Kj aM.2.1 (Kj av.1 (Kj av.2.1 (Kj au.1 au.2.1))))))))))))) ?_;open ke kg in exact b7
theorem azO:kL X G 9:=by
 intro m x deep ih hx hm hk;have bY:=hx;obtain⟨kind,op,aA,flags,str,exprs,kids,decls,cases,aC,aG,rfl,hr,ao,aN,aq,aL,aM,av,au⟩:=bY.open (hm);simp only[eg]at hk;subst hk;refine ay kh af ?_;refine nA (Kj ao.1 (Kj ao.2.1 (Kj aN.1 (Kj aN.2.1 (Kj aq.1 (Kj aq.2.1 (Kj aL.1 (Kj aL.2.1 (Kj aM.1 (Kj aM.2.1 (Kj av.1 (Kj av.2.1 (Kj au.1 au.2.1))))))))))))) ?_;open ke kg in exact b7
theorem azP:kL X G 10:=by
 intro m x deep ih hx hm hk;have bY:=hx;obtain⟨kind,op,aA,flags,str,exprs,kids,decls,cases,aC,aG,rfl,hr,ao,aN,aq,aL,aM,av,au⟩:=bY.open (hm);simp only[eg]at hk;subst hk;refine ay kh af ?_;refine nA (Kj ao.1 (Kj ao.2.1 (Kj aN.1 (Kj aN.2.1 (Kj aq.1 (Kj aq.2.1 (Kj aL.1 (Kj aL.2.1 (Kj aM.1 (Kj aM.2.1 (Kj av.1 (Kj av.2.1 (Kj au.1 au.2.1))))))))))))) ?_;open ke kg in exact b7
theorem azQ:kL X G 11:=by
 intro m x deep ih hx hm hk;have bY:=hx;obtain⟨kind,op,aA,flags,str,exprs,kids,decls,cases,aC,aG,rfl,hr,ao,aN,aq,aL,aM,av,au⟩:=bY.open (hm);simp only[eg]at hk;subst hk;refine ay kh af ?_;refine nA (Kj ao.1 (Kj ao.2.1 (Kj aN.1 (Kj aN.2.1 (Kj aq.1 (Kj aq.2.1 (Kj aL.1 (Kj aL.2.1 (Kj aM.1 (Kj aM.2.1 (Kj av.1 (Kj av.2.1 (Kj au.1 au.2.1))))))))))))) ?_;open ke kg in exact b7
theorem azR:kL X G 12:=by
 intro m x deep ih hx hm hk;have bY:=hx;obtain⟨kind,op,aA,flags,str,exprs,kids,decls,cases,aC,aG,rfl,hr,ao,aN,aq,aL,aM,av,au⟩:=bY.open (hm);simp only[eg]at hk;subst hk;refine ay kh af ?_;refine nA (Kj ao.1 (Kj ao.2.1 (Kj aN.1 (Kj aN.2.1 (Kj aq.1 (Kj aq.2.1 (Kj aL.1 (Kj aL.2.1 (Kj aM.1 (Kj aM.2.1 (Kj av.1 (Kj av.2.1 (Kj au.1 au.2.1))))))))))))) ?_;open ke kg in exact b7
theorem azS:kL X G 13:=by
 intro m x deep ih hx hm hk;have bY:=hx;obtain⟨kind,op,aA,flags,str,exprs,kids,decls,cases,aC,aG,rfl,hr,ao,aN,aq,aL,aM,av,au⟩:=bY.open (hm);simp only[eg]at hk;subst hk;refine ay kh af ?_;refine nA (Kj ao.1 (Kj ao.2.1 (Kj aN.1 (Kj aN.2.1 (Kj aq.1 (Kj aq.2.1 (Kj aL.1 (Kj aL.2.1 (Kj aM.1 (Kj aM.2.1 (Kj av.1 (Kj av.2.1 (Kj au.1 au.2.1))))))))))))) ?_;open ke kg in exact b7
theorem azT:kL X G 14:=by
 intro m x deep ih hx hm hk;have bY:=hx;obtain⟨kind,op,aA,flags,str,exprs,kids,decls,cases,aC,aG,rfl,hr,ao,aN,aq,aL,aM,av,au⟩:=bY.open (hm);simp only[eg]at hk;subst hk;refine ay kh af ?_;refine nA (Kj ao.1 (Kj ao.2.1 (Kj aN.1 (Kj aN.2.1 (Kj aq.1 (Kj aq.2.1 (Kj aL.1 (Kj aL.2.1 (Kj aM.1 (Kj aM.2.1 (Kj av.1 (Kj av.2.1 (Kj au.1 au.2.1))))))))))))) ?_;open ke kg in exact b7
end
end Go.Pi
end
