import Derived.Test.YtofdfffpmbgogaaGreatDoorP18
import Derived.Test.YtofdfffpmbgogaaGreatDoorP20
/- Part of the proof. -/
set_option linter.all false
set_option maxHeartbeats 0
set_option maxRecDepth 100000
section
open Go Go.Pi
namespace Go.Pi
variable{p q a:Prop}
section
variable{X:aS}{G:Nat->PV}
theorem azt{m:Nat}{x:List PV}(hx:aR x)(hm:SizeOf.sizeOf x<=m)(hk:x.getD 0 .undef= .int .i64 16):Pure ai X G 136 [.agg x] (fm (kY x)):=by
 have bY:=hx;obtain⟨kind,op,aA,chain,flags,nn,str,text,kids,bf,parts,aC,aG,rfl,hn,ao,ht,aq,aE,aD,av,au⟩:=hx.open (hm);cases hk;refine ay lZ af ?_;refine nA (Kj ao.1 (Kj ao.2.1 (Kj aq.1 (Kj aq.2.1 (Kj aE.1 (Kj aE.2.1 (Kj aD.1 (Kj aD.2.1 (Kj av.1 (Kj av.2.1 (Kj au.1 au.2.1))))))))))) ?_;open jD lY in exact b7
theorem azu{m:Nat}{x:List PV}(hx:aR x)(hm:SizeOf.sizeOf x<=m)(hk:x.getD 0 .undef= .int .i64 17):Pure ai X G 136 [.agg x] (fm (kY x)):=by
 have bY:=hx;obtain⟨kind,op,aA,chain,flags,nn,str,text,kids,bf,parts,aC,aG,rfl,hn,ao,ht,aq,aE,aD,av,au⟩:=hx.open (hm);cases hk;refine ay lZ af ?_;refine nA (Kj ao.1 (Kj ao.2.1 (Kj aq.1 (Kj aq.2.1 (Kj aE.1 (Kj aE.2.1 (Kj aD.1 (Kj aD.2.1 (Kj av.1 (Kj av.2.1 (Kj au.1 au.2.1))))))))))) ?_;open jD lY in exact b7
theorem azv{m:Nat}{x:List PV}(hx:aR x)(hm:SizeOf.sizeOf x<=m)(hk:x.getD 0 .undef= .int .i64 18):Pure ai X G 136 [.agg x] (fm (kY x)):=by
 have bY:=hx;obtain⟨kind,op,aA,chain,flags,nn,str,text,kids,bf,parts,aC,aG,rfl,hn,ao,ht,aq,aE,aD,av,au⟩:=hx.open (hm);cases hk;refine ay lZ af ?_;refine nA (Kj ao.1 (Kj ao.2.1 (Kj aq.1 (Kj aq.2.1 (Kj aE.1 (Kj aE.2.1 (Kj aD.1 (Kj aD.2.1 (Kj av.1 (Kj av.2.1 (Kj au.1 au.2.1))))))))))) ?_;open jD lY in exact b7
theorem azw{m:Nat}{x:List PV}(hx:aR x)(hm:SizeOf.sizeOf x<=m)(hk:x.getD 0 .undef= .int .i64 20):Pure ai X G 136 [.agg x] (fm (kY x)):=by
 have bY:=hx;obtain⟨kind,op,aA,chain,flags,nn,str,text,kids,bf,parts,aC,aG,rfl,hn,ao,ht,aq,aE,aD,av,au⟩:=hx.open (hm);cases hk;refine ay lZ af ?_;refine nA (Kj ao.1 (Kj ao.2.1 (Kj aq.1 (Kj aq.2.1 (Kj aE.1 (Kj aE.2.1 (Kj aD.1 (Kj aD.2.1 (Kj av.1 (Kj av.2.1 (Kj au.1 au.2.1))))))))))) ?_;open jD lY in exact b7
theorem azx{m:Nat}{x:List PV}(hx:aR x)(hm:SizeOf.sizeOf x<=m)(hk:x.getD 0 .undef= .int .i64 21):Pure ai X G 136 [.agg x] (fm (kY x)):=by
 have bY:=hx;obtain⟨kind,op,aA,chain,flags,nn,str,text,kids,bf,parts,aC,aG,rfl,hn,ao,ht,aq,aE,aD,av,au⟩:=hx.open (hm);cases hk;refine ay lZ af ?_;refine nA (Kj ao.1 (Kj ao.2.1 (Kj aq.1 (Kj aq.2.1 (Kj aE.1 (Kj aE.2.1 (Kj aD.1 (Kj aD.2.1 (Kj av.1 (Kj av.2.1 (Kj au.1 au.2.1))))))))))) ?_;open jD lY in exact b7
theorem azy{m:Nat}{x:List PV}(hx:aR x)(hm:SizeOf.sizeOf x<=m)(hk:x.getD 0 .undef= .int .i64 22):Pure ai X G 136 [.agg x] (fm (kY x)):=by
 have bY:=hx;obtain⟨kind,op,aA,chain,flags,nn,str,text,kids,bf,parts,aC,aG,rfl,hn,ao,ht,aq,aE,aD,av,au⟩:=hx.open (hm);cases hk;refine ay lZ af ?_;refine nA (Kj ao.1 (Kj ao.2.1 (Kj aq.1 (Kj aq.2.1 (Kj aE.1 (Kj aE.2.1 (Kj aD.1 (Kj aD.2.1 (Kj av.1 (Kj av.2.1 (Kj au.1 au.2.1))))))))))) ?_;open jD lY in exact b7
theorem azz{m:Nat}{x:List PV}(hx:aR x)(hm:SizeOf.sizeOf x<=m)(hk:x.getD 0 .undef= .int .i64 29):Pure ai X G 136 [.agg x] (fm (kY x)):=by
 have bY:=hx;obtain⟨kind,op,aA,chain,flags,nn,str,text,kids,bf,parts,aC,aG,rfl,hn,ao,ht,aq,aE,aD,av,au⟩:=hx.open (hm);cases hk;refine ay lZ af ?_;refine nA (Kj ao.1 (Kj ao.2.1 (Kj aq.1 (Kj aq.2.1 (Kj aE.1 (Kj aE.2.1 (Kj aD.1 (Kj aD.2.1 (Kj av.1 (Kj av.2.1 (Kj au.1 au.2.1))))))))))) ?_;open jD lY in exact b7
theorem azA{m:Nat}{x:List PV}(hx:aR x)(hm:SizeOf.sizeOf x<=m)(hk:x.getD 0 .undef= .int .i64 30):Pure ai X G 136 [.agg x] (fm (kY x)):=by
 have bY:=hx;obtain⟨kind,op,aA,chain,flags,nn,str,text,kids,bf,parts,aC,aG,rfl,hn,ao,ht,aq,aE,aD,av,au⟩:=hx.open (hm);cases hk;refine ay lZ af ?_;refine nA (Kj ao.1 (Kj ao.2.1 (Kj aq.1 (Kj aq.2.1 (Kj aE.1 (Kj aE.2.1 (Kj aD.1 (Kj aD.2.1 (Kj av.1 (Kj av.2.1 (Kj au.1 au.2.1))))))))))) ?_;open jD lY in exact b7
theorem azB{m:Nat}{x:List PV}(hx:aR x)(hm:SizeOf.sizeOf x<=m)(hk:x.getD 0 .undef= .int .i64 32):Pure ai X G 136 [.agg x] (fm (kY x)):=by
 have bY:=hx;obtain⟨kind,op,aA,chain,flags,nn,str,text,kids,bf,parts,aC,aG,rfl,hn,ao,ht,aq,aE,aD,av,au⟩:=hx.open (hm);cases hk;refine ay lZ af ?_;refine nA (Kj ao.1 (Kj ao.2.1 (Kj aq.1 (Kj aq.2.1 (Kj aE.1 (Kj aE.2.1 (Kj aD.1 (Kj aD.2.1 (Kj av.1 (Kj av.2.1 (Kj au.1 au.2.1))))))))))) ?_;open jD lY in exact b7
end
end Go.Pi
end
section
open Go Go.Pi
namespace Go.Pi
variable{p q a:Prop}
section
variable{X:aS}{G:Nat->PV}
namespace adf
theorem aU(x:a)(g:q)(h:a->q->p:=by(intro x g;exact nA (Kj x (Kj ao.1 (Kj ao.2.1 (Kj aq.1 (Kj aq.2.1 (Kj aE.1 (Kj aE.2.1 (Kj aD.1 (Kj aD.2.1 (Kj av.1 (Kj av.2.1 (Kj au.1 (Kj au.2.1 (Kj k2 (Kj k3 (Kj k4 (Kj k5 (Kj k6 (Kj k8 (Kj NK (Kj NL (Kj NM (Kj NN (Kj NO (Kj NP (Kj NQ (Kj NR (Kj NT (Kj NU (Kj FQ (Kj NV (Kj aI eU)))))))))))))))))))))))))))))))) g)):p:=h x g
theorem bw(h:p:=by
 first
 |exact akb
 |exact ju
 |exact akd
 |((refine⟨_,rfl,fun hq=>?_⟩;(try simp only[decide_eq_true_eq]at hq);first|exact(by simp only[decide_eq_false_iff_not]at k2 k3 k4 k5 k6 k8 NK NL NM NN NO NP NQ NR NT NU FQ NV;intro _ _ _ _ _ _ _ _ _ _ _ _ _ h;cases h;first|(have Qr:=BE ‹_›;unfold fP;omega)|(unfold fP;omega))|done|fail))<;>exact b7
 |fail):p:=h
end adf
theorem s93{m:Nat}{x:List PV}(hx:aR x)(hm:SizeOf.sizeOf x<=m):Pure ai X G 136 [.agg x] (fm (kY x)):=by
 have bY:=hx;obtain⟨kind,op,aA,chain,flags,nn,str,text,kids,bf,parts,aC,aG,rfl,hn,ao,ht,aq,aE,aD,av,au⟩:=hx.open (hm);have hK:kind=2\/kind=3\/kind=4\/kind=5\/kind=6\/kind=8\/kind=12\/kind=13\/kind=14\/kind=16\/kind=17\/kind=18\/kind=20\/kind=21\/kind=22\/kind=29\/kind=30\/kind=32\/(decide (kind=2)=false/\decide (kind=3)=false/\decide (kind=4)=false/\decide (kind=5)=false/\decide (kind=6)=false/\decide (kind=8)=false/\decide (kind=12)=false/\decide (kind=13)=false/\decide (kind=14)=false/\decide (kind=16)=false/\decide (kind=17)=false/\decide (kind=18)=false/\decide (kind=20)=false/\decide (kind=21)=false/\decide (kind=22)=false/\decide (kind=29)=false/\decide (kind=30)=false/\decide (kind=32)=false):=by
  simp only[decide_eq_false_iff_not];omega
 rcases hK with rfl|rfl|rfl|rfl|rfl|rfl|rfl|rfl|rfl|rfl|rfl|rfl|rfl|rfl|rfl|rfl|rfl|rfl|⟨k2,k3,k4,k5,k6,k8,NK,NL,NM,NN,NO,NP,NQ,NR,NT,NU,FQ,NV⟩
 rotate_right 1
 ·refine ay lZ af ?_;refine nA (Kj ao.1 (Kj ao.2.1 (Kj aq.1 (Kj aq.2.1 (Kj aE.1 (Kj aE.2.1 (Kj aD.1 (Kj aD.2.1 (Kj av.1 (Kj av.2.1 (Kj au.1 (Kj au.2.1 (Kj k2 (Kj k3 (Kj k4 (Kj k5 (Kj k6 (Kj k8 (Kj NK (Kj NL (Kj NM (Kj NN (Kj NO (Kj NP (Kj NQ (Kj NR (Kj NT (Kj NU (Kj FQ NV))))))))))))))))))))))))))))) ?_;open adf in exact b7
 ·exact azk hx hm rfl
 ·exact azl hx hm rfl
 ·exact azm hx hm rfl
 ·exact azn hx hm rfl
 ·exact azo hx hm rfl
 ·exact azp hx hm rfl
 ·exact azq hx hm rfl
 ·exact azr hx hm rfl
 ·exact azs hx hm rfl
 ·exact azt hx hm rfl
 ·exact azu hx hm rfl
 ·exact azv hx hm rfl
 ·exact azw hx hm rfl
 ·exact azx hx hm rfl
 ·exact azy hx hm rfl
 ·exact azz hx hm rfl
 ·exact azA hx hm rfl
 ·exact azB hx hm rfl
end
end Go.Pi
end
