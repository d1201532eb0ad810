import Derived.Test.YtofdfffpmbgogaaGreatDoorP09
import Derived.Test.YtofdfffpmbgogaaGreatDoorP10
import Derived.Test.YtofdfffpmbgogaaGreatDoorP11
import Derived.Test.YtofdfffpmbgogaaGreatDoorP12
import Derived.Test.YtofdfffpmbgogaaGreatDoorP13
import Derived.Test.YtofdfffpmbgogaaGreatDoorP18
import Derived.Test.YtofdfffpmbgogaaGreatDoorP30
/- Part of the proof. -/
set_option linter.all false
set_option maxHeartbeats 0
set_option maxRecDepth 100000
section
open Go Go.Pi
namespace Go.Pi.R
variable{p q a:Prop}
section
variable{X:aS}{G:Nat->PV}
namespace aaw
theorem bw(h:p:=by
 first
 |exact ja
 |(refine dw (oK ‹SZ _ _›) cB dM hF ?_;exact fX)
 |exact JW
 |exact R2
 |(refine dw (awv ih ‹EZ _ _›) cB dM hF ?_;exact fX)
 |fail):p:=h
end aaw
theorem r75{F:Int->ByteArray}{m:Nat}{x:List PV}(ih:iS X G m)(oK:∀{y},SZ m y->Mt ai X G 60 [.agg y] (fun _=>da))(hx:bH x)(hm:SizeOf.sizeOf x<=m):Mt ai X G 106 [.agg x] (fun _=>da):=by
 intro e aZ;have hF:aZ=true->aZ=true:=id;obtain⟨kind,op,aA,flags,str,exprs,kids,decls,cases,aC,aG,rfl,jc,hr,ao,aN,aq,aL,aM,av,au⟩:=hx.open (hm);have:=jc.1;have:=jc.2.1;have:=ao.1;have:=ao.2.1;have:=aN.1;have:=aN.2.1;have:=aq.1;have:=aq.2.1;have:=aL.1;have:=aL.2.1;have:=aM.1;have:=aM.2.1;have:=av.1;have:=av.2.1;have:=au.1;have:=au.2.1;refine ay ao3 af ?_;refine cA ?_;open aaw bi in exact az
namespace aax
theorem bw(h:p:=by
 first
 |exact ja
 |(refine dw (oK ax) cB dM hF ?_;exact fX)
 |exact JW
 |exact R2
 |fail):p:=h
end aax
theorem r76{F:Int->ByteArray}{m:Nat}{x:List PV}(ih:iS X G m)(oK:∀{y},SZ m y->Mt ai X G 60 [.agg y] (fun _=>da))(hx:bH x)(hm:SizeOf.sizeOf x<=m):Mt ai X G 107 [.agg x] (fun _=>da):=by
 intro e aZ;have hF:aZ=true->aZ=true:=id;obtain⟨kind,op,aA,flags,str,exprs,kids,decls,cases,aC,aG,rfl,jc,hr,ao,aN,aq,aL,aM,av,au⟩:=hx.open (hm);have:=jc.1;have:=jc.2.1;have:=ao.1;have:=ao.2.1;have:=aN.1;have:=aN.2.1;have:=aq.1;have:=aq.2.1;have:=aL.1;have:=aL.2.1;have:=aM.1;have:=aM.2.1;have:=av.1;have:=av.2.1;have:=au.1;have:=au.2.1;refine ay ao4 af ?_;refine cA ?_;open aax bi in exact az
namespace aay
theorem bw(h:p:=by
 first
 |exact ja
 |(refine dw (oK) cB dM hF ?_;exact fX)
 |(refine dw (l6) cB dM hF ?_;exact fX)
 |exact JR
 |(refine dw (gD ‹CZ _ _›) cB dM hF ?_;exact fX)
 |(refine dw (Dt ih ‹_›) cB dM hF ?_;exact E3)
 |exact R2
 |exact vw
 |exact RU
 |(refine aO (B.ZZ _ ax) pE dM ?_;rintro _ ⟨s2,b2,rfl,fW⟩;exact kB)
 |(refine aO (B.Z0 _ ax) pE dM ?_;rintro _ ⟨b3,rfl⟩;exact kB)
 |exact ajR
 |fail):p:=h
end aay
theorem r21{F:Int->ByteArray}(B:lG X G F){m:Nat}{x:List PV}(ih:iS X G m)(oK:Mt ai X G 60 [.agg x] (fun _=>da))(jt:∀{y},FZ m y->∀k,Mt ai X G 61 [.agg y,.int .u64 k] (fun _=>da))(gD:∀{y},CZ m y->Mt ai X G 62 [.agg y] (fun _=>da))(l6:Mt ai X G 64 [.agg x] (fun _=>da))(hx:bH x)(hm:SizeOf.sizeOf x<=m):Mt ai X G 26 [.agg x] (fun _=>da):=by
 intro e aZ;have hF:aZ=true->aZ=true:=id;have bY:=hx;obtain⟨kind,op,aA,flags,str,exprs,kids,decls,cases,aC,aG,rfl,jc,hr,ao,aN,aq,aL,aM,av,au⟩:=bY.open (hm);have:=jc.1;have:=jc.2.1;have:=ao.1;have:=ao.2.1;have:=aN.1;have:=aN.2.1;have:=aq.1;have:=aq.2.1;have:=aL.1;have:=aL.2.1;have:=aM.1;have:=aM.2.1;have:=av.1;have:=av.2.1;have:=au.1;have:=au.2.1;refine ay T26 af ?_;refine cA ?_;open aay Lh in exact az
end
end Go.Pi.R
end
