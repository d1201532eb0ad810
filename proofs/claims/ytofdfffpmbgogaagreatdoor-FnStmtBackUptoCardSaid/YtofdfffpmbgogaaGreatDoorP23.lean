import Derived.Test.YtofdfffpmbgogaaGreatDoorP13
import Derived.Test.YtofdfffpmbgogaaGreatDoorP18
import Derived.Test.YtofdfffpmbgogaaGreatDoorP22
/- Part of the proof. -/
set_option linter.all false
set_option maxHeartbeats 0
set_option maxRecDepth 100000
section
open Go Go.Pi
namespace Go.Pi
variable{p q a:Prop}
section
variable{X:aS}{G:Nat->PV}
theorem QF{a b c:Nat}(ha:a<=1048576)(hb:b<=1048576)(hc:c<=1048576)(h:IntKind.i64.wrap (IntKind.i64.wrap ((a:Int)+(b:Int))+(c:Int))=0):a=0/\b=0/\c=0:=by
 rw[wrap_i64 (n:=(a:Int)+b) ad ad,wrap_i64 ad ad]at h;omega
namespace adq
theorem bj(h:p:=by
 first
 |skip
  have hB:=cu.1.len;refine b5 (fun n s=>∃i:Nat,i+n=(ae args).length/\s.t 1= .bool false/\s.t 2= .int .i64 deep/\s.t 3= .ptr 1 1 0/\s.t 7= .int .i64 i/\s.H 1=some ⟨156,1,[.int .i64 (-1),.int .i64 flags,args,body],0⟩/\dL sm args i) ?_ (n:=(ae args).length) ⟨0,af,sA (Kj cu.1 (Kj cu.2.1 (Kj cz.1 cz.2.1))),sA (Kj cu.1 (Kj cu.2.1 (Kj cz.1 cz.2.1))),sA (Kj cu.1 (Kj cu.2.1 (Kj cz.1 cz.2.1))),sA (Kj cu.1 (Kj cu.2.1 (Kj cz.1 cz.2.1))),sA (Kj cu.1 (Kj cu.2.1 (Kj cz.1 cz.2.1))),dL.zero⟩;rintro n ⟨t,H,k⟩ ⟨i,hi,h1,h2,h3,hI,e1,hU⟩ next
  simp only at h1 h2 h3 hI e1;refine nA (Kj h1 (Kj h2 (Kj h3 (Kj hI (Kj e1 (Kj cu.1 (Kj cu.2.1 (Kj cz.1 (Kj cz.2.1 g8))))))))) ?_;open Cr Cs Ct in exact mb
  done
 |fail):p:=h
end adq
namespace adr
theorem bj(h:p:=by
 first
 |skip
  have hB:=cu.1.len;refine b5 (fun n s=>∃i:Nat,i+n=(ae args).length/\s.t 1= .bool true/\s.t 2= .int .i64 deep/\s.t 3= .ptr 1 1 0/\s.t 7= .int .i64 i/\s.H 1=some ⟨156,1,[.int .i64 (-1),.int .i64 flags,args,body],0⟩/\dL sm args i) ?_ (n:=(ae args).length) ⟨0,af,sA (Kj cu.1 (Kj cu.2.1 (Kj cz.1 cz.2.1))),sA (Kj cu.1 (Kj cu.2.1 (Kj cz.1 cz.2.1))),sA (Kj cu.1 (Kj cu.2.1 (Kj cz.1 cz.2.1))),sA (Kj cu.1 (Kj cu.2.1 (Kj cz.1 cz.2.1))),sA (Kj cu.1 (Kj cu.2.1 (Kj cz.1 cz.2.1))),dL.zero⟩;rintro n ⟨t,H,k⟩ ⟨i,hi,h1,h2,h3,hI,e1,hU⟩ next
  simp only at h1 h2 h3 hI e1;refine nA (Kj h1 (Kj h2 (Kj h3 (Kj hI (Kj e1 (Kj cu.1 (Kj cu.2.1 (Kj cz.1 (Kj cz.2.1 g8))))))))) ?_;open Cr Cs Ct in exact mb
  done
 |fail):p:=h
end adr
namespace ads
theorem bj(h:p:=by
 first
 |skip
  have hB:=cu.1.len;refine b5 (fun n s=>∃i:Nat,i+n=(ae args).length/\s.t 1= .bool true/\s.t 2= .int .i64 deep/\s.t 3= .ptr 1 1 0/\s.t 7= .int .i64 i/\s.H 1=some ⟨156,1,[.int .i64 (-1),.int .i64 flags,args,body],0⟩/\dL sm args i) ?_ (n:=(ae args).length) ⟨0,af,sA (Kj cu.1 (Kj cu.2.1 (Kj cz.1 cz.2.1))),sA (Kj cu.1 (Kj cu.2.1 (Kj cz.1 cz.2.1))),sA (Kj cu.1 (Kj cu.2.1 (Kj cz.1 cz.2.1))),sA (Kj cu.1 (Kj cu.2.1 (Kj cz.1 cz.2.1))),sA (Kj cu.1 (Kj cu.2.1 (Kj cz.1 cz.2.1))),dL.zero⟩;rintro n ⟨t,H,k⟩ ⟨i,hi,h1,h2,h3,hI,e1,hU⟩ next
  simp only at h1 h2 h3 hI e1;refine nA (Kj h1 (Kj h2 (Kj h3 (Kj hI (Kj e1 (Kj cu.1 (Kj cu.2.1 (Kj cz.1 (Kj cz.2.1 g8))))))))) ?_;open Cr Cs Ct in exact mb
  done
 |fail):p:=h
end ads
namespace adt
theorem bj(h:p:=by
 first
 |skip
  have hB:=cu.1.len;refine b5 (fun n s=>∃i:Nat,i+n=(ae args).length/\s.t 1= .bool false/\s.t 2= .int .i64 deep/\s.t 3= .ptr 1 1 0/\s.t 7= .int .i64 i/\s.H 1=some ⟨156,1,[.int .i64 (name),.int .i64 flags,args,body],0⟩/\dL sm args i) ?_ (n:=(ae args).length) ⟨0,af,sA (Kj cu.1 (Kj cu.2.1 (Kj cz.1 cz.2.1))),sA (Kj cu.1 (Kj cu.2.1 (Kj cz.1 cz.2.1))),sA (Kj cu.1 (Kj cu.2.1 (Kj cz.1 cz.2.1))),sA (Kj cu.1 (Kj cu.2.1 (Kj cz.1 cz.2.1))),sA (Kj cu.1 (Kj cu.2.1 (Kj cz.1 cz.2.1))),dL.zero⟩;rintro n ⟨t,H,k⟩ ⟨i,hi,h1,h2,h3,hI,e1,hU⟩ next
  simp only at h1 h2 h3 hI e1;refine nA (Kj h1 (Kj h2 (Kj h3 (Kj hI (Kj e1 (Kj cu.1 (Kj cu.2.1 (Kj cz.1 (Kj cz.2.1 g8))))))))) ?_;open Cr Cs Ct in exact mb
  done
 |fail):p:=h
end adt
namespace adu
theorem aU(x:a)(g:q)(h:a->q->p:=by(intro x g;exact nA (Kj x (Kj cu.1 (Kj cu.2.1 (Kj cz.1 (Kj cz.2.1 (Kj gj (Kj aI eU))))))) g)):p:=h x g
end adu
theorem s36{m:Nat}{x:List PV}(xV:Bool)(deep:Int)(ih:mj X G m)(hx:gu x)(hm:SizeOf.sizeOf x<=m):Pure ai X G 51 [.agg x,.bool xV,.int .i64 deep] (fm (oB xV x)):=by
 obtain⟨name,flags,args,body,rfl,hr,cu,cz⟩:=hx.open (hm);by_cases gj:name=-1
 ·subst gj;cases xV
  ·by_cases g8:bits .and .i64 flags 8=0
   ·refine ay xO af ?_;refine nA (Kj cu.1 (Kj cu.2.1 (Kj cz.1 (Kj cz.2.1 g8)))) ?_;open adq Cu vP in exact b7
   ·refine ay xO af ?_;refine nA (Kj cu.1 (Kj cu.2.1 (Kj cz.1 (Kj cz.2.1 g8)))) ?_;open Cu vP in exact b7
  ·by_cases g8:bits .and .i64 flags 8=0
   ·refine ay xO af ?_;refine nA (Kj cu.1 (Kj cu.2.1 (Kj cz.1 (Kj cz.2.1 g8)))) ?_;open adr Cu vP in exact b7
   ·refine ay xO af ?_;refine nA (Kj cu.1 (Kj cu.2.1 (Kj cz.1 (Kj cz.2.1 g8)))) ?_;open ads Cu vP in exact b7
 ·cases xV
  ·by_cases g8:bits .and .i64 flags 8=0
   ·refine ay xO af ?_;refine nA (Kj cu.1 (Kj cu.2.1 (Kj cz.1 (Kj cz.2.1 (Kj gj g8))))) ?_;open adt LU vP in exact b7
   ·refine ay xO af ?_;refine nA (Kj cu.1 (Kj cu.2.1 (Kj cz.1 (Kj cz.2.1 (Kj gj g8))))) ?_;open LU vP in exact b7
  ·refine ay xO af ?_;refine nA (Kj cu.1 (Kj cu.2.1 (Kj cz.1 (Kj cz.2.1 gj)))) ?_;open adu vP in exact b7
namespace adv
theorem aU(x:a)(g:q)(h:a->q->p:=by(intro x g;exact nA (Kj x (Kj h0 (Kj h1 (Kj h5 (Kj hI (Kj lv.1 (Kj aI eU))))))) g)):p:=h x g
theorem cr(h:p:=by
 first
 |(refine next (n - 1) ad _ ⟨i+1,ad,sA h0,sA h1,by(refine EL h5 ?_;exact⟨_,rfl⟩),rQ,dL.succ hU B0 (.mk _ _ ad ax ax)⟩)
 |fail):p:=h
theorem bw(h:p:=by
 first
 |exact SJ
 |exact akU
 |exact akd
 |exact SH
 |fail):p:=h
end adv
theorem s39{m:Nat}{v:PV}(deep:Int)(ih:mj X G m)(lv:aB (KZ m) v):Pure ai X G 54 [v,.int .i64 deep] (fm (∀y,y∈ae v->Al y)):=by
 refine ay T54 af ?_;refine P9 ?_;have hB:=lv.1.len;refine b5 (fun n s=>∃i:Nat,i+n=(ae v).length/\s.t 0=v/\s.t 1= .int .i64 deep/\(∃z5,s.t 5= .int .i64 z5)/\s.t 6= .int .i64 i/\dL Al v i) ?_ (n:=(ae v).length) ⟨0,af,nB,nB,by(refine P9 ?_;exact⟨_,rfl⟩),nB,dL.zero⟩;rintro n ⟨t,H,k⟩ ⟨i,hi,h0,h1,⟨z5,h5⟩,hI,hU⟩ next
 simp only at h0 h1 h5 hI;refine nA (Kj h0 (Kj h1 (Kj h5 (Kj hI lv.1)))) ?_;open adv in exact b7
namespace adw
theorem aU(x:a)(g:q)(h:a->q->p:=by(intro x g;exact nA (Kj x (Kj fR.1 (Kj fR.2.1 (Kj fz.1 (Kj fz.2.1 (Kj aI eU)))))) g)):p:=h x g
theorem bj(h:p:=by
 first
 |skip
  have hB:=fz.1.len;refine b5 (fun n s=>∃i:Nat,i+n=(ae fM).length/\s.t 1= .int .i64 (IntKind.i64.wrap (deep - 1))/\s.t 2= .ptr 1 1 0/\s.t 5= .int .i64 i/\s.H 1=some ⟨160,1,[.int .i64 (-1),ext,fM],0⟩/\dL vS fM i) ?_ (n:=(ae fM).length) ⟨0,af,sA (Kj fR.1 (Kj fR.2.1 (Kj fz.1 fz.2.1))),sA (Kj fR.1 (Kj fR.2.1 (Kj fz.1 fz.2.1))),sA (Kj fR.1 (Kj fR.2.1 (Kj fz.1 fz.2.1))),sA (Kj fR.1 (Kj fR.2.1 (Kj fz.1 fz.2.1))),dL.zero⟩;rintro n ⟨t,H,k⟩ ⟨i,hi,h1,h2,hI,e1,hU⟩ next
  simp only at h1 h2 hI e1;refine nA (Kj h1 (Kj h2 (Kj hI (Kj e1 (Kj fR.1 (Kj fR.2.1 (Kj fz.1 fz.2.1))))))) ?_;open LV LW LX in exact mb
  done
 |fail):p:=h
end adw
namespace adx
theorem aU(x:a)(g:q)(h:a->q->p:=by(intro x g;exact nA (Kj x (Kj fR.1 (Kj fR.2.1 (Kj fz.1 (Kj fz.2.1 (Kj gj (Kj aI eU))))))) g)):p:=h x g
theorem bj(h:p:=by
 first
 |skip
  have hB:=fz.1.len;refine b5 (fun n s=>∃i:Nat,i+n=(ae fM).length/\s.t 1= .int .i64 (IntKind.i64.wrap (deep - 1))/\s.t 2= .ptr 1 1 0/\s.t 5= .int .i64 i/\s.H 1=some ⟨160,1,[.int .i64 (name),ext,fM],0⟩/\dL vS fM i) ?_ (n:=(ae fM).length) ⟨0,af,sA (Kj fR.1 (Kj fR.2.1 (Kj fz.1 fz.2.1))),sA (Kj fR.1 (Kj fR.2.1 (Kj fz.1 fz.2.1))),sA (Kj fR.1 (Kj fR.2.1 (Kj fz.1 fz.2.1))),sA (Kj fR.1 (Kj fR.2.1 (Kj fz.1 fz.2.1))),dL.zero⟩;rintro n ⟨t,H,k⟩ ⟨i,hi,h1,h2,hI,e1,hU⟩ next
  simp only at h1 h2 hI e1;refine nA (Kj h1 (Kj h2 (Kj hI (Kj e1 (Kj fR.1 (Kj fR.2.1 (Kj fz.1 fz.2.1))))))) ?_;open LV LW LX in exact mb
  done
 |fail):p:=h
end adx
theorem s37{m:Nat}{x:List PV}(deep:Int)(ih:mj X G m)(hx:gH x)(hm:SizeOf.sizeOf x<=m):Pure ai X G 52 [.agg x,.int .i64 deep] (fm (sj x)):=by
 obtain⟨name,ext,fM,rfl,fR,fz⟩:=hx.open (hm);by_cases gj:name=-1
 ·subst gj;refine ay Tt af ?_;refine nA (Kj fR.1 (Kj fR.2.1 (Kj fz.1 fz.2.1))) ?_;open adw LY in exact b7
 ·refine ay Tt af ?_;refine nA (Kj fR.1 (Kj fR.2.1 (Kj fz.1 (Kj fz.2.1 gj)))) ?_;open adx LY in exact b7
end
end Go.Pi
end
