import Derived.Test.YtofdfffpmbgogaaGreatDoorP13
import Derived.Test.YtofdfffpmbgogaaGreatDoorP18
import Derived.Test.YtofdfffpmbgogaaGreatDoorP20
/- Part of the proof. -/
set_option linter.all false
set_option maxHeartbeats 0
set_option maxRecDepth 100000
section
open Go Go.Pi
namespace Go.Pi
variable{p q a:Prop}
section
variable{X:aS}{G:Nat->PV}
namespace adg
theorem cr(h:p:=by
 first
 |(refine next (n - 1) ad _ ⟨i+1,ad,sA h0,sA h1,rQ,dL.succ hU B0 (.mk _ _ _ _ (by first|omega|(have Rb:=an9 fN ‹bits .andNot .i64 _ 9=0›;omega)) ad BU ax)⟩)
 |fail):p:=h
theorem bw(h:p:=by
 first
 |exact SJ
 |exact akK
 |(refine aO (SO _ (‹EZ _ _›:EZ _ _).1 (‹EZ _ _›:EZ _ _).le) pE iW ?_;exact lz)
 |exact akd
 |exact SH
 |fail):p:=h
end adg
theorem s95{m:Nat}{v:PV}(deep:Int)(ih:mj X G m)(lv:aB (PZ m) v):Pure ai X G 138 [v,.int .i64 deep] (fm (∀y,y∈ae v->ug y)):=by
 refine ay ap5 af ?_;refine P9 ?_;have hB:=lv.1.len;refine b5 (fun n s=>∃i:Nat,i+n=(ae v).length/\s.t 0=v/\s.t 1= .int .i64 deep/\s.t 5= .int .i64 i/\dL ug v i) ?_ (n:=(ae v).length) ⟨0,af,nB,nB,nB,dL.zero⟩;rintro n ⟨t,H,k⟩ ⟨i,hi,h0,h1,hI,hU⟩ next
 simp only at h0 h1 hI;refine nA (Kj h0 (Kj h1 (Kj hI lv.1))) ?_;open adg LP in exact b7
namespace adh
theorem cr(h:p:=by
 first
 |(refine next (n - 1) ad _ ⟨i+1,ad,sA h0,sA h1,rQ,dL.succ hU B0 ax⟩)
 |fail):p:=h
theorem bw(h:p:=by
 first
 |(refine aO (ih.s ‹SZ _ _› _) pE iW ?_;exact lz)
 |exact akd
 |exact SH
 |fail):p:=h
end adh
theorem F9{m:Nat}{v:PV}(deep:Int)(ih:mj X G m)(lv:aB (SZ m) v):Pure ai X G 16 [v,.int .i64 deep] (fm (∀y,y∈ae v->dJ y)):=by
 refine ay T16 af ?_;refine P9 ?_;have hB:=lv.1.len;refine b5 (fun n s=>∃i:Nat,i+n=(ae v).length/\s.t 0=v/\s.t 1= .int .i64 deep/\s.t 5= .int .i64 i/\dL dJ v i) ?_ (n:=(ae v).length) ⟨0,af,nB,nB,nB,dL.zero⟩;rintro n ⟨t,H,k⟩ ⟨i,hi,h0,h1,hI,hU⟩ next
 simp only at h0 h1 hI;refine nA (Kj h0 (Kj h1 (Kj hI lv.1))) ?_;open adh LP in exact b7
namespace adi
theorem bw(h:p:=by
 first
 |exact SJ
 |exact akK
 |exact SL
 |exact akd
 |((refine⟨_,rfl,fun hq=>?_⟩;(try simp only[decide_eq_true_eq]at hq);first|exact(by have h9:=‹(ae cj)[_]?=some _›;intro y hy;have hy:=h9.symm.trans hy;cases hy;exact .mk _ _ _ _ _ _ _ _ (by first|omega|(have hb5:=an5 fN ‹bits .andNot .i64 _ 5=0›;omega)) ad BU BU (by first|assumption|exact .mk _ _ _ _ (.inl ⟨rfl,rfl,by simpa using‹(!_)=true›,ad⟩) (qM ad)))|done|fail))<;>exact b7
 |fail):p:=h
end adi
theorem s98{m:Nat}{x:List PV}(i deep:Int)(ih:mj X G m)(hx:eP x)(hm:SizeOf.sizeOf x<=m)(hi:0<=i/\i<(ae (x.getD 2 .undef)).length)(k:Int)(hk:x.getD 0 .undef= .int .i64 k)(jL:k=2\/k=3):
 Pure ai X G 141 [.agg x,.int .i64 i,.int .i64 deep] (fm (∀y,(ae (x.getD 2 .undef))[i.toNat]?=some y->nI k y)):=by
 obtain⟨kind,aA,cj,rest,rfl,dh⟩:=hx.open (hm);have hi:0<=i/\i<(ae cj).length:=hi;cases hk;refine ay ap8 af ?_;refine nA (Kj dh.1 dh.2.1) ?_;open adi GC in exact b7
end
end Go.Pi
end
section
open Go Go.Pi
namespace Go.Pi
variable{p q a:Prop}
section
variable{X:aS}{G:Nat->PV}
namespace adk
theorem cw(h:p:=by
 first
 |(refine aO (s98 _ _ ih hx hm ⟨ad,QS⟩ 2 rfl ad) pE u7 ?_;exact va)
 |exact akd
 |exact akN
 |fail):p:=h
end adk
namespace adl
theorem bj(h:p:=by
 first
 |skip
  have hB:=dh.1.len;refine b5 (fun n s=>∃i:Nat,i+n=(ae cj).length/\s.t 1= .int .i64 (IntKind.i64.wrap (deep - 1))/\s.t 2= .ptr 1 1 0/\s.t 5= .int .i64 i/\s.H 1=some ⟨37,1,[.int .i64 2,.int .i64 0,cj,.bool rest],0⟩/\dL (nI 2) cj i) ?_ (n:=(ae cj).length) ⟨0,af,sA (Kj dh.1 dh.2.1),sA (Kj dh.1 dh.2.1),sA (Kj dh.1 dh.2.1),sA (Kj dh.1 dh.2.1),dL.zero⟩;rintro n ⟨t,H,k⟩ ⟨i,hi,h1,h2,hI,e1,hU⟩ next
  simp only at h1 h2 hI e1;refine nA (Kj h1 (Kj h2 (Kj hI (Kj e1 (Kj dh.1 dh.2.1))))) ?_;open adk LQ LR in exact mb
  done
 |fail):p:=h
end adl
namespace adm
theorem cw(h:p:=by
 first
 |(refine aO (s98 _ _ ih hx hm ⟨ad,QS⟩ 3 rfl ad) pE u7 ?_;exact va)
 |exact akd
 |exact akN
 |fail):p:=h
end adm
namespace adn
theorem bj(h:p:=by
 first
 |skip
  have hB:=dh.1.len;refine b5 (fun n s=>∃i:Nat,i+n=(ae cj).length/\s.t 1= .int .i64 (IntKind.i64.wrap (deep - 1))/\s.t 2= .ptr 1 1 0/\s.t 5= .int .i64 i/\s.H 1=some ⟨37,1,[.int .i64 3,.int .i64 0,cj,.bool false],0⟩/\dL (nI 3) cj i) ?_ (n:=(ae cj).length) ⟨0,af,sA (Kj dh.1 dh.2.1),sA (Kj dh.1 dh.2.1),sA (Kj dh.1 dh.2.1),sA (Kj dh.1 dh.2.1),dL.zero⟩;rintro n ⟨t,H,k⟩ ⟨i,hi,h1,h2,hI,e1,hU⟩ next
  simp only at h1 h2 hI e1;refine nA (Kj h1 (Kj h2 (Kj hI (Kj e1 (Kj dh.1 dh.2.1))))) ?_;open adm LQ LR in exact mb
  done
 |fail):p:=h
end adn
namespace ado
theorem aU(x:a)(g:q)(h:a->q->p:=by(intro x g;exact nA (Kj x (Kj dh.1 (Kj dh.2.1 (Kj h2 (Kj h3 (Kj aI eU)))))) g)):p:=h x g
theorem bw(h:p:=by
 first
 |exact SN
 |exact akd
 |((refine⟨_,rfl,fun hq=>?_⟩;(try simp only[decide_eq_true_eq]at hq);first|exact .mk _ _ _ _ (.inr (.inl ⟨ad,ad,ad,aje,ad⟩)) (qM ad)|done|fail))<;>exact b7
 |fail):p:=h
end ado
theorem s66{m:Nat}{x:List PV}(deep:Int)(ih:mj X G m)(hx:eP x)(hm:SizeOf.sizeOf x<=m):Pure ai X G 97 [.agg x,.int .i64 deep] (fm (nH x)):=by
 have bY:=hx;obtain⟨kind,aA,cj,rest,rfl,dh⟩:=bY.open (hm);by_cases h2:kind=2
 ·subst h2;refine ay Mj af ?_;refine nA (Kj dh.1 dh.2.1) ?_;open adl GC LS in exact b7
 ·by_cases h3:kind=3
  ·subst h3;refine ay Mj af ?_;refine nA (Kj dh.1 dh.2.1) ?_;open adn GC LS in exact b7
  ·refine ay Mj af ?_;refine nA (Kj dh.1 (Kj dh.2.1 (Kj h2 h3))) ?_;open ado in exact b7
namespace adp
theorem aU(x:a)(g:q)(h:a->q->p:=by(intro x g;exact nA (Kj x (Kj h0 (Kj h1 (Kj h2 (Kj h3 (Kj hI (Kj lv.1 (Kj aI eU)))))))) g)):p:=h x g
theorem cr(h:p:=by
 first
 |(refine next (n - 1) ad _ ⟨i+1,ad,sA h0,sA h1,sA h2,sA h3,rQ,dL.succ hU B0 (.mk _ _ _ _ _ ax ad ax)⟩)
 |fail):p:=h
theorem bw(h:p:=by
 first
 |exact SJ
 |exact SL
 |exact akd
 |((refine⟨_,rfl,fun hq=>?_⟩;(try simp only[decide_eq_true_eq]at hq);first|exact⟨ad,ad,hU.all ad⟩|done|fail))<;>exact b7
 |fail):p:=h
end adp
theorem s35{m:Nat}{v:PV}(least most deep:Int)(ih:mj X G m)(lv:aB (DZ m) v):Pure ai X G 50 [v,.int .i64 least,.int .i64 most,.int .i64 deep] (fm (least<=(ae v).length/\(ae v).length<=most/\∀y,y∈ae v->mS y)):=by
 refine ay T50 af ?_;refine P9 ?_;have hB:=lv.1.len;refine b5 (fun n s=>∃i:Nat,i+n=(ae v).length/\s.t 0=v/\s.t 1= .int .i64 least/\s.t 2= .int .i64 most/\s.t 3= .int .i64 deep/\s.t 9= .int .i64 i/\dL mS v i) ?_ (n:=(ae v).length) ⟨0,af,nB,nB,nB,nB,nB,dL.zero⟩;rintro n ⟨t,H,k⟩ ⟨i,hi,h0,h1,h2,h3,hI,hU⟩ next
 simp only at h0 h1 h2 h3 hI;refine nA (Kj h0 (Kj h1 (Kj h2 (Kj h3 (Kj hI lv.1))))) ?_;open adp in exact b7
end
end Go.Pi
end
