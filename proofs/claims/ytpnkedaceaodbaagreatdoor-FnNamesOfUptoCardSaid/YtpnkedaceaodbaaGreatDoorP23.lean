import Derived.Test.YtpnkedaceaodbaaGreatDoorP06
import Derived.Test.YtpnkedaceaodbaaGreatDoorP07
import Derived.Test.YtpnkedaceaodbaaGreatDoorP08
import Derived.Test.YtpnkedaceaodbaaGreatDoorP09
import Derived.Test.YtpnkedaceaodbaaGreatDoorP10
import Derived.Test.YtpnkedaceaodbaaGreatDoorP15
/- Part of the proof. -/
set_option linter.all false
set_option maxHeartbeats 0
set_option maxRecDepth 100000
section
open Go Go.Pi
namespace Go.Pi
variable {p q a : Prop}
def settlePtr (n : Nat) (H : Heap) (o : Option Chunk) (b g off : Nat) : Option (PV × List Nat) :=
 match o with
 |some c => if c.gen = g ∧ off ≤ c.cells.length then (settleL (Go.Pi.settle n H) (c.cells.drop off)).map fun r => (.fp r.1, b :: r.2) else none
 |none => none
theorem settle_ptrE {n : Nat} {H : Heap} {b g off : Nat} : Go.Pi.settle (n + 1) H (.ptr b g off) = settlePtr n H (H b) b g off := by
 simp only [Go.Pi.settle, deepB, Bool.false_eq_true, if_false, settlePtr]
 rfl
theorem settlePtr_some {n e s b g : Nat} {H : Heap} {cells : List PV} : settlePtr n H (some ⟨e, g, cells, s⟩) b g 0 = (settleL (Go.Pi.settle n H) cells).map fun r => (.fp r.1, b :: r.2) := by
 simp [settlePtr]
theorem settle_ifcP {n t b g off : Nat} {H : Heap} : Go.Pi.settle (n + 1) H (.ifc t (.ptr b g off)) = (Go.Pi.settle n H (.ptr b g off)).map fun r => (.ifc t r.1, r.2) := by
 simp only [Go.Pi.settle, deepB, Bool.false_eq_true, if_false]
attribute [go_sem] settle_ptrE settlePtr_some settle_ifcP
section
variable {X : CallF} {G : Nat → PV}
def Iv (d : PV) : Prop := d = .nili ∨ ∃ t x, d = .ifc t x
theorem cellsOf_iv {d : PV} (h : Iv d) : cellsOf d = some [d] := by rcases h with rfl | ⟨t, x, rfl⟩ <;> rfl
def Ev (c : List PV) : Prop := ∃ d z, c = [d, .int .i32 z] ∧ Iv d ∧ deepB d = true
theorem Ev.len {c : List PV} (h : Ev c) : c.length = 2 := by obtain ⟨d, z, rfl, _⟩ := h; rfl
theorem Ev.deep {c : List PV} (h : Ev c) : deepL c = true := by obtain ⟨d, z, rfl, _, h⟩ := h; simp [deepL, deepB, h]
def EvR (P : Prop) (r : PV) : Prop := ∃ c b, r = .tup [.agg c, .bool b] ∧ Ev c ∧ (P → b = true)
def EvsR (n : Nat) (P : Prop) (r : PV) : Prop := ∃ v b, r = .tup [v, .bool b] ∧ Sls v ∧ deepB v = true ∧ (∀ c, c ∈ els v → Ev c) ∧ (els v).length ≤ n ∧ (b = true → (els v).length = n) ∧ (P → b = true)
theorem i32 (n : Int) : Pure Tab X G 32 [.int .i64 n] (fun r => r = .agg [.int .u32 0, .int .u32 (IntKind.u32.wrap n)]) := by
 refine Fn_of T32 (by simp) ?_
 exact z0
theorem i33 {m : Nat} {v : PV} (lv : SlP (EZ m) v) (h64 : ∀ {y}, EZ m y → Pure Tab X G 64 [.agg y] (EvR (OkE y))) : Pure Tab X G 33 [v] (EvsR (els v).length (∀ y, y ∈ els v → OkE y)) := by
 have hv := lv.1
 have hB := lv.1.len
 refine Fn_of T33 (by simp) ?_
 refine s1 hv ?_
 refine M_loop (fun n s => ∃ (i : Nat) (ys : List (List PV)), i + n = (els v).length ∧ s.t 9 = v ∧ s.t 10 = .int .i64 (els v).length ∧ s.t 11 = .int .i64 i ∧ (∀ y, y ∈ ys → Ev y) ∧ ys.length = i ∧ Grow [8004] s.H 85 2 (s.t 4) ys) ?_ (n := (els v).length) ⟨0, [], by simp, z0, z0, z0, by simp, rfl, by refine s0 ?_; exact Grow.nil⟩
 rintro n ⟨t, H, k⟩ ⟨i, ys, hi, h9, h10, h11, hys, hyl, hrow⟩ next
 simp only at h9 h10 h11 hrow
 refine s1 (j h9 (j h10 h11)) ?_
 refine MB_dec (fun hp hb => ?_) (fun hp hb => ?_)
 ·refine s1 (j h9 (j h10 h11)) ?_
  refine MIX_S (P := EZ m) EZ.len lv (by omega) (by omega) (fun y hy hmem hg => ?_)
  have hM := h64 hy
  have hok : (∀ y, y ∈ els v → OkE y) → OkE y := fun h => h y hmem
  obtain ⟨kind, op, ref, chain, flags, nn, str, text, kids, props, parts, fns, classes, rfl, hn, l_str, ht, l_kids, l_props, l_parts, l_fns, l_classes⟩ := hy.1.open (hy.le)
  refine s1 (j h9 (j h10 (j h11 (j l_str.1 (j l_str.2.1 (j l_kids.1 (j l_kids.2.1 (j l_props.1 (j l_props.2.1 (j l_parts.1 (j l_parts.2.1 (j l_fns.1 (j l_fns.2.1 (j l_classes.1 l_classes.2.1)))))))))))))) ?_
  refine MC_pure hM (by intro b g r h; cases h) (z1 (j l_str.1 (j l_str.2.1 (j l_kids.1 (j l_kids.2.1 (j l_props.1 (j l_props.2.1 (j l_parts.1 (j l_parts.2.1 (j l_fns.1 (j l_fns.2.1 (j l_classes.1 l_classes.2.1)))))))))))) ?_
  rintro _ ⟨_, b, rfl, ⟨d, z, rfl, hd, hdd⟩, hP⟩
  have hcd := cellsOf_iv hd
  refine s1 (j h9 (j h10 (j h11 (j hcd hdd)))) ?_
  cases b with
  |false =>
   refine s0 ?_
   exact ⟨_, _, rfl, .inl rfl, rfl, by simp [els], by simp [els], fun h => (by cases h), fun h => hP (hok h)⟩
  |true =>
   have hcl : Ev [d, .int .i32 z] := ⟨d, z, rfl, hd, hdd⟩
   refine s1 (j h9 (j h10 (j h11 (j hcd hdd)))) ?_
   refine M_app1 (A := [8004]) (ys := ys) (z0) (z0) rfl hcl.deep ?_ (by simp) (by simp) (by omega) ?_
   ·refine s0 ?_
    exact hrow.frame (fun b hb => by simp only [List.mem_singleton] at hb; rw [hb]; exact z0)
   ·intro v' H2 tr' hgr hf htr
    have := htr rfl
    subst this
    refine s1 (j h9 (j h10 h11)) ?_
    generalize hzs : ys ++ [_] = zs at hgr
    refine next (n - 1) (by omega) _ ⟨i + 1, zs, by omega, z1 h9, z1 h10, by refine s1 h11 ?_; rw [wrap_i64 (by omega) (by omega)]; rfl, ?_, by rw [← hzs]; simp [hyl], ?_⟩
    ·intro y hy
     rw [← hzs] at hy
     rcases List.mem_append.1 hy with hy | hy
     ·exact hys y hy
     ·simp at hy; subst hy; exact hcl
    ·refine s0 ?_
     exact hgr
 ·refine s0 ?_
  have hE := fun (n : Nat) => Grow.settleE (n := n) hrow
  obtain ⟨g1, g2, g3, g4⟩ := hrow.gv
  refine s1 hE ?_
  refine ⟨by simpa using fun h : 0 ∈ gi (t 4) => absurd (g4 0 h) (by simp), _, _, rfl, g1, g2, fun c hc => hys c (by rw [g3] at hc; exact hc), by rw [g3]; omega, fun _ => by rw [g3]; omega, fun _ => rfl⟩
theorem MIX_Ev {T : Nat → Option FX} {Q : Ex → St → Prop} {w : List Wk} {v : PV} {m : Int} {d : Option Nat} {i len n : Nat} {os : List XO} {tr : Trk} {t : Nat → PV} {H : Heap} (h : Sls v) (hE : ∀ c, c ∈ els v → Ev c) (h0 : 0 ≤ m) (hlt : m < (els v).length)
  (kk : ∀ y, Ev y → y ∈ els v → (els v)[m.toNat]? = some y → M T X G (.ops i os len tr :: w) ⟨put t d (.fp y), H, n⟩ Q) : MIX T X G 2 v (.int .i64 m) d i os len tr w t H n Q := by
 obtain ⟨p, rfl⟩ := Int.eq_ofNat_of_zero_le h0
 have hp : p < (els v).length := by omega
 have hm := List.getElem_mem hp
 have hix := ix_sls (s := 2) h hp (hE _ hm).len
 unfold MIX
 rw [hix]
 exact kk _ (hE _ hm) hm (by simp)
theorem EvsR.notptr {v : PV} (h : Sls v) (b g : Nat) : v ≠ .ptr b g 0 := by rintro rfl; rcases h with h | ⟨_, h⟩ <;> cases h
theorem i18 {m : Nat} {v : PV} (lv : SlP (EZ m) v) (h64 : ∀ {y}, EZ m y → Pure Tab X G 64 [.agg y] (EvR (OkE y))) : Pure Tab X G 18 [v] (EvR ((els v).length ≤ 1 ∧ ∀ y, y ∈ els v → OkE y)) := by
 have hv := lv.1
 have hB := lv.1.len
 have hdv := lv.2.1
 refine Fn_of T18 (by simp) ?_
 refine s1 hv ?_
 refine MC_pure (i33 lv h64) (by intro b g r h; cases h; exact lv.not_ptr) (c1 hdv) ?_
 rintro _ ⟨r, b, rfl, hS, hD, hE, hl1, hl2, hP⟩
 refine s1 (j hS hD) ?_
 cases b with
 |false =>
  refine s0 ?_
  refine ⟨_, _, rfl, ⟨_, _, rfl, .inl rfl, rfl⟩, fun h => hP h.2⟩
 |true =>
  have hl := hl2 rfl
  refine s1 (j hS hD) ?_
  refine MB_dec (fun hp hb => ?_) (fun hp hb => ?_)
  ·refine s0 ?_
   exact ⟨_, _, rfl, ⟨_, _, rfl, .inl rfl, rfl⟩, fun h => by have := h.1; omega⟩
  ·refine s1 (j hS hD) ?_
   refine MB_dec (fun hp2 hb2 => ?_) (fun hp2 hb2 => ?_)
   ·refine s0 ?_
    exact ⟨_, _, rfl, ⟨_, _, rfl, .inl rfl, rfl⟩, fun _ => rfl⟩
   ·refine s1 (j hS hD) ?_
    refine MIX_Ev hS hE (by omega) (by omega) (fun y hy hmem hg => ?_)
    obtain ⟨d, z, rfl, hd, hdd⟩ := hy
    have hcd := cellsOf_iv hd
    refine s1 (j hcd hdd) ?_
    exact ⟨_, _, rfl, ⟨_, _, rfl, hd, hdd⟩, fun _ => rfl⟩
end
end Go.Pi
end
section
open Go Go.Pi
namespace Go.Pi
variable {p q a : Prop}
mutual
inductive Bv : List PV → List Int → Prop
 |missing : Bv [.ifc 96 (.fp [.int .u8 0]), .int .i32 0] []
 |name (n : Int) : Bv [.ifc 62 (.fp [.int .u32 0, .int .u32 (IntKind.u32.wrap n)]), .int .i32 0] [n]
 |array (v : PV) (b : Bool) (l : List Int) (hS : Sls v) (hD : deepB v = true) (hl : (els v).length ≤ 1048576) (h : Ba (els v) l) : Bv [.ifc 100 (.fp [v, .int .i32 0, .bool b, .bool false]), .int .i32 0] l
 |object (v : PV) (l : List Int) (hS : Sls v) (hD : deepB v = true) (hl : (els v).length ≤ 1048576) (h : Bo (els v) l) : Bv [.ifc 108 (.fp [v, .int .i32 0, .bool false]), .int .i32 0] l
inductive Ba : List (List PV) → List Int → Prop
 |nil : Ba [] []
 |cons (c0 c1 d0 d1 : PV) (cs : List (List PV)) (l ls : List Int) (h : Bv [c0, c1] l) (hs : Ba cs ls) : Ba ([c0, c1, d0, d1, .int .i32 0] :: cs) (l ++ ls)
inductive Bo : List (List PV) → List Int → Prop
 |nil : Bo [] []
 |cons (k0 k1 c0 c1 d0 d1 : PV) (b1 b2 b3 : Bool) (cs : List (List PV)) (l ls : List Int) (h : Bv [c0, c1] l) (hs : Bo cs ls) : Bo ([k0, k1, c0, c1, d0, d1, .int .i32 0, .int .i32 0, .bool b1, .bool b2, .bool b3] :: cs) (l ++ ls)
end
theorem Ba.snoc {xs : List (List PV)} {l l2 : List Int} {c0 c1 d0 d1 : PV} (hb : Bv [c0, c1] l2) : Ba xs l → Ba (xs ++ [[c0, c1, d0, d1, .int .i32 0]]) (l ++ l2) := by
 induction xs generalizing l with
 |nil => intro h; cases h; have := Ba.cons c0 c1 d0 d1 [] l2 [] hb .nil; simpa using this
 |cons x xs ih =>
  intro h
  cases h with
  |cons _ _ _ _ _ l ls h hs => rw [List.cons_append, List.append_assoc]; exact .cons _ _ _ _ _ _ _ h (ih hs)
theorem Bo.snoc {xs : List (List PV)} {l l2 : List Int} {k0 k1 c0 c1 d0 d1 : PV} {b1 b2 b3 : Bool} (hb : Bv [c0, c1] l2) : Bo xs l → Bo (xs ++ [[k0, k1, c0, c1, d0, d1, .int .i32 0, .int .i32 0, .bool b1, .bool b2, .bool b3]]) (l ++ l2) := by
 induction xs generalizing l with
 |nil => intro h; cases h; have := Bo.cons k0 k1 c0 c1 d0 d1 b1 b2 b3 [] l2 [] hb .nil; simpa using this
 |cons x xs ih =>
  intro h
  cases h with
  |cons _ _ _ _ _ _ _ _ _ _ l ls h hs => rw [List.cons_append, List.append_assoc]; exact .cons _ _ _ _ _ _ _ _ _ _ _ _ h (ih hs)
theorem Bv.ev {c : List PV} {l : List Int} (h : Bv c l) : Ev c := by
 cases h with
 |missing => exact ⟨_, _, rfl, .inr ⟨_, _, rfl⟩, rfl⟩
 |name n => exact ⟨_, _, rfl, .inr ⟨_, _, rfl⟩, rfl⟩
 |array v b _ hS hD => exact ⟨_, _, rfl, .inr ⟨_, _, rfl⟩, by simp [deepB, deepL, hD]⟩
 |object v _ hS hD => exact ⟨_, _, rfl, .inr ⟨_, _, rfl⟩, by simp [deepB, deepL, hD]⟩
def BvR (x : List PV) (P : Prop) (r : PV) : Prop := ∃ c b, r = .tup [.agg c, .bool b] ∧ Ev c ∧ (P → b = true) ∧ (b = true → ∃ l, Bn x l ∧ Bv c l)
end Go.Pi
end
section
open Go Go.Pi
namespace Go.Pi
variable {p q a : Prop}
section
variable {X : CallF} {G : Nat → PV}
namespace QIc2
theorem kA2 (h : p := by
 first
 |exact kFm
 |exact kH
 |fail) : p := h
theorem kB2 (h : p := by
 first
 |(refine MC_pure (h17 (by assumption)) (by intro b g r h; cases h) (cA) ?_; rintro _ ⟨_, bb, rfl, ⟨d, z, rfl, hd, hdd⟩, hbP, hbv⟩; have hcd := cellsOf_iv hd; refine nA ?_) <;> exact Am2
 |(refine MC_pure (i18 (by assumption) h64) (by intro b g r h; cases h; exact (‹SlP _ (PV.ptr _ _ _)›).not_ptr) (cA) ?_; rintro _ ⟨_, be, rfl, ⟨d2, z2, rfl, hd2, hdd2⟩, heP⟩; have hcd2 := cellsOf_iv hd2; refine nA ?_) <;> exact Am2
 |fail) : p := h
theorem y2_0 (h : p := by
 first
 |skip
  refine ⟨_, _, rfl, ⟨_, _, rfl, .inl rfl, rfl⟩, fun h => ?_, fun h => by cases h⟩
  cases h with
  |mk _ _ _ _ h0 h3 h1 hi =>
   have h := hi (.inl rfl) _ hmem
   cases h with
   |mk _ _ _ _ _ _ _ _ q1 q2 q3 q4 q5 q6 => simp [hbP q6] at hb
  done
 |fail) : p := h
theorem y2_1 (h : p := by
 first
 |skip
  refine M_app_slT (A := [15010]) (ys := ys) (zs := [[d, .int .i32 z, d2, .int .i32 z2, .int .i32 0]]) (ids := [15009]) (cA) (by refine nA ?_; exact hgw.frame (by intro b hb; simp only [List.mem_singleton] at hb; subst hb; exact c0)) (by simp) (by simp) (by intro y hy; simp only [List.mem_singleton] at hy; subst hy; exact ⟨rfl, by simp [deepL, deepB, hdd, hdd2]⟩) (by simp) (by simp only [List.length_cons, List.length_nil]; omega) (fun v' H' z' hgr hf => ?_)
  have f2 := hf 2 (by simp) (by simp)
  have f7 := hf 7004 (by simp) (by simp)
  simp only [e2, e7, go_sem, Nat.reduceEqDiff, Nat.reduceAdd, Nat.reduceLeDiff, Nat.reduceLT, Nat.reduceMul, Nat.reduceSub, reduceIte, reduceCtorEq, Int.reduceEq, Int.reduceLT, Int.reduceLE, Nat.reduceBEq, Int.reduceToNat, M_block] at f2 f7
  have hcv := cellsOf_grow hgr
  clear hE hf
  simp only [push]
  refine nA ?_
  simp only [M_reg]
  refine nA ?_
  have hbb : bb = true := by simpa using hb
  obtain ⟨l', hbn', hbv'⟩ := hbv hbb
  have hg' := hg
  simp only [Int.toNat_natCast] at hg'
  have next := nx
  unfold Hid at next
  refine next (n - 1) (by omega) _ ⟨i + 1, v', _, l ++ l', so, by omega, cA, cA, cA, cA, by refine nA ?_; rw [wrap_i64 (by omega) (by omega)]; first | rfl | (congr 1; omega), cA, cA, hgr.frame (by intro b hb; simp only [List.mem_singleton] at hb; subst hb; exact c0), ?_, hba.snoc hbv', by simp [hyl]⟩
  rw [List.take_add_one, hg']
  exact Bns.snoc hbn' hbn
  done
 |fail) : p := h
theorem y2_2 (h : p := by
 first
 |skip
  refine ⟨_, _, rfl, ⟨_, _, rfl, .inl rfl, rfl⟩, fun h => ?_, fun h => by cases h⟩
  cases h with
  |mk _ _ _ _ h0 h3 h1 hi =>
   have h := hi (.inl rfl) _ hmem
   cases h with
   |mk _ _ _ _ _ _ _ _ q1 q2 q3 q4 q5 q6 => exact heP ⟨q2, q5⟩
  done
 |fail) : p := h
theorem y2_3 (h : p := by
 first
 |skip
  refine ⟨by simpa using fun h : 0 ∈ gi v => absurd (g4 0 h) (by simp), ?_⟩
  rw [List.take_of_length_le (by omega)] at hbn
  have hb2 : Bv [.ifc 100 (.fp [gv v ys, .int .i32 0, .bool rest, .bool false]), .int .i32 0] l := .array _ _ _ g1 g2 (by rw [g3]; omega) (by rw [g3]; exact hba)
  exact ⟨_, _, rfl, hb2.ev, fun _ => rfl, fun _ => ⟨l, .parts _ _ _ _ _ (.inl rfl) hbn, hb2⟩⟩
  done
 |fail) : p := h
theorem kZ2 (h : p := by
 first
 |skip
  all_goals first
  |exact y2_0
  |exact y2_1
  |exact y2_2
  |exact y2_3
  |fail
  done
 |fail) : p := h
end QIc2
namespace QIc3
theorem kA2 (h : p := by
 first
 |exact kFm
 |exact kH
 |fail) : p := h
theorem kB2 (h : p := by
 first
 |(refine MC_pure (h17 (by assumption)) (by intro b g r h; cases h) (cA) ?_; rintro _ ⟨_, bb, rfl, ⟨d, z, rfl, hd, hdd⟩, hbP, hbv⟩; have hcd := cellsOf_iv hd; refine nA ?_) <;> exact Am2
 |(refine MC_pure (i18 yl_key h64) (by intro b g r h; cases h; exact (‹SlP _ (PV.ptr _ _ _)›).not_ptr) (cA) ?_; rintro _ ⟨_, bk, rfl, ⟨dk, zk, rfl, hdk, hddk⟩, hkP⟩; have hcdk := cellsOf_iv hdk; refine nA ?_) <;> exact Am2
 |(refine MC_pure (i18 yl_dflt h64) (by intro b g r h; cases h; exact (‹SlP _ (PV.ptr _ _ _)›).not_ptr) (cA) ?_; rintro _ ⟨_, be, rfl, ⟨d2, z2, rfl, hd2, hdd2⟩, heP⟩; have hcd2 := cellsOf_iv hd2; refine nA ?_) <;> exact Am2
 |fail) : p := h
theorem y2_0 (h : p := by
 first
 |skip
  refine M_app_slT (A := [28023]) (ys := ys) (zs := [[dk, .int .i32 zk, d, .int .i32 z, d2, .int .i32 z2, .int .i32 0, .int .i32 0, .bool _, .bool _, .bool _]]) (ids := [28022]) (cA) (by refine nA ?_; exact hgw.frame (by intro b hb; simp only [List.mem_singleton] at hb; subst hb; exact c0)) (by simp) (by simp) (by intro y hy; simp only [List.mem_singleton] at hy; subst hy; exact ⟨rfl, by simp [deepL, deepB, hdd, hdd2, hddk]⟩) (by simp) (by simp only [List.length_cons, List.length_nil]; omega) (fun v' H' z' hgr hf => ?_)
  have f2 := hf 2 (by simp) (by simp)
  have f7 := hf 19002 (by simp) (by simp)
  simp only [e2, e7, go_sem, Nat.reduceEqDiff, Nat.reduceAdd, Nat.reduceLeDiff, Nat.reduceLT, Nat.reduceMul, Nat.reduceSub, reduceIte, reduceCtorEq, Int.reduceEq, Int.reduceLT, Int.reduceLE, Nat.reduceBEq, Int.reduceToNat, M_block] at f2 f7
  have hcv := cellsOf_grow hgr
  have hbb : bb = true := by cases bb <;> first | rfl | contradiction
  clear hE hf
  simp only [push]
  refine nA ?_
  simp only [M_reg]
  refine nA ?_
  obtain ⟨l', hbn', hbv'⟩ := hbv hbb
  have hg' := hg
  simp only [Int.toNat_natCast] at hg'
  have next := nx
  unfold Hid at next
  refine next (n - 1) (by omega) _ ⟨i + 1, v', _, l ++ l', so, by omega, cA, cA, cA, cA, by refine nA ?_; rw [wrap_i64 (by omega) (by omega)]; first | rfl | (congr 1; omega), cA, cA, hgr.frame (by intro b hb; simp only [List.mem_singleton] at hb; subst hb; exact c0), ?_, hba.snoc hbv', by simp [hyl]⟩
  rw [List.take_add_one, hg']
  exact Bns.snoc hbn' hbn
  done
 |fail) : p := h
theorem y2_1 (h : p := by
 first
 |skip
  refine M_app_slT (A := [28023]) (ys := ys) (zs := [[dk, .int .i32 zk, d, .int .i32 z, d2, .int .i32 z2, .int .i32 0, .int .i32 0, .bool _, .bool _, .bool _]]) (ids := [28022]) (cA) (by refine nA ?_; exact hgw.frame (by intro b hb; simp only [List.mem_singleton] at hb; subst hb; exact c0)) (by simp) (by simp) (by intro y hy; simp only [List.mem_singleton] at hy; subst hy; exact ⟨rfl, by simp [deepL, deepB, hdd, hdd2, hddk]⟩) (by simp) (by simp only [List.length_cons, List.length_nil]; omega) (fun v' H' z' hgr hf => ?_)
  have f2 := hf 2 (by simp) (by simp)
  have f7 := hf 19002 (by simp) (by simp)
  simp only [e2, e7, go_sem, Nat.reduceEqDiff, Nat.reduceAdd, Nat.reduceLeDiff, Nat.reduceLT, Nat.reduceMul, Nat.reduceSub, reduceIte, reduceCtorEq, Int.reduceEq, Int.reduceLT, Int.reduceLE, Nat.reduceBEq, Int.reduceToNat, M_block] at f2 f7
  have hcv := cellsOf_grow hgr
  have hbb : bb = true := by cases bb <;> first | rfl | contradiction
  clear hE hf
  simp only [push]
  refine nA ?_
  simp only [M_reg]
  refine nA ?_
  obtain ⟨l', hbn', hbv'⟩ := hbv hbb
  have hg' := hg
  simp only [Int.toNat_natCast] at hg'
  have next := nx
  unfold Hid at next
  refine next (n - 1) (by omega) _ ⟨i + 1, v', _, l ++ l', so, by omega, cA, cA, cA, cA, by refine nA ?_; rw [wrap_i64 (by omega) (by omega)]; first | rfl | (congr 1; omega), cA, cA, hgr.frame (by intro b hb; simp only [List.mem_singleton] at hb; subst hb; exact c0), ?_, hba.snoc hbv', by simp [hyl]⟩
  rw [List.take_add_one, hg']
  exact Bns.snoc hbn' hbn
  done
 |fail) : p := h
theorem y2_2 (h : p := by
 first
 |skip
  refine ⟨by simpa using fun h : 0 ∈ gi v => absurd (g4 0 h) (by simp), ?_⟩
  rw [List.take_of_length_le (by omega)] at hbn
  have hb2 : Bv [.ifc 108 (.fp [gv v ys, .int .i32 0, .bool false]), .int .i32 0] l := .object _ _ g1 g2 (by rw [g3]; omega) (by rw [g3]; exact hba)
  exact ⟨_, _, rfl, hb2.ev, fun _ => rfl, fun _ => ⟨l, .parts _ _ _ _ _ (.inr rfl) hbn, hb2⟩⟩
  done
 |fail) : p := h
theorem kZ2 (h : p := by
 first
 |skip
  all_goals first
   |(refine ⟨_, _, rfl, ⟨_, _, rfl, .inl rfl, rfl⟩, fun h => ?_, fun h => by cases h⟩; cases h with | mk _ _ _ _ h0 h3 h1 hi => (have h := hi (.inr rfl) _ hmem; cases h with | mk _ _ _ _ _ _ _ _ q1 q2 q3 q4 q5 q6 => (have a1 := hbP q6; have a2 := hkP ⟨q1, q4 rfl⟩; have a3 := heP ⟨q2, q5⟩; subst a1; first | (subst a2; first | (subst a3; first | (cases hb; done) | (have := q3 rfl (by omega); subst this; exact absurd hp (by decide))) | (cases a3; done)) | (cases a2; done))))
   |skip
  all_goals first
  |exact y2_0
  |exact y2_1
  |exact y2_2
  |fail
  done
 |fail) : p := h
end QIc3
namespace QIc1
theorem kA1 (h : p := by
 first
 |exact kFm
 |exact kH
 |fail) : p := h
theorem kB1 (h : p := by
 first
 |(refine MC_pure (i32 _) pE dM ?_; rintro _ rfl; exact kT1)
 |fail) : p := h
theorem y1_0 (h : p := by
 first
 |skip
  exact ⟨_, _, rfl, (Bv.missing).ev, fun _ => rfl, fun _ => ⟨_, .missing _ _ _, .missing⟩⟩
  done
 |fail) : p := h
theorem y1_1 (h : p := by
 first
 |skip
  refine ⟨_, _, rfl, (Bv.name ref).ev, fun h => ?_, fun _ => ⟨_, .name _ _ _, .name ref⟩⟩
  cases h with
  |mk _ _ _ _ h0 h3 h1 hi => simpa using h1 rfl
  done
 |fail) : p := h
theorem y1_2 (h : p := by
 first
 |skip
  have hB := l_items.1.len
  refine M_loop (fun n s' => ∃ (i : Nat) (v : PV) (ys : List (List PV)) (l : List Int) (so : Nat), i + n = (els items).length ∧ s'.t 2 = .ptr 2 2 0 ∧ s'.t 4 = .ptr 7004 so 0 ∧ s'.t 47 = items ∧ s'.t 48 = .int .i64 (els items).length ∧ s'.t 49 = .int .i64 i ∧
   s'.H 2 = some ⟨79, 2, [.nili, .int .i32 0], 0⟩ ∧ s'.H 7004 = some ⟨103, so, [v, .int .i32 0, .bool rest, .bool false], 0⟩ ∧ Grow [15010] s'.H 107 5 v ys ∧ Bns ((els items).take i) l ∧ Ba ys l ∧ ys.length = i) ?_ (n := (els items).length)
   ⟨0, _, [], [], _, by simp, z0, z0, z0, z0, z0, z0, z0, Grow.nil, by simpa using Bns.nil, .nil, rfl⟩
  rintro n ⟨t, H, k⟩ ⟨i, v, ys, l, so, hi, h2, h4, h47, h48, h49, e2, e7, hgw, hbn, hba, hyl⟩ next
  simp only at h2 h4 h47 h48 h49 e2 e7 hgw
  have hE := fun (n : Nat) (H' : Heap) (q1 : H' 15010 = H 15010) => (Grow.settleE (n := n) (hgw.frame (H' := H') (by intro b hb; simp only [List.mem_cons, List.not_mem_nil, or_false] at hb; rcases hb with rfl; exact q1)))
  obtain ⟨g1, g2, g3, g4⟩ := hgw.gv
  refine n1 (j h2 (j h4 (j h47 (j h48 (j h49 (j e2 e7)))))) ?_
  have nx : Hid _ := next
  clear next
  open QIc2 in exact Am2
  done
 |fail) : p := h
theorem y1_3 (h : p := by
 first
 |skip
  have hB := l_items.1.len
  refine M_loop (fun n s' => ∃ (i : Nat) (v : PV) (ys : List (List PV)) (l : List Int) (so : Nat), i + n = (els items).length ∧ s'.t 2 = .ptr 2 2 0 ∧ s'.t 11 = .ptr 19002 so 0 ∧ s'.t 93 = items ∧ s'.t 94 = .int .i64 (els items).length ∧ s'.t 95 = .int .i64 i ∧
   s'.H 2 = some ⟨79, 2, [.nili, .int .i32 0], 0⟩ ∧ s'.H 19002 = some ⟨111, so, [v, .int .i32 0, .bool false], 0⟩ ∧ Grow [28023] s'.H 113 11 v ys ∧ Bns ((els items).take i) l ∧ Bo ys l ∧ ys.length = i) ?_ (n := (els items).length)
   ⟨0, _, [], [], _, by simp, z0, z0, z0, z0, z0, z0, z0, Grow.nil, by simpa using Bns.nil, .nil, rfl⟩
  rintro n ⟨t, H, k⟩ ⟨i, v, ys, l, so, hi, h2, h4, h47, h48, h49, e2, e7, hgw, hbn, hba, hyl⟩ next
  simp only at h2 h4 h47 h48 h49 e2 e7 hgw
  have hE := fun (n : Nat) (H' : Heap) (q1 : H' 28023 = H 28023) => (Grow.settleE (n := n) (hgw.frame (H' := H') (by intro b hb; simp only [List.mem_cons, List.not_mem_nil, or_false] at hb; rcases hb with rfl; exact q1)))
  obtain ⟨g1, g2, g3, g4⟩ := hgw.gv
  refine n1 (j h2 (j h4 (j h47 (j h48 (j h49 (j e2 e7)))))) ?_
  have nx : Hid _ := next
  clear next
  open QIc3 in exact Am2
  done
 |fail) : p := h
theorem y1_4 (h : p := by
 first
 |skip
  refine ⟨_, _, rfl, ⟨_, _, rfl, .inl rfl, rfl⟩, fun h => ?_, fun h => by cases h⟩
  cases h with
  |mk _ _ _ _ h0 h3 h1 hi => omega
  done
 |fail) : p := h
theorem kZ1 (h : p := by
 first
 |skip
  all_goals first
  |exact y1_0
  |exact y1_1
  |exact y1_2
  |exact y1_3
  |exact y1_4
  |fail
  done
 |fail) : p := h
end QIc1
theorem i17 {m : Nat} {x : List PV} (h64 : ∀ {y}, EZ m y → Pure Tab X G 64 [.agg y] (EvR (OkE y))) (h17 : ∀ {y}, BZ m y → Pure Tab X G 17 [.agg y] (BvR y (OkB y))) (hx : BindC x) (hm : SizeOf.sizeOf x ≤ m) : Pure Tab X G 17 [.agg x] (BvR x (OkB x)) := by
 obtain ⟨kind, ref, items, rest, rfl, l_items⟩ := hx.open (hm)
 have := l_items.1; have := l_items.2.1
 refine Fn_of T17 (by simp) ?_
 refine nA ?_
 open QIc1 in exact Am1
end
end Go.Pi
end
section
open Go Go.Pi
namespace Go.Pi
variable {p q a : Prop}
inductive Bd : List (List PV) → List Int → Prop
 |nil : Bd [] []
 |cons (c0 c1 d0 d1 : PV) (cs : List (List PV)) (l ls : List Int) (h : Bv [c0, c1] l) (hs : Bd cs ls) : Bd ([c0, c1, d0, d1] :: cs) (l ++ ls)
theorem Bd.snoc {xs : List (List PV)} {l l2 : List Int} {c0 c1 d0 d1 : PV} (hb : Bv [c0, c1] l2) (h : Bd xs l) : Bd (xs ++ [[c0, c1, d0, d1]]) (l ++ l2) := by
 induction h with
 |nil => have := Bd.cons c0 c1 d0 d1 [] l2 [] hb .nil; simpa using this
 |cons _ _ _ _ _ l ls h hs ih => rw [List.cons_append, List.append_assoc]; exact .cons _ _ _ _ _ _ _ h ih
def BdR (ds : PV) (P : Prop) (r : PV) : Prop := ∃ v b, r = .tup [v, .bool b] ∧ Sls v ∧ deepB v = true ∧ (P → b = true) ∧ (b = true → ∃ l, Dns (els ds) l ∧ Bd (els v) l) ∧ (els v).length ≤ 1048576
section
variable {X : CallF} {G : Nat → PV}
namespace QId2
theorem kA2 (h : p := by
 first
 |exact kFm
 |exact kH
 |fail) : p := h
theorem kB2 (h : p := by
 first
 |(refine MC_pure (h17 (by assumption)) (by intro b g r h; cases h) (cA) ?_; rintro _ ⟨_, bb, rfl, ⟨d, z, rfl, hd, hdd⟩, hbP, hbv⟩; have hcd := cellsOf_iv hd; refine nA ?_) <;> exact Am2
 |(refine MC_pure (i18 (by assumption) h64) (by intro b g r h; cases h; exact (‹SlP _ (PV.ptr _ _ _)›).not_ptr) (cA) ?_; rintro _ ⟨_, be, rfl, ⟨d2, z2, rfl, hd2, hdd2⟩, heP⟩; have hcd2 := cellsOf_iv hd2; refine nA ?_) <;> exact Am2
 |fail) : p := h
theorem y2_0 (h : p := by
 first
 |skip
  refine ⟨_, _, rfl, .inl rfl, rfl, fun h => ?_, fun h => (by cases h), by simp [els]⟩
  have h := h _ hmem
  cases h with
  |mk _ _ _ _ _ q1 q2 q3 => simp [hbP q1] at hb
  done
 |fail) : p := h
theorem y2_1 (h : p := by
 first
 |skip
  refine M_app_slT (A := [9006]) (ys := ys) (zs := [[d, .int .i32 z, d2, .int .i32 z2]]) (ids := [9005]) (cA) (by refine nA ?_; exact hgw.frame (by intro b hb; simp only [List.mem_singleton] at hb; subst hb; exact c0)) (by simp) (by simp) (by intro y hy; simp only [List.mem_singleton] at hy; subst hy; exact ⟨rfl, by simp [deepL, deepB, hdd, hdd2]⟩) (by simp) (by simp only [List.length_cons, List.length_nil]; omega) (fun v' H' z' hgr hf => ?_)
  have hbb : bb = true := by simpa using hb
  clear hE hf
  simp only [push]
  refine nA ?_
  simp only [M_reg]
  refine nA ?_
  obtain ⟨l', hbn', hbv'⟩ := hbv hbb
  have hg' := hg
  simp only [Int.toNat_natCast] at hg'
  have next := nx
  unfold Hid at next
  refine next (n - 1) (by omega) _ ⟨i + 1, _, l ++ l', by omega, cA, cA, by refine nA ?_; rw [wrap_i64 (by omega) (by omega)]; first | rfl | (congr 1; omega), by refine nA ?_; exact hgr, ?_, hba.snoc hbv', by simp [hyl]⟩
  rw [List.take_add_one, hg']
  exact Dns.snoc hbn' hbn
  done
 |fail) : p := h
theorem y2_2 (h : p := by
 first
 |skip
  refine ⟨_, _, rfl, .inl rfl, rfl, fun h => ?_, fun h => (by cases h), by simp [els]⟩
  have h := h _ hmem
  cases h with
  |mk _ _ _ _ _ q1 q2 q3 => exact heP ⟨q2, q3⟩
  done
 |fail) : p := h
theorem y2_3 (h : p := by
 first
 |skip
  refine ⟨by simpa using fun h : 0 ∈ gi (t 4) => absurd (g4 0 h) (by simp), ?_⟩
  rw [List.take_of_length_le (by omega)] at hbn
  exact ⟨_, _, rfl, g1, g2, fun _ => rfl, fun _ => ⟨l, hbn, by rw [g3]; exact hba⟩, by rw [g3]; omega⟩
  done
 |fail) : p := h
theorem kZ2 (h : p := by
 first
 |skip
  all_goals first
  |exact y2_0
  |exact y2_1
  |exact y2_2
  |exact y2_3
  |fail
  done
 |fail) : p := h
end QId2
namespace QId1
theorem kA1 (h : p := by
 first
 |exact kFm
 |exact kH
 |fail) : p := h
theorem kZ1 (h : p := by
 first
 |skip
  refine M_loop (fun n s' => ∃ (i : Nat) (ys : List (List PV)) (l : List Int), i + n = (els v0).length ∧ s'.t 11 = v0 ∧ s'.t 12 = .int .i64 (els v0).length ∧ s'.t 13 = .int .i64 i ∧
    Grow [9006] s'.H 89 4 (s'.t 4) ys ∧ Dns ((els v0).take i) l ∧ Bd ys l ∧ ys.length = i) ?_ (n := (els v0).length)
    ⟨0, [], [], by simp, z0, z0, z0, by refine s0 ?_; exact Grow.nil, by simpa using Dns.nil, .nil, rfl⟩
  rintro n ⟨t, H, k⟩ ⟨i, ys, l, hi, h11, h12, h13, hgw, hbn, hba, hyl⟩ next
  simp only at h11 h12 h13 hgw
  have hE := fun (n : Nat) (H' : Heap) (q1 : H' 9006 = H 9006) => (Grow.settleE (n := n) (hgw.frame (H' := H') (by intro b hb; simp only [List.mem_cons, List.not_mem_nil, or_false] at hb; rcases hb with rfl; exact q1)))
  obtain ⟨g1, g2, g3, g4⟩ := hgw.gv
  refine n1 (j h11 (j h12 h13)) ?_
  have nx : Hid _ := next
  clear next
  open QId2 in exact Am2
  done
 |fail) : p := h
end QId1
theorem i10 {m : Nat} {v0 : PV} (lv : SlP (DZ m) v0) (h64 : ∀ {y}, EZ m y → Pure Tab X G 64 [.agg y] (EvR (OkE y))) (h17 : ∀ {y}, BZ m y → Pure Tab X G 17 [.agg y] (BvR y (OkB y))) : Pure Tab X G 10 [v0] (BdR v0 (∀ y, y ∈ els v0 → OkD y)) := by
 have hv := lv.1
 have hdv := lv.2.1
 have hB := lv.1.len
 refine Fn_of T10 (by simp) ?_
 refine n1 hv ?_
 open QId1 in exact Am1
end
end Go.Pi
end
section
open Go Go.Pi
namespace Go.Pi
variable {p q a : Prop}
def IvR (P : Prop) (r : PV) : Prop := ∃ d b, r = .tup [d, .bool b] ∧ Iv d ∧ deepB d = true ∧ (P → b = true)
theorem IvR.no {P : Prop} (h : ¬ P) : IvR P (.tup [.nili, .bool false]) := ⟨_, _, rfl, .inl rfl, rfl, fun p => absurd p h⟩
theorem IvR.yes {P : Prop} {t : Nat} {v : PV} (h : deepB v = true) : IvR P (.tup [.ifc t v, .bool true]) := ⟨_, _, rfl, .inr ⟨_, _, rfl⟩, h, fun _ => rfl⟩
def kOf : List PV → Int
 |.int _ k :: _ => k
 |_ => -1
theorem kOf_mk {i : IntKind} {k : Int} {l : List PV} : kOf (.int i k :: l) = k := rfl
theorem Grow.row0 {A : List Nat} {H : Heap} {e s id st : Nat} (hA : id ∈ A) (hH : H id = some ⟨e, st, [], s⟩) : Grow A H e s (.row id st 0) [] :=
 ⟨fun y hy => by simp at hy, .inr ⟨id, st, hA, rfl, by simp [hH]⟩⟩
section
variable {X : CallF} {G : Nat → PV}
namespace QIe1
theorem kA1 (h : p := by
 first
 |exact kFm
 |exact kH
 |fail) : p := h
theorem kB1 (h : p := by
 first
 |(refine MC_pure (i32 _) pE dM ?_; rintro _ rfl; exact kT1)
 |fail) : p := h
theorem y1_0 (h : p := by
 first
 |skip
  exact .inl trivial
  done
 |fail) : p := h
theorem y1_1 (h : p := by
 first
 |skip
  exact .inr ⟨by omega, _, rfl, rfl, rfl⟩
  done
 |fail) : p := h
theorem kZ1 (h : p := by
 first
 |skip
  all_goals first
  |exact y1_0
  |exact y1_1
  |fail
  done
 |fail) : p := h
end QIe1
theorem i145 (n : Int) : Pure Tab X G 145 [.int .i64 n] (fun r => r = .nilp ∧ n < 0 ∨ 0 ≤ n ∧ ∃ c, r = .fp c ∧ c.length = 3 ∧ deepL c = true) := by
 refine Fn_of T145 (by simp) ?_
 refine n0 ?_
 open QIe1 in exact Am1
namespace QIe2
theorem kA1 (h : p := by
 first
 |exact kFm
 |exact kH
 |fail) : p := h
theorem kZ1 (h : p := by
 first
 |skip
  exact ⟨_, rfl⟩
  done
 |fail) : p := h
end QIe2
theorem i112 {m : Nat} {x : List PV} (f : Int) (hx : ExprC x) (hm : SizeOf.sizeOf x ≤ m) : Pure Tab X G 112 [.agg x, .int .i64 f] (fun r => ∃ b, r = .bool b) := by
 obtain ⟨kind, op, ref, chain, flags, nn, str, text, kids, props, parts, fns, classes, rfl, hn, l_str, ht, l_kids, l_props, l_parts, l_fns, l_classes⟩ := hx.open (hm)
 have := l_str.1; have := l_str.2.1; have := l_kids.1; have := l_kids.2.1; have := l_props.1; have := l_props.2.1; have := l_parts.1; have := l_parts.2.1; have := l_fns.1; have := l_fns.2.1; have := l_classes.1; have := l_classes.2.1
 refine Fn_of T112 (by simp) ?_
 refine nA ?_
 open QIe2 in exact Am1
namespace QIe3
theorem kA1 (h : p := by
 first
 |exact kFm
 |exact kH
 |fail) : p := h
theorem kZ1 (h : p := by
 first
 |skip
  exact ⟨_, rfl, _, _, rfl, .inl rfl, rfl⟩
  done
 |fail) : p := h
end QIe3
namespace QIe4
theorem kA1 (h : p := by
 first
 |exact kFm
 |exact kH
 |fail) : p := h
theorem kZ1 (h : p := by
 first
 |skip
  exact ⟨_, rfl, _, _, rfl, .inl rfl, rfl⟩
  done
 |fail) : p := h
end QIe4
namespace QIe5
theorem kA1 (h : p := by
 first
 |exact kFm
 |exact kH
 |fail) : p := h
theorem kZ1 (h : p := by
 first
 |skip
  exact ⟨_, rfl, _, _, rfl, .inr ⟨_, _, rfl⟩, hdd⟩
  done
 |fail) : p := h
end QIe5
theorem i173 {x : List PV} (hx : Ev x) : Pure Tab X G 173 [.agg x] (fun r => ∃ c, r = .agg c ∧ Ev c) := by
 obtain ⟨d, z, rfl, hd, hdd⟩ := hx
 have hcd := cellsOf_iv hd
 refine Fn_of T173 (by simp) ?_
 rcases hd with rfl | ⟨u, v, rfl⟩
 ·refine nA ?_
  open QIe3 in exact Am1
 ·by_cases hu : u = 260
  ·subst hu
   refine nA ?_
   open QIe4 in exact Am1
  ·have hsd := fun (n : Nat) (H : Heap) => settle_deep (n := n) (H := H) hdd
   refine nA ?_
   open QIe5 in exact Am1
namespace QIe7
theorem kA2 (h : p := by
 first
 |exact kFm
 |exact kH
 |fail) : p := h
theorem kB2 (h : p := by
 first
 |(refine MC_pure (i112 _ hxx (Nat.le_refl _)) pE dM ?_; rintro _ ⟨c, rfl⟩; exact kT2)
 |fail) : p := h
theorem kZ2 (h : p := by
 first
 |skip
  exact ⟨by simp only [List.all_eq_true]; intro y hy; have := hzz y hy; simp at this ⊢; omega, by simpa using fun h : 0 ∈ gi v' => absurd (g4 0 h) (by simp), IvR.yes (by rw [List.nil_append] at g2; simp [deepB, deepL, g2])⟩
  done
 |fail) : p := h
end QIe7
namespace QIe6
theorem kA1 (h : p := by
 first
 |((exact IvR.yes (by first | rfl | (simp only [deepB, deepL, deepLL, Bool.and_true, Bool.true_and, *]; done)))) <;> exact Am1
 |((exact IvR.no (by simp only [kOf_mk]; omega))) <;> exact Am1
 |exact kH
 |fail) : p := h
theorem kB1 (h : p := by
 first
 |(refine MC_pure (i32 _) pE dM ?_; rintro _ rfl; exact kT1)
 |(refine MC_pure (i112 _ hxx (Nat.le_refl _)) pE dM ?_; rintro _ ⟨c, rfl⟩; exact kT1)
 |fail) : p := h
theorem y1_0 (h : p := by
 first
 |skip
  refine M_apps (A := [11001, 11004]) (ys := []) (r := str) (c0) (l_str.1.imp id (fun ⟨xs, h, _⟩ => ⟨xs, h⟩)) l_str.2.1 (fun c hc => by obtain ⟨n, rfl, _⟩ := l_str.2.2 c hc; rfl) (by refine nA ?_; exact Grow.row0 (by simp) (c0)) (by simp) (by have := l_str.1.len; simp only [List.length_nil]; omega) (fun v' H' tr' hgr hf htr hz => ?_)
  obtain ⟨zz, rfl, hzz⟩ := hz _ _ rfl
  have e1 := hf 1 (by simp)
  simp only [go_sem, Nat.reduceEqDiff, Nat.reduceAdd, Nat.reduceLeDiff, Nat.reduceLT, Nat.reduceMul, Nat.reduceSub, reduceIte, reduceCtorEq, Int.reduceEq, Int.reduceLT, Int.reduceLE, Nat.reduceBEq, Int.reduceToNat, M_block] at e1
  have hcv := cellsOf_grow hgr
  have hE := fun (n : Nat) (H'' : Heap) (q1 : H'' 11001 = H' 11001) (q2 : H'' 11004 = H' 11004) => (Grow.settleE (n := n) (hgr.frame (H' := H'') (by intro b hb; simp only [List.mem_cons, List.not_mem_nil, or_false] at hb; rcases hb with rfl | rfl <;> assumption)))
  obtain ⟨g1, g2, g3, g4⟩ := hgr.gv
  refine nA ?_
  open QIe7 in exact Am2
  done
 |fail) : p := h
theorem kZ1 (h : p := by
 first
 |skip
  all_goals first
  |exact y1_0
  |fail
  done
 |fail) : p := h
end QIe6
theorem i89 {m : Nat} {x : List PV} (hx : ExprC x) (hm : SizeOf.sizeOf x ≤ m) : Pure Tab X G 89 [.agg x] (IvR ((kOf x ≤ 9 ∨ kOf x = 21 ∨ kOf x = 22 ∨ kOf x = 25 ∨ kOf x = 26) ∧ 0 ≤ kOf x)) := by
 obtain ⟨kind, op, ref, chain, flags, nn, str, text, kids, props, parts, fns, classes, rfl, hn, l_str, ht, l_kids, l_props, l_parts, l_fns, l_classes⟩ := hx.open (hm)
 have hxx : ExprC [PV.int .i64 kind, .int .i64 op, .int .i64 ref, .int .i64 chain, .int .i64 flags, .flt .f64 nn, str, .str text, kids, props, parts, fns, classes] := hx
 have := l_str.1; have := l_str.2.1; have := l_kids.1; have := l_kids.2.1; have := l_props.1; have := l_props.2.1; have := l_parts.1; have := l_parts.2.1; have := l_fns.1; have := l_fns.2.1; have := l_classes.1; have := l_classes.2.1
 refine Fn_of T89 (by simp) ?_
 refine nA ?_
 open QIe6 in exact Am1
end
end Go.Pi
end
section
open Go Go.Pi
namespace Go.Pi
variable {p q a : Prop}
theorem EvsR.slp {n : Nat} {v : PV} (h1 : Sls v) (h2 : deepB v = true) (h3 : ∀ c, c ∈ els v → Ev c) (h4 : (els v).length ≤ n) (h5 : n ≤ 1048576) : SlP Ev v :=
 ⟨h1.imp id (fun ⟨xs, h⟩ => ⟨xs, h, by subst h; simp only [els] at h4; omega⟩), h2, h3⟩
section
variable {X : CallF} {G : Nat → PV}
namespace QIf1
theorem kA1 (h : p := by
 first
 |((exact IvR.yes (by first | rfl | (simp only [deepB, deepL, deepLL, Bool.and_true, Bool.true_and, *]; done)))) <;> exact Am1
 |((exact IvR.no (by simp only [kOf_mk]; omega))) <;> exact Am1
 |exact kH
 |fail) : p := h
theorem kB1 (h : p := by
 first
 |(refine MC_pure (i112 _ hxx (Nat.le_refl _)) pE dM ?_; rintro _ ⟨c, rfl⟩; exact kT1)
 |(refine MIX_S (P := Ev) Ev.len lv (by omega) (by omega) (fun y hy hmem hg => ?_); obtain ⟨d, z, rfl, hd, hdd⟩ := hy; have hcd := cellsOf_iv hd; have hsd := fun (n : Nat) (H : Heap) => settle_deep (n := n) (H := H) hdd; refine nA ?_) <;> exact Am1
 |fail) : p := h
end QIf1
theorem i90 {m : Nat} {x : List PV} {v : PV} (hx : ExprC x) (hm : SizeOf.sizeOf x ≤ m) (lv : SlP Ev v) : Pure Tab X G 90 [.agg x, v] (IvR ((kOf x = 10 ∨ kOf x = 13) ∧ (els v).length = 1 ∨ kOf x = 14 ∧ (els v).length = 2 ∨ kOf x = 15 ∧ (els v).length = 3)) := by
 obtain ⟨kind, op, ref, chain, flags, nn, str, text, kids, props, parts, fns, classes, rfl, hn, l_str, ht, l_kids, l_props, l_parts, l_fns, l_classes⟩ := hx.open (hm)
 have hxx : ExprC [PV.int .i64 kind, .int .i64 op, .int .i64 ref, .int .i64 chain, .int .i64 flags, .flt .f64 nn, str, .str text, kids, props, parts, fns, classes] := hx
 have := l_str.1; have := l_str.2.1; have := l_kids.1; have := l_kids.2.1; have := l_props.1; have := l_props.2.1; have := l_parts.1; have := l_parts.2.1; have := l_fns.1; have := l_fns.2.1; have := l_classes.1; have := l_classes.2.1
 have hvl := lv.1
 have hvd := lv.2.1
 have hB := lv.1.len
 refine Fn_of T90 (by simp) ?_
 refine nA ?_
 open QIf1 in exact Am1
namespace QIf2
theorem kA1 (h : p := by
 first
 |((exact IvR.yes (by first | rfl | (simp only [deepB, deepL, deepLL, Bool.and_true, Bool.true_and, *]; done)))) <;> exact Am1
 |((exact IvR.no (by simp only [kOf_mk]; omega))) <;> exact Am1
 |exact kH
 |fail) : p := h
theorem kB1 (h : p := by
 first
 |(refine MC_pure (i112 _ hxx (Nat.le_refl _)) pE dM ?_; rintro _ ⟨c, rfl⟩; exact kT1)
 |(refine MIX_S (P := Ev) Ev.len lv (by omega) (by omega) (fun y hy hmem hg => ?_); obtain ⟨d, z, rfl, hd, hdd⟩ := hy; have hcd := cellsOf_iv hd; have hsd := fun (n : Nat) (H : Heap) => settle_deep (n := n) (H := H) hdd; refine nA ?_) <;> exact Am1
 |(refine MSSL_S (P := Ev) Ev.len lv (by omega) (by omega) (fun v2 hv2 hg2 => ?_); have hv2l := hv2.1; have hv2d := hv2.2.1; have hs2 := fun (n : Nat) (H : Heap) => settle_deep (n := n) (H := H) hv2d; have hc2 := cellsOf_sls (hv2l.imp id fun ⟨xs, h, _⟩ => ⟨xs, h⟩); refine nA ?_) <;> exact Am1
 |fail) : p := h
end QIf2
theorem i91 {m : Nat} {x : List PV} {v : PV} (hx : ExprC x) (hm : SizeOf.sizeOf x ≤ m) (lv : SlP Ev v) : Pure Tab X G 91 [.agg x, v] (IvR (kOf x = 16 ∧ (els v).length = 1 ∨ kOf x = 17 ∧ (els v).length = 2 ∨ (kOf x = 18 ∨ kOf x = 19) ∧ 1 ≤ (els v).length)) := by
 obtain ⟨kind, op, ref, chain, flags, nn, str, text, kids, props, parts, fns, classes, rfl, hn, l_str, ht, l_kids, l_props, l_parts, l_fns, l_classes⟩ := hx.open (hm)
 have hxx : ExprC [PV.int .i64 kind, .int .i64 op, .int .i64 ref, .int .i64 chain, .int .i64 flags, .flt .f64 nn, str, .str text, kids, props, parts, fns, classes] := hx
 have := l_str.1; have := l_str.2.1; have := l_kids.1; have := l_kids.2.1; have := l_props.1; have := l_props.2.1; have := l_parts.1; have := l_parts.2.1; have := l_fns.1; have := l_fns.2.1; have := l_classes.1; have := l_classes.2.1
 have hvl := lv.1
 have hvd := lv.2.1
 have hB := lv.1.len
 refine Fn_of T91 (by simp) ?_
 refine nA ?_
 open QIf2 in exact Am1
end
end Go.Pi
end
section
open Go Go.Pi
namespace Go.Pi
variable {p q a : Prop}
def LsR (n : Nat) (P : Prop) (r : PV) : Prop := ∃ v b, r = .tup [v, .bool b] ∧ Sls v ∧ deepB v = true ∧ (els v).length ≤ n ∧ (P → b = true)
def Blk (d : PV) : Prop := ∀ v, d = .ifc 425 v → ∃ s z, v = .fp [s, .int .i32 z] ∧ Sls s
def Sv (c : List PV) : Prop := ∃ d, c = [d, .int .i32 0] ∧ Iv d ∧ deepB d = true ∧ Blk d
theorem Sv.len {c : List PV} (h : Sv c) : c.length = 2 := by obtain ⟨d, rfl, _⟩ := h; rfl
theorem Sv.deep {c : List PV} (h : Sv c) : deepL c = true := by obtain ⟨d, rfl, _, h, _⟩ := h; simp [deepL, deepB, h]
def IsB (c : List PV) : Prop := ∃ v l, c = .ifc 425 v :: l
def StR (k : Int) (P : Prop) (r : PV) : Prop := ∃ d b, r = .tup [d, .bool b] ∧ Iv d ∧ deepB d = true ∧ Blk d ∧ (P → b = true) ∧ (b = true → k = 7 → ∃ v, d = .ifc 425 v)
def SvsR (v0 : PV) (P : Prop) (r : PV) : Prop := ∃ v b, r = .tup [v, .bool b] ∧ Sls v ∧ deepB v = true ∧ (∀ c, c ∈ els v → Sv c) ∧ (els v).length ≤ (els v0).length ∧ (b = true → (els v).length = (els v0).length ∧ ((∀ y, y ∈ els v0 → kOf y = 7) → ∀ c, c ∈ els v → IsB c)) ∧ (P → b = true)
section
variable {X : CallF} {G : Nat → PV}
namespace QIg2
theorem kA2 (h : p := by
 first
 |((refine ⟨_, _, rfl, .inl rfl, rfl, by simp [els], fun hP => ?_⟩; have h := hP _ hmem; cases h with | mk _ _ _ _ _ q1 q2 q3 => (have a1 := hbP q1; have a2 := heP ⟨q2, q3⟩; first | (cases a1; done) | (cases a2; done) | (subst a1; contradiction) | (subst a1; cases hb)))) <;> exact Am2
 |exact kH
 |fail) : p := h
theorem kB2 (h : p := by
 first
 |(refine MC_pure (h17 (by assumption)) (by intro b g r h; cases h) (cA) ?_; rintro _ ⟨_, bb, rfl, ⟨d, z, rfl, hd, hdd⟩, hbP, hbv⟩; have hcd := cellsOf_iv hd; refine nA ?_) <;> exact Am2
 |(refine MC_pure (i18 (by assumption) h64) (by intro b g r h; cases h; exact (‹SlP _ (PV.ptr _ _ _)›).not_ptr) (cA) ?_; rintro _ ⟨_, be, rfl, ⟨d2, z2, rfl, hd2, hdd2⟩, heP⟩; have hcd2 := cellsOf_iv hd2; refine nA ?_) <;> exact Am2
 |fail) : p := h
theorem y2_0 (h : p := by
 first
 |skip
  refine M_app_slT (A := [9006]) (ys := ys) (zs := [[d, .int .i32 z, d2, .int .i32 z2, .nils, .bool false]]) (ids := [9005]) (cA) (by refine nA ?_; exact hgw.frame (by intro b hb; simp only [List.mem_singleton] at hb; subst hb; exact c0)) (by simp) (by simp) (by intro y hy; simp only [List.mem_singleton] at hy; subst hy; exact ⟨rfl, by simp [deepL, deepB, *]⟩) (by simp) (by simp only [List.length_cons, List.length_nil]; omega) (fun v' H' z' hgr hf => ?_)
  clear hE hf
  simp only [push]
  refine nA ?_
  simp only [M_reg]
  refine nA ?_
  have next := nx
  unfold Hid at next
  exact next (n - 1) (by omega) _ ⟨i + 1, _, by omega, cA, cA, by refine nA ?_; rw [wrap_i64 (by omega) (by omega)]; first | rfl | (congr 1; omega), by refine nA ?_; exact hgr, by simp [hyl]⟩
  done
 |fail) : p := h
theorem y2_1 (h : p := by
 first
 |skip
  refine ⟨by simpa using fun h : 0 ∈ gi (t 4) => absurd (g4 0 h) (by simp), ?_⟩
  exact ⟨_, _, rfl, g1, g2, by rw [g3]; omega, fun _ => rfl⟩
  done
 |fail) : p := h
theorem kZ2 (h : p := by
 first
 |skip
  all_goals first
  |exact y2_0
  |exact y2_1
  |fail
  done
 |fail) : p := h
end QIg2
namespace QIg1
theorem kA1 (h : p := by
 first
 |exact kFm
 |exact kH
 |fail) : p := h
theorem kZ1 (h : p := by
 first
 |skip
  refine M_loop (fun n s' => ∃ (i : Nat) (ys : List (List PV)), i + n = (els v0).length ∧ s'.t 11 = v0 ∧ s'.t 12 = .int .i64 (els v0).length ∧ s'.t 13 = .int .i64 i ∧ Grow [9006] s'.H 368 6 (s'.t 4) ys ∧ ys.length = i) ?_ (n := (els v0).length)
        ⟨0, [], by simp, z0, z0, z0, by refine s0 ?_; exact Grow.nil, rfl⟩
  rintro n ⟨t, H, k⟩ ⟨i, ys, hi, h11, h12, h13, hgw, hyl⟩ next
  simp only at h11 h12 h13 hgw
  have hE := fun (n : Nat) (H' : Heap) (q1 : H' 9006 = H 9006) => (Grow.settleE (n := n) (hgw.frame (H' := H') (by intro b hb; simp only [List.mem_cons, List.not_mem_nil, or_false] at hb; rcases hb with rfl; exact q1)))
  obtain ⟨g1, g2, g3, g4⟩ := hgw.gv
  refine n1 (j h11 (j h12 h13)) ?_
  have nx : Hid _ := next
  clear next
  open QIg2 in exact Am2
  done
 |fail) : p := h
end QIg1
theorem i146 {m : Nat} {v0 : PV} (lv : SlP (AZ m) v0) (h64 : ∀ {y}, EZ m y → Pure Tab X G 64 [.agg y] (EvR (OkE y))) (h17 : ∀ {y}, BZ m y → Pure Tab X G 17 [.agg y] (BvR y (OkB y))) : Pure Tab X G 146 [v0] (LsR (els v0).length (∀ y, y ∈ els v0 → OkA y)) := by
 have hv := lv.1
 have hdv := lv.2.1
 have hB := lv.1.len
 refine Fn_of T146 (by simp) ?_
 refine n1 hv ?_
 open QIg1 in exact Am1
namespace QIg4
theorem kA2 (h : p := by
 first
 |((refine ⟨_, _, rfl, .inl rfl, rfl, by simp [els], fun hP => ?_⟩; have h := hP _ hmem; cases h with | mk _ _ _ _ q1 q2 q3 q4 => (have a1 := hPlk q3; have a2 := hPlw q4; first | (cases a1; done) | (cases a2; done) | (subst a1; contradiction) | (subst a2; contradiction) | omega))) <;> exact Am2
 |exact kH
 |fail) : p := h
theorem kB2 (h : p := by
 first
 |(refine MC_pure (i33 yl_key h64) (by intro b g r h; cases h; exact (‹SlP _ (PV.ptr _ _ _)›).not_ptr) (cA) ?_; rintro _ ⟨rlk, bk, rfl, hSlk, hDlk, hElk, hl1lk, hl2lk, hPlk⟩; have lk := EvsR.slp hSlk hDlk hElk hl1lk (yl_key.1.len); have hIlk := lk.1; have hcslk := cellsOf_sls hSlk; refine nA ?_) <;> exact Am2
 |(refine MC_pure (i33 yl_value h64) (by intro b g r h; cases h; exact (‹SlP _ (PV.ptr _ _ _)›).not_ptr) (cA) ?_; rintro _ ⟨rlw, bw, rfl, hSlw, hDlw, hElw, hl1lw, hl2lw, hPlw⟩; have lw := EvsR.slp hSlw hDlw hElw hl1lw (yl_value.1.len); have hIlw := lw.1; have hcslw := cellsOf_sls hSlw; refine nA ?_) <;> exact Am2
 |(refine MIX_S (P := Ev) Ev.len lk (by omega) (by omega) (fun y hy hmem2 hg2 => ?_); obtain ⟨ddlk, zzlk, rfl, hdilk, hdddlk⟩ := hy; have hcdlk := cellsOf_iv hdilk; refine nA ?_) <;> exact Am2
 |(refine MIX_S (P := Ev) Ev.len lw (by omega) (by omega) (fun y hy hmem2 hg2 => ?_); obtain ⟨ddlw, zzlw, rfl, hdilw, hdddlw⟩ := hy; have hcdlw := cellsOf_iv hdilw; refine nA ?_) <;> exact Am2
 |fail) : p := h
theorem y2_0 (h : p := by
 first
 |skip
  refine M_app_slT (A := [14004]) (ys := ys) (zs := [[_, _, _, _, _, _, _, _, _, _, _, _]]) (ids := [14003]) (cA) (by refine nA ?_; exact hgw.frame (by intro b hb; simp only [List.mem_singleton] at hb; subst hb; exact c0)) (by simp) (by simp) (by intro y hy; simp only [List.mem_singleton] at hy; subst hy; exact ⟨rfl, by simp [deepL, deepB, *]⟩) (by simp) (by simp only [List.length_cons, List.length_nil]; omega) (fun v' H' z' hgr hf => ?_)
  clear hE hf
  simp only [push]
  refine nA ?_
  simp only [M_reg]
  refine nA ?_
  have next := nx
  unfold Hid at next
  exact next (n - 1) (by omega) _ ⟨i + 1, _, by omega, cA, cA, by refine nA ?_; rw [wrap_i64 (by omega) (by omega)]; first | rfl | (congr 1; omega), by refine nA ?_; exact hgr, by simp [hyl]⟩
  done
 |fail) : p := h
theorem y2_1 (h : p := by
 first
 |skip
  refine M_app_slT (A := [14004]) (ys := ys) (zs := [[_, _, _, _, _, _, _, _, _, _, _, _]]) (ids := [14003]) (cA) (by refine nA ?_; exact hgw.frame (by intro b hb; simp only [List.mem_singleton] at hb; subst hb; exact c0)) (by simp) (by simp) (by intro y hy; simp only [List.mem_singleton] at hy; subst hy; exact ⟨rfl, by simp [deepL, deepB, *]⟩) (by simp) (by simp only [List.length_cons, List.length_nil]; omega) (fun v' H' z' hgr hf => ?_)
  clear hE hf
  simp only [push]
  refine nA ?_
  simp only [M_reg]
  refine nA ?_
  have next := nx
  unfold Hid at next
  exact next (n - 1) (by omega) _ ⟨i + 1, _, by omega, cA, cA, by refine nA ?_; rw [wrap_i64 (by omega) (by omega)]; first | rfl | (congr 1; omega), by refine nA ?_; exact hgr, by simp [hyl]⟩
  done
 |fail) : p := h
theorem y2_2 (h : p := by
 first
 |skip
  refine M_app_slT (A := [14004]) (ys := ys) (zs := [[_, _, _, _, _, _, _, _, _, _, _, _]]) (ids := [14003]) (cA) (by refine nA ?_; exact hgw.frame (by intro b hb; simp only [List.mem_singleton] at hb; subst hb; exact c0)) (by simp) (by simp) (by intro y hy; simp only [List.mem_singleton] at hy; subst hy; exact ⟨rfl, by simp [deepL, deepB, *]⟩) (by simp) (by simp only [List.length_cons, List.length_nil]; omega) (fun v' H' z' hgr hf => ?_)
  clear hE hf
  simp only [push]
  refine nA ?_
  simp only [M_reg]
  refine nA ?_
  have next := nx
  unfold Hid at next
  exact next (n - 1) (by omega) _ ⟨i + 1, _, by omega, cA, cA, by refine nA ?_; rw [wrap_i64 (by omega) (by omega)]; first | rfl | (congr 1; omega), by refine nA ?_; exact hgr, by simp [hyl]⟩
  done
 |fail) : p := h
theorem y2_3 (h : p := by
 first
 |skip
  refine M_app_slT (A := [14004]) (ys := ys) (zs := [[_, _, _, _, _, _, _, _, _, _, _, _]]) (ids := [14003]) (cA) (by refine nA ?_; exact hgw.frame (by intro b hb; simp only [List.mem_singleton] at hb; subst hb; exact c0)) (by simp) (by simp) (by intro y hy; simp only [List.mem_singleton] at hy; subst hy; exact ⟨rfl, by simp [deepL, deepB, *]⟩) (by simp) (by simp only [List.length_cons, List.length_nil]; omega) (fun v' H' z' hgr hf => ?_)
  clear hE hf
  simp only [push]
  refine nA ?_
  simp only [M_reg]
  refine nA ?_
  have next := nx
  unfold Hid at next
  exact next (n - 1) (by omega) _ ⟨i + 1, _, by omega, cA, cA, by refine nA ?_; rw [wrap_i64 (by omega) (by omega)]; first | rfl | (congr 1; omega), by refine nA ?_; exact hgr, by simp [hyl]⟩
  done
 |fail) : p := h
theorem y2_4 (h : p := by
 first
 |skip
  refine ⟨by simpa using fun h : 0 ∈ gi (t 4) => absurd (g4 0 h) (by simp), ?_⟩
  exact ⟨_, _, rfl, g1, g2, by rw [g3]; omega, fun _ => rfl⟩
  done
 |fail) : p := h
theorem kZ2 (h : p := by
 first
 |skip
  all_goals first
  |exact y2_0
  |exact y2_1
  |exact y2_2
  |exact y2_3
  |exact y2_4
  |fail
  done
 |fail) : p := h
end QIg4
namespace QIg3
theorem kA1 (h : p := by
 first
 |exact kFm
 |exact kH
 |fail) : p := h
theorem kZ1 (h : p := by
 first
 |skip
  refine M_loop (fun n s' => ∃ (i : Nat) (ys : List (List PV)), i + n = (els v0).length ∧ s'.t 12 = v0 ∧ s'.t 13 = .int .i64 (els v0).length ∧ s'.t 14 = .int .i64 i ∧ Grow [14004] s'.H 344 12 (s'.t 4) ys ∧ ys.length = i) ?_ (n := (els v0).length)
        ⟨0, [], by simp, z0, z0, z0, by refine s0 ?_; exact Grow.nil, rfl⟩
  rintro n ⟨t, H, k⟩ ⟨i, ys, hi, h11, h12, h13, hgw, hyl⟩ next
  simp only at h11 h12 h13 hgw
  have hE := fun (n : Nat) (H' : Heap) (q1 : H' 14004 = H 14004) => (Grow.settleE (n := n) (hgw.frame (H' := H') (by intro b hb; simp only [List.mem_cons, List.not_mem_nil, or_false] at hb; rcases hb with rfl; exact q1)))
  obtain ⟨g1, g2, g3, g4⟩ := hgw.gv
  refine n1 (j h11 (j h12 h13)) ?_
  have nx : Hid _ := next
  clear next
  open QIg4 in exact Am2
  done
 |fail) : p := h
end QIg3
theorem i116 {m : Nat} {v0 : PV} (lv : SlP (PZ m) v0) (h64 : ∀ {y}, EZ m y → Pure Tab X G 64 [.agg y] (EvR (OkE y))) : Pure Tab X G 116 [v0] (LsR (els v0).length (∀ y, y ∈ els v0 → OkP y)) := by
 have hv := lv.1
 have hdv := lv.2.1
 have hB := lv.1.len
 refine Fn_of T116 (by simp) ?_
 refine n1 hv ?_
 open QIg3 in exact Am1
namespace QIg6
theorem kA2 (h : p := by
 first
 |((refine ⟨_, _, rfl, .inl rfl, rfl, by simp [els], fun hP => ?_⟩; have h := hP _ hmem; cases h with | mk _ _ _ q1 q2 => (have a1 := hPlk q2; first | (cases a1; done) | (subst a1; contradiction) | (have a2 := hl2lk a1; omega)))) <;> exact Am2
 |exact kH
 |fail) : p := h
theorem kB2 (h : p := by
 first
 |(refine MC_pure (i33 yl_value h64) (by intro b g r h; cases h; exact (‹SlP _ (PV.ptr _ _ _)›).not_ptr) (cA) ?_; rintro _ ⟨rlk, bk, rfl, hSlk, hDlk, hElk, hl1lk, hl2lk, hPlk⟩; have lk := EvsR.slp hSlk hDlk hElk hl1lk (yl_value.1.len); have hIlk := lk.1; have hcslk := cellsOf_sls hSlk; refine nA ?_) <;> exact Am2
 |(refine MIX_S (P := Ev) Ev.len lk (by omega) (by omega) (fun y hy hmem2 hg2 => ?_); obtain ⟨ddlk, zzlk, rfl, hdilk, hdddlk⟩ := hy; have hcdlk := cellsOf_iv hdilk; refine nA ?_) <;> exact Am2
 |fail) : p := h
theorem y2_0 (h : p := by
 first
 |skip
  refine M_apps (A := [8007, 8010]) (ys := []) (r := ystr) (c0) (yl_str.1.imp id (fun ⟨xs, h, _⟩ => ⟨xs, h⟩)) yl_str.2.1 (fun c hc => by obtain ⟨n, rfl, _⟩ := yl_str.2.2 c hc; rfl) (by refine nA ?_; exact Grow.row0 (by simp) (c0)) (by simp) (by have := yl_str.1.len; simp only [List.length_nil]; omega) (fun v' H' tr' hgr hf htr hz => ?_)
  obtain ⟨zz, rfl, hzz⟩ := hz _ _ rfl
  have e13 := hf 8013 (by simp)
  simp only [go_sem, Nat.reduceEqDiff, Nat.reduceAdd, Nat.reduceLeDiff, Nat.reduceLT, Nat.reduceMul, Nat.reduceSub, reduceIte, reduceCtorEq, Int.reduceEq, Int.reduceLT, Int.reduceLE, Nat.reduceBEq, Int.reduceToNat, M_block] at e13
  have hcv := cellsOf_grow hgr
  have hE2 := fun (n : Nat) (H'' : Heap) (q1 : H'' 8007 = H' 8007) (q2 : H'' 8010 = H' 8010) => (Grow.settleE (n := n) (hgr.frame (H' := H'') (by intro b hb; simp only [List.mem_cons, List.not_mem_nil, or_false] at hb; rcases hb with rfl | rfl <;> assumption)))
  obtain ⟨k1, k2, k3, k4⟩ := hgr.gv
  rw [List.nil_append] at k2 k3
  clear hE
  refine nA ?_
  refine M_app_slT (A := [8013]) (ys := ys) (zs := [[ddlk, .int .i32 zzlk, .str ytext, gv v' (els ystr), .int .i32 0]]) (ids := 8012 :: gi v') (cA) (by refine nA ?_; exact hgw.frame (by intro b hb; simp only [List.mem_singleton] at hb; subst hb; refine n0 ?_; exact e13)) (by simp) (by intro b hb h2; simp only [List.mem_singleton] at h2; subst h2; rcases List.mem_cons.1 hb with hb | hb <;> first | exact absurd hb (by decide) | (have := k4 _ hb; simp at this)) (by intro y hy; simp only [List.mem_singleton] at hy; subst hy; exact ⟨rfl, by simp [deepL, deepB, *]⟩) (by simp) (by simp only [List.length_cons, List.length_nil]; omega) (fun v2 H2 z2 hgr2 hf2 => ?_)
  clear hE2 hf hf2
  simp only [push]
  refine nA ?_
  refine ⟨by simp only [Bool.not_eq_true', List.contains_eq_mem, decide_eq_false_iff_not]; intro h; have := hzz _ h; simp at this, ?_⟩
  simp only [M_reg]
  refine nA ?_
  have next := nx
  unfold Hid at next
  exact next (n - 1) (by omega) _ ⟨i + 1, _, by omega, cA, cA, by refine nA ?_; rw [wrap_i64 (by omega) (by omega)]; first | rfl | (congr 1; omega), by refine nA ?_; exact hgr2, by simp [hyl]⟩
  done
 |fail) : p := h
theorem y2_1 (h : p := by
 first
 |skip
  refine ⟨by simpa using fun h : 0 ∈ gi (t 4) => absurd (g4 0 h) (by simp), ?_⟩
  exact ⟨_, _, rfl, g1, g2, by rw [g3]; omega, fun _ => rfl⟩
  done
 |fail) : p := h
theorem kZ2 (h : p := by
 first
 |skip
  all_goals first
  |exact y2_0
  |exact y2_1
  |fail
  done
 |fail) : p := h
end QIg6
namespace QIg5
theorem kA1 (h : p := by
 first
 |exact kFm
 |exact kH
 |fail) : p := h
theorem kZ1 (h : p := by
 first
 |skip
  refine M_loop (fun n s' => ∃ (i : Nat) (ys : List (List PV)), i + n = (els v0).length ∧ s'.t 9 = v0 ∧ s'.t 10 = .int .i64 (els v0).length ∧ s'.t 11 = .int .i64 i ∧ Grow [8013] s'.H 346 5 (s'.t 4) ys ∧ ys.length = i) ?_ (n := (els v0).length)
        ⟨0, [], by simp, z0, z0, z0, by refine s0 ?_; exact Grow.nil, rfl⟩
  rintro n ⟨t, H, k⟩ ⟨i, ys, hi, h11, h12, h13, hgw, hyl⟩ next
  simp only at h11 h12 h13 hgw
  have hE := fun (n : Nat) (H' : Heap) (q1 : H' 8013 = H 8013) => (Grow.settleE (n := n) (hgw.frame (H' := H') (by intro b hb; simp only [List.mem_cons, List.not_mem_nil, or_false] at hb; rcases hb with rfl; exact q1)))
  obtain ⟨g1, g2, g3, g4⟩ := hgw.gv
  refine n1 (j h11 (j h12 h13)) ?_
  have nx : Hid _ := next
  clear next
  open QIg6 in exact Am2
  done
 |fail) : p := h
end QIg5
theorem i117 {m : Nat} {v0 : PV} (lv : SlP (QZ m) v0) (h64 : ∀ {y}, EZ m y → Pure Tab X G 64 [.agg y] (EvR (OkE y))) : Pure Tab X G 117 [v0] (LsR (els v0).length (∀ y, y ∈ els v0 → OkQ y)) := by
 have hv := lv.1
 have hdv := lv.2.1
 have hB := lv.1.len
 refine Fn_of T117 (by simp) ?_
 refine n1 hv ?_
 open QIg5 in exact Am1
namespace QIg8
theorem kA2 (h : p := by
 first
 |((refine ⟨_, _, rfl, .inl rfl, rfl, by simp [els], by simp [els], fun h => (by cases h), fun hP => ?_⟩; have a1 := hbP (hP _ hmem); first | (cases a1; done) | (subst a1; contradiction))) <;> exact Am2
 |exact kH
 |fail) : p := h
theorem kB2 (h : p := by
 first
 |(refine MC_pure (h166 (by assumption)) (by intro b g r h; cases h) (cA) ?_; rintro _ ⟨dd, bb, rfl, hdi, hdd, hbl, hbP, hbB⟩; have hcd := cellsOf_iv hdi; refine nA ?_) <;> exact Am2
 |fail) : p := h
theorem y2_0 (h : p := by
 first
 |skip
  refine M_app_slT (A := [8005]) (ys := ys) (zs := [[dd, .int .i32 0]]) (ids := [8004]) (cA) (by refine nA ?_; exact hgw.frame (by intro b hb; simp only [List.mem_singleton] at hb; subst hb; exact c0)) (by simp) (by simp) (by intro y hy; simp only [List.mem_singleton] at hy; subst hy; exact ⟨rfl, by simp [deepL, deepB, *]⟩) (by simp) (by simp only [List.length_cons, List.length_nil]; omega) (fun v' H' z' hgr hf => ?_)
  clear hE hf
  simp only [push]
  refine nA ?_
  simp only [M_reg]
  refine nA ?_
  have next := nx
  unfold Hid at next
  refine next (n - 1) (by omega) _ ⟨i + 1, _, by omega, cA, cA, by refine nA ?_; rw [wrap_i64 (by omega) (by omega)]; first | rfl | (congr 1; omega), by refine nA ?_; exact hgr, by simp [hyl], ?_, ?_⟩
  ·intro c hc
   rcases List.mem_append.1 hc with hc | hc
   ·exact hys c hc
   ·simp only [List.mem_singleton] at hc; subst hc; exact ⟨_, rfl, hdi, hdd, hbl⟩
  ·intro h7 c hc
   rcases List.mem_append.1 hc with hc | hc
   ·exact hyb h7 c hc
   ·simp only [List.mem_singleton] at hc; subst hc
    obtain ⟨v, rfl⟩ := hbB rfl (h7 _ hmem)
    exact ⟨_, _, rfl⟩
  done
 |fail) : p := h
theorem y2_1 (h : p := by
 first
 |skip
  refine ⟨by simpa using fun h : 0 ∈ gi (t 4) => absurd (g4 0 h) (by simp), ?_⟩
  exact ⟨_, _, rfl, g1, g2, by rw [g3]; exact hys, by rw [g3]; omega, fun _ => ⟨by rw [g3]; omega, by rw [g3]; exact hyb⟩, fun _ => rfl⟩
  done
 |fail) : p := h
theorem kZ2 (h : p := by
 first
 |skip
  all_goals first
  |exact y2_0
  |exact y2_1
  |fail
  done
 |fail) : p := h
end QIg8
namespace QIg7
theorem kA1 (h : p := by
 first
 |exact kFm
 |exact kH
 |fail) : p := h
theorem kZ1 (h : p := by
 first
 |skip
  refine M_loop (fun n s' => ∃ (i : Nat) (ys : List (List PV)), i + n = (els v0).length ∧ s'.t 9 = v0 ∧ s'.t 10 = .int .i64 (els v0).length ∧ s'.t 11 = .int .i64 i ∧ Grow [8005] s'.H 374 2 (s'.t 4) ys ∧ ys.length = i ∧ (∀ c, c ∈ ys → Sv c) ∧ ((∀ y, y ∈ els v0 → kOf y = 7) → ∀ c, c ∈ ys → IsB c)) ?_ (n := (els v0).length)
    ⟨0, [], by simp, z0, z0, z0, by refine s0 ?_; exact Grow.nil, rfl, by simp, by simp⟩
  rintro n ⟨t, H, k⟩ ⟨i, ys, hi, h11, h12, h13, hgw, hyl, hys, hyb⟩ next
  simp only at h11 h12 h13 hgw
  have hE := fun (n : Nat) (H' : Heap) (q1 : H' 8005 = H 8005) => (Grow.settleE (n := n) (hgw.frame (H' := H') (by intro b hb; simp only [List.mem_cons, List.not_mem_nil, or_false] at hb; rcases hb with rfl; exact q1)))
  obtain ⟨g1, g2, g3, g4⟩ := hgw.gv
  refine n1 (j h11 (j h12 h13)) ?_
  have nx : Hid _ := next
  clear next
  open QIg8 in exact Am2
  done
 |fail) : p := h
end QIg7
theorem i147 {m : Nat} {v0 : PV} (lv : SlP (SZ m) v0) (h166 : ∀ {y}, SZ m y → Pure Tab X G 166 [.agg y] (StR (kOf y) (OkS y))) : Pure Tab X G 147 [v0] (SvsR v0 (∀ y, y ∈ els v0 → OkS y)) := by
 have hv := lv.1
 have hdv := lv.2.1
 have hB := lv.1.len
 refine Fn_of T147 (by simp) ?_
 refine n1 hv ?_
 open QIg7 in exact Am1
namespace QIg10
theorem kA2 (h : p := by
 first
 |((refine ⟨_, _, rfl, .inl rfl, rfl, by simp [els], fun hP => ?_⟩; have h := hP _ hmem; cases h with | mk _ _ _ _ _ _ q1 q2 q3 q4 q5 q6 q7 q8 => (have a1 := hPk ⟨q1, q5⟩; have a2 := hPw ⟨q2, q6⟩; have a3 := hPj ⟨q3, q7⟩; first | (cases a1; done) | (cases a2; done) | (cases a3; done) | (subst a1; contradiction) | (subst a2; contradiction) | (subst a3; contradiction) | (have a4 := q4 (by assumption); omega) | (have a5 := hPs (q8 (by first | rfl | assumption)); first | (cases a5; done) | (subst a5; contradiction))))) <;> exact Am2
 |exact kH
 |fail) : p := h
theorem kB2 (h : p := by
 first
 |(refine MC_pure (i18 yl_key h64) (by intro b g r h; cases h; exact (‹SlP _ (PV.ptr _ _ _)›).not_ptr) (cA) ?_; rintro _ ⟨_, bk, rfl, ⟨dk, zk, rfl, hdk, hddk⟩, hPk⟩; have hcdk := cellsOf_iv hdk; refine nA ?_) <;> exact Am2
 |(refine MC_pure (i18 yl_value h64) (by intro b g r h; cases h; exact (‹SlP _ (PV.ptr _ _ _)›).not_ptr) (cA) ?_; rintro _ ⟨_, bw, rfl, ⟨dw, zw, rfl, hdw, hddw⟩, hPw⟩; have hcdw := cellsOf_iv hdw; refine nA ?_) <;> exact Am2
 |(refine MC_pure (i18 yl_init h64) (by intro b g r h; cases h; exact (‹SlP _ (PV.ptr _ _ _)›).not_ptr) (cA) ?_; rintro _ ⟨_, bj, rfl, ⟨dj, zj, rfl, hdj, hddj⟩, hPj⟩; have hcdj := cellsOf_iv hdj; refine nA ?_) <;> exact Am2
 |(refine MC_pure (h147 ‹SlP (SZ _) _›) (by intro b g r h; cases h; exact (‹SlP _ (PV.ptr _ _ _)›).not_ptr) (cA) ?_; rintro _ ⟨rs, bs2, rfl, hSs, hDs, hEs, hls, hls2, hPs⟩; have hcss := cellsOf_sls hSs; have hsds := fun (n : Nat) (H : Heap) => settle_deep (n := n) (H := H) hDs; refine nA ?_) <;> exact Am2
 |fail) : p := h
theorem y2_0 (h : p := by
 first
 |skip
  refine M_app_slT (A := [16004]) (ys := ys) (zs := [[_, _, _, _, _, _, _, _, _, _, _, _]]) (ids := [16003, 15004]) (cA) (by refine nA ?_; exact hgw.frame (by intro b hb; simp only [List.mem_singleton] at hb; subst hb; exact c0)) (by simp) (by simp) (by intro y hy; simp only [List.mem_singleton] at hy; subst hy; exact ⟨rfl, by simp [deepL, deepB, *]⟩) (by simp) (by simp only [List.length_cons, List.length_nil]; omega) (fun v' H' z' hgr hf => ?_)
  clear hE hf
  simp only [push]
  refine nA ?_
  simp only [M_reg]
  refine nA ?_
  have next := nx
  unfold Hid at next
  exact next (n - 1) (by omega) _ ⟨i + 1, _, by omega, cA, cA, by refine nA ?_; rw [wrap_i64 (by omega) (by omega)]; first | rfl | (congr 1; omega), by refine nA ?_; exact hgr, by simp [hyl]⟩
  done
 |fail) : p := h
theorem y2_1 (h : p := by
 first
 |skip
  refine M_app_slT (A := [16004]) (ys := ys) (zs := [[_, _, _, _, _, _, _, _, _, _, _, _]]) (ids := [16003, 15004]) (cA) (by refine nA ?_; exact hgw.frame (by intro b hb; simp only [List.mem_singleton] at hb; subst hb; exact c0)) (by simp) (by simp) (by intro y hy; simp only [List.mem_singleton] at hy; subst hy; exact ⟨rfl, by simp [deepL, deepB, *]⟩) (by simp) (by simp only [List.length_cons, List.length_nil]; omega) (fun v' H' z' hgr hf => ?_)
  clear hE hf
  simp only [push]
  refine nA ?_
  simp only [M_reg]
  refine nA ?_
  have next := nx
  unfold Hid at next
  exact next (n - 1) (by omega) _ ⟨i + 1, _, by omega, cA, cA, by refine nA ?_; rw [wrap_i64 (by omega) (by omega)]; first | rfl | (congr 1; omega), by refine nA ?_; exact hgr, by simp [hyl]⟩
  done
 |fail) : p := h
theorem y2_2 (h : p := by
 first
 |skip
  refine M_app_slT (A := [16004]) (ys := ys) (zs := [[_, _, _, _, _, _, _, _, _, _, _, _]]) (ids := [16003]) (cA) (by refine nA ?_; exact hgw.frame (by intro b hb; simp only [List.mem_singleton] at hb; subst hb; exact c0)) (by simp) (by simp) (by intro y hy; simp only [List.mem_singleton] at hy; subst hy; exact ⟨rfl, by simp [deepL, deepB, *]⟩) (by simp) (by simp only [List.length_cons, List.length_nil]; omega) (fun v' H' z' hgr hf => ?_)
  clear hE hf
  simp only [push]
  refine nA ?_
  simp only [M_reg]
  refine nA ?_
  have next := nx
  unfold Hid at next
  exact next (n - 1) (by omega) _ ⟨i + 1, _, by omega, cA, cA, by refine nA ?_; rw [wrap_i64 (by omega) (by omega)]; first | rfl | (congr 1; omega), by refine nA ?_; exact hgr, by simp [hyl]⟩
  done
 |fail) : p := h
theorem y2_3 (h : p := by
 first
 |skip
  refine ⟨by simpa using fun h : 0 ∈ gi (t 4) => absurd (g4 0 h) (by simp), ?_⟩
  exact ⟨_, _, rfl, g1, g2, by rw [g3]; omega, fun _ => rfl⟩
  done
 |fail) : p := h
theorem kZ2 (h : p := by
 first
 |skip
  all_goals first
  |exact y2_0
  |exact y2_1
  |exact y2_2
  |exact y2_3
  |fail
  done
 |fail) : p := h
end QIg10
namespace QIg9
theorem kA1 (h : p := by
 first
 |exact kFm
 |exact kH
 |fail) : p := h
theorem kZ1 (h : p := by
 first
 |skip
  refine M_loop (fun n s' => ∃ (i : Nat) (ys : List (List PV)), i + n = (els v0).length ∧ s'.t 16 = v0 ∧ s'.t 17 = .int .i64 (els v0).length ∧ s'.t 18 = .int .i64 i ∧ Grow [16004] s'.H 344 12 (s'.t 4) ys ∧ ys.length = i) ?_ (n := (els v0).length)
        ⟨0, [], by simp, z0, z0, z0, by refine s0 ?_; exact Grow.nil, rfl⟩
  rintro n ⟨t, H, k⟩ ⟨i, ys, hi, h11, h12, h13, hgw, hyl⟩ next
  simp only at h11 h12 h13 hgw
  have hE := fun (n : Nat) (H' : Heap) (q1 : H' 16004 = H 16004) => (Grow.settleE (n := n) (hgw.frame (H' := H') (by intro b hb; simp only [List.mem_cons, List.not_mem_nil, or_false] at hb; rcases hb with rfl; exact q1)))
  obtain ⟨g1, g2, g3, g4⟩ := hgw.gv
  refine n1 (j h11 (j h12 h13)) ?_
  have nx : Hid _ := next
  clear next
  open QIg10 in exact Am2
  done
 |fail) : p := h
end QIg9
theorem i144 {m : Nat} {v0 : PV} (lv : SlP (MZ m) v0) (h64 : ∀ {y}, EZ m y → Pure Tab X G 64 [.agg y] (EvR (OkE y))) (h147 : ∀ {v1}, SlP (SZ m) v1 → Pure Tab X G 147 [v1] (SvsR v1 (∀ y, y ∈ els v1 → OkS y))) : Pure Tab X G 144 [v0] (LsR (els v0).length (∀ y, y ∈ els v0 → OkM y)) := by
 have hv := lv.1
 have hdv := lv.2.1
 have hB := lv.1.len
 refine Fn_of T144 (by simp) ?_
 refine n1 hv ?_
 open QIg9 in exact Am1
end
end Go.Pi
end
section
open Go Go.Pi
namespace Go.Pi
variable {p q a : Prop}
def Nm (n : Int) (r : PV) : Prop := r = .nilp ∧ n < 0 ∨ 0 ≤ n ∧ ∃ c, r = .fp c ∧ c.length = 3 ∧ deepL c = true
theorem Nm.cells {n : Int} {r : PV} (h : Nm n r) : cellsOf r = some [r] := by rcases h with ⟨rfl, _⟩ | ⟨_, c, rfl, _⟩ <;> rfl
theorem Nm.deep {n : Int} {r : PV} (h : Nm n r) : deepB r = true := by
 rcases h with ⟨rfl, _⟩ | ⟨_, c, rfl, _, h⟩
 ·rfl
 ·simpa [deepB] using h
def ClR (k : Int) (P : Prop) (r : PV) : Prop := ∃ nm d z ps b, r = .tup [.agg [.nils, nm, d, .int .i32 z, ps, .int .i32 0, .int .i32 0, .int .i32 0, .int .i32 0, .bool false, .bool true], .bool b] ∧ Nm k nm ∧ Iv d ∧ deepB d = true ∧ Sls ps ∧ deepB ps = true ∧ (P → b = true)
def FnR (k : Int) (P : Prop) (r : PV) : Prop := ∃ nm ar bd r1 r2 b1 b2 b3 b4 b5 b, r = .tup [.agg [nm, ar, bd, .int .i32 0, .int .i32 0, .int .u32 r1, .int .u32 r2, .int .i32 0, .bool b1, .bool b2, .bool b3, .bool b4, .bool b5, .bool false], .bool b] ∧ cellsOf nm = some [nm] ∧ deepB nm = true ∧ Sls ar ∧ deepB ar = true ∧ Sls bd ∧ deepB bd = true ∧ (P → b = true) ∧ (b = true → Nm k nm)
section
variable {X : CallF} {G : Nat → PV}
namespace QIh1
theorem kA1 (h : p := by
 first
 |exact kFm
 |exact kH
 |fail) : p := h
theorem kB1 (h : p := by
 first
 |(refine MC_pure (i18 l_ext h64) (by intro b g r h; cases h; exact (‹SlP _ (PV.ptr _ _ _)›).not_ptr) (cA) ?_; rintro _ ⟨_, bk, rfl, ⟨dk, zk, rfl, hdk, hddk⟩, hPk⟩; have hcdk := cellsOf_iv hdk; have hsdk := fun (n : Nat) (H : Heap) => settle_deep (n := n) (H := H) hddk; refine nA ?_) <;> exact Am1
 |(refine MC_pure (h144 l_members) (by intro b g r h; cases h; exact (‹SlP _ (PV.ptr _ _ _)›).not_ptr) (cA) ?_; rintro _ ⟨rm, bm, rfl, hSm, hDm, hLm, hPm⟩; have hcsm := cellsOf_sls hSm; have hsdm := fun (n : Nat) (H : Heap) => settle_deep (n := n) (H := H) hDm; refine nA ?_) <;> exact Am1
 |(refine MC_pure (i145 _) (by intro b g r h; cases h) (cA) ?_; rintro nm hnm; have hcnm := Nm.cells hnm; have hdnm := Nm.deep hnm; have hsnm := fun (n : Nat) (H : Heap) => settle_deep (n := n) (H := H) hdnm; refine nA ?_) <;> exact Am1
 |fail) : p := h
theorem y1_0 (h : p := by
 first
 |skip
  refine ⟨_, _, _, _, _, rfl, hnm, hdk, hddk, hSm, hDm, fun h => ?_⟩
  cases h with
  |mk _ _ _ q1 q2 q3 => exact hPm q3
  done
 |fail) : p := h
theorem y1_1 (h : p := by
 first
 |skip
  refine ⟨_, _, _, _, _, rfl, hnm, hdk, hddk, hSm, hDm, fun h => ?_⟩
  cases h with
  |mk _ _ _ q1 q2 q3 => exact hPk ⟨q1, q2⟩
  done
 |fail) : p := h
theorem kZ1 (h : p := by
 first
 |skip
  all_goals first
  |exact y1_0
  |exact y1_1
  |fail
  done
 |fail) : p := h
end QIh1
theorem i113 {m : Nat} {x : List PV} (h64 : ∀ {y}, EZ m y → Pure Tab X G 64 [.agg y] (EvR (OkE y))) (h144 : ∀ {v1}, SlP (MZ m) v1 → Pure Tab X G 144 [v1] (LsR (els v1).length (∀ y, y ∈ els v1 → OkM y))) (hx : ClassC x) (hm : SizeOf.sizeOf x ≤ m) : Pure Tab X G 113 [.agg x] (ClR (kOf x) (OkC x)) := by
 obtain ⟨name, ext, members, rfl, l_ext, l_members⟩ := hx.open (hm)
 have := l_ext.1; have := l_ext.2.1; have := l_members.1; have := l_members.2.1
 refine Fn_of T113 (by simp) ?_
 refine nA ?_
 open QIh1 in exact Am1
namespace QIh2
theorem kA1 (h : p := by
 first
 |exact kFm
 |exact kH
 |fail) : p := h
theorem kB1 (h : p := by
 first
 |(refine MC_pure (h146 l_args) (by intro b g r h; cases h; exact (‹SlP _ (PV.ptr _ _ _)›).not_ptr) (cA) ?_; rintro _ ⟨ra, ba, rfl, hSa, hDa, hLa, hPa⟩; have hcsa := cellsOf_sls hSa; have hsda := fun (n : Nat) (H : Heap) => settle_deep (n := n) (H := H) hDa; refine nA ?_) <;> exact Am1
 |(refine MC_pure (h147 ‹SlP (SZ _) _›) (by intro b g r h; cases h; exact (‹SlP _ (PV.ptr _ _ _)›).not_ptr) (cA) ?_; rintro _ ⟨rs, bs, rfl, hSs, hDs, hEs, hLs, hL2s, hPs⟩; have hcss := cellsOf_sls hSs; have hsds := fun (n : Nat) (H : Heap) => settle_deep (n := n) (H := H) hDs; refine nA ?_) <;> exact Am1
 |(refine MC_pure (i145 _) (by intro b g r h; cases h) (cA) ?_; rintro nm hnm; have hcnm := Nm.cells hnm; have hdnm := Nm.deep hnm; have hsnm := fun (n : Nat) (H : Heap) => settle_deep (n := n) (H := H) hdnm; refine nA ?_) <;> exact Am1
 |fail) : p := h
theorem y1_0 (h : p := by
 first
 |skip
  refine ⟨_, _, _, _, _, _, _, _, _, _, _, rfl, rfl, rfl, .inl rfl, rfl, .inl rfl, rfl, fun h => ?_, fun h => (by cases h)⟩
  cases h with
  |mk _ _ _ _ q1 q2 =>
   have := hPa q1
   subst this
   cases hb
  done
 |fail) : p := h
theorem y1_1 (h : p := by
 first
 |skip
  exact ⟨_, _, _, _, _, _, _, _, _, _, _, rfl, hcnm, hdnm, hSa, hDa, hSs, hDs, fun _ => rfl, fun _ => hnm⟩
  done
 |fail) : p := h
theorem y1_2 (h : p := by
 first
 |skip
  refine ⟨_, _, _, _, _, _, _, _, _, _, _, rfl, rfl, rfl, .inl rfl, rfl, .inl rfl, rfl, fun h => ?_, fun h => (by cases h)⟩
  cases h with
  |mk _ _ _ _ q1 q2 => exact hPs q2
  done
 |fail) : p := h
theorem kZ1 (h : p := by
 first
 |skip
  all_goals first
  |exact y1_0
  |exact y1_1
  |exact y1_2
  |fail
  done
 |fail) : p := h
end QIh2
theorem i114 {m : Nat} {x : List PV} {ga gb : Int} (hG : G 1 = .fp [.int .u32 ga, .int .u32 gb]) (h147 : ∀ {v1}, SlP (SZ m) v1 → Pure Tab X G 147 [v1] (SvsR v1 (∀ y, y ∈ els v1 → OkS y))) (h146 : ∀ {v1}, SlP (AZ m) v1 → Pure Tab X G 146 [v1] (LsR (els v1).length (∀ y, y ∈ els v1 → OkA y))) (hx : FuncC x) (hm : SizeOf.sizeOf x ≤ m) : Pure Tab X G 114 [.agg x] (FnR (kOf x) (OkF x)) := by
 obtain ⟨name, flags, args, body, rfl, l_args, l_body⟩ := hx.open (hm)
 have := l_args.1; have := l_args.2.1; have := l_body.1; have := l_body.2.1
 refine Fn_of T114 (by simp) ?_
 refine nA ?_
 open QIh2 in exact Am1
namespace QIh3
theorem kA1 (h : p := by
 first
 |((exact IvR.yes (by first | rfl | (simp only [deepB, deepL, deepLL, Bool.and_true, Bool.true_and, *]; done)))) <;> exact Am1
 |((exact IvR.no id)) <;> exact Am1
 |exact kH
 |fail) : p := h
theorem kB1 (h : p := by
 first
 |(refine MC_pure (h146 l_args) (by intro b g r h; cases h; exact (‹SlP _ (PV.ptr _ _ _)›).not_ptr) (cA) ?_; rintro _ ⟨ra, ba, rfl, hSa, hDa, hLa, hPa⟩; have hcsa := cellsOf_sls hSa; have hsda := fun (n : Nat) (H : Heap) => settle_deep (n := n) (H := H) hDa; refine nA ?_) <;> exact Am1
 |(refine MC_pure (h147 ‹SlP (SZ _) _›) (by intro b g r h; cases h; exact (‹SlP _ (PV.ptr _ _ _)›).not_ptr) (cA) ?_; rintro _ ⟨rs, bs, rfl, hSs, hDs, hEs, hLs, hL2s, hPs⟩; have hcss := cellsOf_sls hSs; have hsds := fun (n : Nat) (H : Heap) => settle_deep (n := n) (H := H) hDs; refine nA ?_) <;> exact Am1
 |fail) : p := h
end QIh3
theorem i115 {m : Nat} {x : List PV} (h147 : ∀ {v1}, SlP (SZ m) v1 → Pure Tab X G 147 [v1] (SvsR v1 (∀ y, y ∈ els v1 → OkS y))) (h146 : ∀ {v1}, SlP (AZ m) v1 → Pure Tab X G 146 [v1] (LsR (els v1).length (∀ y, y ∈ els v1 → OkA y))) (hx : FuncC x) (hm : SizeOf.sizeOf x ≤ m) : Pure Tab X G 115 [.agg x] (IvR False) := by
 obtain ⟨name, flags, args, body, rfl, l_args, l_body⟩ := hx.open (hm)
 have := l_args.1; have := l_args.2.1; have := l_body.1; have := l_body.2.1
 refine Fn_of T115 (by simp) ?_
 refine nA ?_
 open QIh3 in exact Am1
end
end Go.Pi
end
