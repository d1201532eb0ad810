import Derived.Test.YtpnkedaceaodbaaGreatDoorP01
import Derived.Test.YtpnkedaceaodbaaGreatDoorP08
/- Part of the proof. -/
set_option linter.all false
section
namespace Go.Pi
def SlP (P : List PV → Prop) (v : PV) : Prop := IsSl v ∧ deepB v = true ∧ ∀ y, y ∈ els v → P y
def EZ (m : Nat) (y : List PV) : Prop := ExprC y ∧ SizeOf.sizeOf y < m
def PZ (m : Nat) (y : List PV) : Prop := PropC y ∧ SizeOf.sizeOf y < m
def QZ (m : Nat) (y : List PV) : Prop := PartC y ∧ SizeOf.sizeOf y < m
def BZ (m : Nat) (y : List PV) : Prop := BindC y ∧ SizeOf.sizeOf y < m
def IZ (m : Nat) (y : List PV) : Prop := ItemC y ∧ SizeOf.sizeOf y < m
def AZ (m : Nat) (y : List PV) : Prop := ArgC y ∧ SizeOf.sizeOf y < m
def FZ (m : Nat) (y : List PV) : Prop := FuncC y ∧ SizeOf.sizeOf y < m
def MZ (m : Nat) (y : List PV) : Prop := MemberC y ∧ SizeOf.sizeOf y < m
def CZ (m : Nat) (y : List PV) : Prop := ClassC y ∧ SizeOf.sizeOf y < m
def DZ (m : Nat) (y : List PV) : Prop := DeclC y ∧ SizeOf.sizeOf y < m
def KZ (m : Nat) (y : List PV) : Prop := CaseC y ∧ SizeOf.sizeOf y < m
def SZ (m : Nat) (y : List PV) : Prop := StmtC y ∧ SizeOf.sizeOf y < m
theorem EZ.len {m : Nat} {y : List PV} (h : EZ m y) : y.length = 13 := h.1.len
theorem PZ.len {m : Nat} {y : List PV} (h : PZ m y) : y.length = 4 := h.1.len
theorem QZ.len {m : Nat} {y : List PV} (h : QZ m y) : y.length = 3 := h.1.len
theorem BZ.len {m : Nat} {y : List PV} (h : BZ m y) : y.length = 4 := h.1.len
theorem IZ.len {m : Nat} {y : List PV} (h : IZ m y) : y.length = 7 := h.1.len
theorem AZ.len {m : Nat} {y : List PV} (h : AZ m y) : y.length = 5 := h.1.len
theorem FZ.len {m : Nat} {y : List PV} (h : FZ m y) : y.length = 4 := h.1.len
theorem MZ.len {m : Nat} {y : List PV} (h : MZ m y) : y.length = 6 := h.1.len
theorem CZ.len {m : Nat} {y : List PV} (h : CZ m y) : y.length = 3 := h.1.len
theorem DZ.len {m : Nat} {y : List PV} (h : DZ m y) : y.length = 5 := h.1.len
theorem KZ.len {m : Nat} {y : List PV} (h : KZ m y) : y.length = 2 := h.1.len
theorem SZ.len {m : Nat} {y : List PV} (h : SZ m y) : y.length = 11 := h.1.len
theorem EZ.le {m : Nat} {y : List PV} (h : EZ m y) : SizeOf.sizeOf y ≤ m := Nat.le_of_lt h.2
theorem PZ.le {m : Nat} {y : List PV} (h : PZ m y) : SizeOf.sizeOf y ≤ m := Nat.le_of_lt h.2
theorem QZ.le {m : Nat} {y : List PV} (h : QZ m y) : SizeOf.sizeOf y ≤ m := Nat.le_of_lt h.2
theorem BZ.le {m : Nat} {y : List PV} (h : BZ m y) : SizeOf.sizeOf y ≤ m := Nat.le_of_lt h.2
theorem IZ.le {m : Nat} {y : List PV} (h : IZ m y) : SizeOf.sizeOf y ≤ m := Nat.le_of_lt h.2
theorem AZ.le {m : Nat} {y : List PV} (h : AZ m y) : SizeOf.sizeOf y ≤ m := Nat.le_of_lt h.2
theorem FZ.le {m : Nat} {y : List PV} (h : FZ m y) : SizeOf.sizeOf y ≤ m := Nat.le_of_lt h.2
theorem MZ.le {m : Nat} {y : List PV} (h : MZ m y) : SizeOf.sizeOf y ≤ m := Nat.le_of_lt h.2
theorem CZ.le {m : Nat} {y : List PV} (h : CZ m y) : SizeOf.sizeOf y ≤ m := Nat.le_of_lt h.2
theorem DZ.le {m : Nat} {y : List PV} (h : DZ m y) : SizeOf.sizeOf y ≤ m := Nat.le_of_lt h.2
theorem KZ.le {m : Nat} {y : List PV} (h : KZ m y) : SizeOf.sizeOf y ≤ m := Nat.le_of_lt h.2
theorem SZ.le {m : Nat} {y : List PV} (h : SZ m y) : SizeOf.sizeOf y ≤ m := Nat.le_of_lt h.2
theorem SlP.of {P C : List PV → Prop} {m : Nat} {x : List PV} {v : PV} (hv : v ∈ x) (hm : SizeOf.sizeOf x ≤ m) (l : IsSl v) (hd : deepL x = true) (h : ∀ y, y ∈ els v → C y) (hP : ∀ y, C y → SizeOf.sizeOf y < m → P y) : SlP P v :=
 ⟨l, deepL_mem hd v hv, fun y hy => hP y (h y hy) (Nat.lt_of_lt_of_le (els_lt hv hy) hm)⟩
theorem ExprC.open {m : Nat} {x : List PV} (hx : ExprC x) (hz : SizeOf.sizeOf x ≤ m) : ∃ (kind : Int) (op : Int) (ref : Int) (chain : Int) (flags : Int) (nn : Nat) (str : PV) (text : ByteArray) (kids : PV) (props : PV) (parts : PV) (fns : PV) (classes : PV), x = [.int .i64 kind, .int .i64 op, .int .i64 ref, .int .i64 chain, .int .i64 flags, .flt .f64 nn, str, .str text, kids, props, parts, fns, classes] ∧ nn < 18446744073709551616 ∧ SlP (fun y => ∃ n : Int, y = [.int .u16 n] ∧ 0 ≤ n ∧ n < 65536) str ∧ text.size ≤ 1048576 ∧ SlP (EZ m) kids ∧ SlP (PZ m) props ∧ SlP (QZ m) parts ∧ SlP (FZ m) fns ∧ SlP (CZ m) classes := by
 obtain ⟨kind, op, ref, chain, flags, num, str, text, kids, props, parts, fns, classes, hn, hs, ht, lk, hk, lp, hp, lq, hq, lf, hf, lc, hc, hd⟩ := hx
 obtain ⟨nn, rfl, hn⟩ := hn
 exact ⟨kind, op, ref, chain, flags, nn, str, text, kids, props, parts, fns, classes, rfl, hn, SlP.of (by simp) hz hs.1 hd hs.2 (fun y h _ => h), ht, SlP.of (by simp) hz lk hd hk (fun y a b => ⟨a, b⟩), SlP.of (by simp) hz lp hd hp (fun y a b => ⟨a, b⟩), SlP.of (by simp) hz lq hd hq (fun y a b => ⟨a, b⟩), SlP.of (by simp) hz lf hd hf (fun y a b => ⟨a, b⟩), SlP.of (by simp) hz lc hd hc (fun y a b => ⟨a, b⟩)⟩
theorem PropC.open {m : Nat} {x : List PV} (hx : PropC x) (hz : SizeOf.sizeOf x ≤ m) : ∃ (kind : Int) (flags : Int) (key : PV) (value : PV), x = [.int .i64 kind, .int .i64 flags, key, value] ∧ SlP (EZ m) key ∧ SlP (EZ m) value := by
 obtain ⟨kind, flags, key, value, lk, hk, lv, hv, hd⟩ := hx
 exact ⟨kind, flags, key, value, rfl, SlP.of (by simp) hz lk hd hk (fun y a b => ⟨a, b⟩), SlP.of (by simp) hz lv hd hv (fun y a b => ⟨a, b⟩)⟩
theorem PartC.open {m : Nat} {x : List PV} (hx : PartC x) (hz : SizeOf.sizeOf x ≤ m) : ∃ (value : PV) (str : PV) (text : ByteArray), x = [value, str, .str text] ∧ SlP (EZ m) value ∧ SlP (fun y => ∃ n : Int, y = [.int .u16 n] ∧ 0 ≤ n ∧ n < 65536) str ∧ text.size ≤ 1048576 := by
 obtain ⟨value, str, text, lv, hv, hs, ht, hd⟩ := hx
 exact ⟨value, str, text, rfl, SlP.of (by simp) hz lv hd hv (fun y a b => ⟨a, b⟩), SlP.of (by simp) hz hs.1 hd hs.2 (fun y h _ => h), ht⟩
theorem BindC.open {m : Nat} {x : List PV} (hx : BindC x) (hz : SizeOf.sizeOf x ≤ m) : ∃ (kind : Int) (ref : Int) (items : PV) (rest : Bool), x = [.int .i64 kind, .int .i64 ref, items, .bool rest] ∧ SlP (IZ m) items := by
 obtain ⟨kind, ref, items, rest, li, hi, hd⟩ := hx
 exact ⟨kind, ref, items, rest, rfl, SlP.of (by simp) hz li hd hi (fun y a b => ⟨a, b⟩)⟩
theorem ItemC.open {m : Nat} {x : List PV} (hx : ItemC x) (hz : SizeOf.sizeOf x ≤ m) : ∃ (flags : Int) (key : PV) (dflt : PV) (bkind : Int) (bref : Int) (bitems : PV) (brest : Bool), x = [.int .i64 flags, key, dflt, .int .i64 bkind, .int .i64 bref, bitems, .bool brest] ∧ SlP (EZ m) key ∧ SlP (EZ m) dflt ∧ BZ m [.int .i64 bkind, .int .i64 bref, bitems, .bool brest] ∧ SlP (IZ m) bitems := by
 obtain ⟨flags, key, dflt, b0, b1, b2, b3, lk, hk, ld, hdf, hb, hd⟩ := hx
 have hbz : SizeOf.sizeOf [b0, b1, b2, b3] < m := Nat.lt_of_lt_of_le (by simp; omega) hz
 have hbc := hb
 obtain ⟨bkind, bref, bitems, brest, hbe, hbs⟩ := hb.open (Nat.le_of_lt hbz)
 cases hbe
 exact ⟨flags, key, dflt, bkind, bref, _, brest, rfl, SlP.of (by simp) hz lk hd hk (fun y a b => ⟨a, b⟩), SlP.of (by simp) hz ld hd hdf (fun y a b => ⟨a, b⟩), ⟨hbc, hbz⟩, hbs⟩
theorem ArgC.open {m : Nat} {x : List PV} (hx : ArgC x) (hz : SizeOf.sizeOf x ≤ m) : ∃ (bkind : Int) (bref : Int) (bitems : PV) (brest : Bool) (dflt : PV), x = [.int .i64 bkind, .int .i64 bref, bitems, .bool brest, dflt] ∧ BZ m [.int .i64 bkind, .int .i64 bref, bitems, .bool brest] ∧ SlP (IZ m) bitems ∧ SlP (EZ m) dflt := by
 obtain ⟨b0, b1, b2, b3, dflt, hb, ld, hdf, hd⟩ := hx
 have hbz : SizeOf.sizeOf [b0, b1, b2, b3] < m := Nat.lt_of_lt_of_le (by simp; omega) hz
 have hbc := hb
 obtain ⟨bkind, bref, bitems, brest, hbe, hbs⟩ := hb.open (Nat.le_of_lt hbz)
 cases hbe
 exact ⟨bkind, bref, _, brest, dflt, rfl, ⟨hbc, hbz⟩, hbs, SlP.of (by simp) hz ld hd hdf (fun y a b => ⟨a, b⟩)⟩
theorem FuncC.open {m : Nat} {x : List PV} (hx : FuncC x) (hz : SizeOf.sizeOf x ≤ m) : ∃ (name : Int) (flags : Int) (args : PV) (body : PV), x = [.int .i64 name, .int .i64 flags, args, body] ∧ SlP (AZ m) args ∧ SlP (SZ m) body := by
 obtain ⟨name, flags, args, body, la, ha, lb, hb, hd⟩ := hx
 exact ⟨name, flags, args, body, rfl, SlP.of (by simp) hz la hd ha (fun y a b => ⟨a, b⟩), SlP.of (by simp) hz lb hd hb (fun y a b => ⟨a, b⟩)⟩
theorem MemberC.open {m : Nat} {x : List PV} (hx : MemberC x) (hz : SizeOf.sizeOf x ≤ m) : ∃ (kind : Int) (flags : Int) (key : PV) (value : PV) (init : PV) (block : PV), x = [.int .i64 kind, .int .i64 flags, key, value, init, block] ∧ SlP (EZ m) key ∧ SlP (EZ m) value ∧ SlP (EZ m) init ∧ SlP (SZ m) block := by
 obtain ⟨kind, flags, key, value, init, block, lk, hk, lv, hv, li, hi, lb, hb, hd⟩ := hx
 exact ⟨kind, flags, key, value, init, block, rfl, SlP.of (by simp) hz lk hd hk (fun y a b => ⟨a, b⟩), SlP.of (by simp) hz lv hd hv (fun y a b => ⟨a, b⟩), SlP.of (by simp) hz li hd hi (fun y a b => ⟨a, b⟩), SlP.of (by simp) hz lb hd hb (fun y a b => ⟨a, b⟩)⟩
theorem ClassC.open {m : Nat} {x : List PV} (hx : ClassC x) (hz : SizeOf.sizeOf x ≤ m) : ∃ (name : Int) (ext : PV) (members : PV), x = [.int .i64 name, ext, members] ∧ SlP (EZ m) ext ∧ SlP (MZ m) members := by
 obtain ⟨name, ext, members, le, he, lm, hm, hd⟩ := hx
 exact ⟨name, ext, members, rfl, SlP.of (by simp) hz le hd he (fun y a b => ⟨a, b⟩), SlP.of (by simp) hz lm hd hm (fun y a b => ⟨a, b⟩)⟩
theorem DeclC.open {m : Nat} {x : List PV} (hx : DeclC x) (hz : SizeOf.sizeOf x ≤ m) : ∃ (bkind : Int) (bref : Int) (bitems : PV) (brest : Bool) (value : PV), x = [.int .i64 bkind, .int .i64 bref, bitems, .bool brest, value] ∧ BZ m [.int .i64 bkind, .int .i64 bref, bitems, .bool brest] ∧ SlP (IZ m) bitems ∧ SlP (EZ m) value := by
 obtain ⟨b0, b1, b2, b3, value, hb, lv, hv, hd⟩ := hx
 have hbz : SizeOf.sizeOf [b0, b1, b2, b3] < m := Nat.lt_of_lt_of_le (by simp; omega) hz
 have hbc := hb
 obtain ⟨bkind, bref, bitems, brest, hbe, hbs⟩ := hb.open (Nat.le_of_lt hbz)
 cases hbe
 exact ⟨bkind, bref, _, brest, value, rfl, ⟨hbc, hbz⟩, hbs, SlP.of (by simp) hz lv hd hv (fun y a b => ⟨a, b⟩)⟩
theorem CaseC.open {m : Nat} {x : List PV} (hx : CaseC x) (hz : SizeOf.sizeOf x ≤ m) : ∃ (value : PV) (body : PV), x = [value, body] ∧ SlP (EZ m) value ∧ SlP (SZ m) body := by
 obtain ⟨value, body, lv, hv, lb, hb, hd⟩ := hx
 exact ⟨value, body, rfl, SlP.of (by simp) hz lv hd hv (fun y a b => ⟨a, b⟩), SlP.of (by simp) hz lb hd hb (fun y a b => ⟨a, b⟩)⟩
theorem StmtC.open {m : Nat} {x : List PV} (hx : StmtC x) (hz : SizeOf.sizeOf x ≤ m) : ∃ (kind : Int) (op : Int) (ref : Int) (flags : Int) (str : PV) (exprs : PV) (kids : PV) (decls : PV) (cases : PV) (fns : PV) (classes : PV), x = [.int .i64 kind, .int .i64 op, .int .i64 ref, .int .i64 flags, str, exprs, kids, decls, cases, fns, classes] ∧ SlP (fun y => ∃ n : Int, y = [.int .u16 n] ∧ 0 ≤ n ∧ n < 65536) str ∧ SlP (EZ m) exprs ∧ SlP (SZ m) kids ∧ SlP (DZ m) decls ∧ SlP (KZ m) cases ∧ SlP (FZ m) fns ∧ SlP (CZ m) classes := by
 obtain ⟨kind, op, ref, flags, str, exprs, kids, decls, cases, fns, classes, hs, le, he, lk, hk, ld, hdc, lc, hc, lf, hf, ll, hcl, hd⟩ := hx
 exact ⟨kind, op, ref, flags, str, exprs, kids, decls, cases, fns, classes, rfl, SlP.of (by simp) hz hs.1 hd hs.2 (fun y h _ => h), SlP.of (by simp) hz le hd he (fun y a b => ⟨a, b⟩), SlP.of (by simp) hz lk hd hk (fun y a b => ⟨a, b⟩), SlP.of (by simp) hz ld hd hdc (fun y a b => ⟨a, b⟩), SlP.of (by simp) hz lc hd hc (fun y a b => ⟨a, b⟩), SlP.of (by simp) hz lf hd hf (fun y a b => ⟨a, b⟩), SlP.of (by simp) hz ll hd hcl (fun y a b => ⟨a, b⟩)⟩
end Go.Pi
end
section
namespace Go.Pi
set_option maxRecDepth 100000
theorem hTT : max 1 1 = 1 := rfl
theorem hHH : max 1 1 = 1 := rfl
def Nx (p q : Prop) : Prop := q → p
theorem Nx.r {p : Prop} : Nx p p := fun h => h
theorem j {a b : Prop} (x : a) (y : b) : a ∧ b := ⟨x, y⟩
theorem n0 {p q : Prop} (g : q) (h : Nx p q := by (simp only [go_sem, Nat.reduceEqDiff, Nat.reduceAdd, Nat.reduceLeDiff, Nat.reduceLT, Nat.reduceMul, Nat.reduceSub, reduceIte, reduceCtorEq, Int.reduceEq, Int.reduceLT, Int.reduceLE, Nat.reduceBEq, Int.reduceToNat, M_block]; exact Nx.r)) : p := h g
theorem n1 {p q a : Prop} (x : a) (g : q) (h : a → Nx p q := by (intro x; simp only [x, go_sem, Nat.reduceEqDiff, Nat.reduceAdd, Nat.reduceLeDiff, Nat.reduceLT, Nat.reduceMul, Nat.reduceSub, reduceIte, reduceCtorEq, Int.reduceEq, Int.reduceLT, Int.reduceLE, Nat.reduceBEq, Int.reduceToNat, M_block]; exact Nx.r)) : p := h x g
theorem nA {p q : Prop} (g : q) (h : Nx p q := by (simp only [*, go_sem, Nat.reduceEqDiff, Nat.reduceAdd, Nat.reduceLeDiff, Nat.reduceLT, Nat.reduceMul, Nat.reduceSub, reduceIte, reduceCtorEq, Int.reduceEq, Int.reduceLT, Int.reduceLE, Nat.reduceBEq, Int.reduceToNat, M_block]; exact Nx.r)) : p := h g
theorem c0 {p : Prop} (h : p := by (first | (simp only [go_sem, Nat.reduceEqDiff, Nat.reduceAdd, Nat.reduceLeDiff, Nat.reduceLT, Nat.reduceMul, Nat.reduceSub, reduceIte, reduceCtorEq, Int.reduceEq, Int.reduceLT, Int.reduceLE, Nat.reduceBEq, Int.reduceToNat, M_block]; first | done | rfl | fail) | rfl | fail)) : p := h
theorem c1 {p a : Prop} (x : a) (h : a → p := by (intro x; first | (simp only [x, go_sem, Nat.reduceEqDiff, Nat.reduceAdd, Nat.reduceLeDiff, Nat.reduceLT, Nat.reduceMul, Nat.reduceSub, reduceIte, reduceCtorEq, Int.reduceEq, Int.reduceLT, Int.reduceLE, Nat.reduceBEq, Int.reduceToNat, M_block]; first | done | rfl | fail) | rfl | fail)) : p := h x
theorem cA {p : Prop} (h : p := by (first | (simp only [*, go_sem, Nat.reduceEqDiff, Nat.reduceAdd, Nat.reduceLeDiff, Nat.reduceLT, Nat.reduceMul, Nat.reduceSub, reduceIte, reduceCtorEq, Int.reduceEq, Int.reduceLT, Int.reduceLE, Nat.reduceBEq, Int.reduceToNat, M_block]; first | done | rfl | fail) | rfl | fail)) : p := h
theorem s0 {p q : Prop} (g : q) (h : Nx p q := by (simp only [go_sem, Nat.reduceEqDiff, Nat.reduceAdd, Nat.reduceLeDiff, Nat.reduceLT, Nat.reduceMul, Nat.reduceSub, reduceIte, reduceCtorEq, Int.reduceEq, Int.reduceLT, Int.reduceLE, Nat.reduceBEq, Int.reduceToNat, M_block, M_reg, M_dreg_nil, M_dreg]; exact Nx.r)) : p := h g
theorem s1 {p q a : Prop} (x : a) (g : q) (h : a → Nx p q := by (intro x; simp only [x, go_sem, Nat.reduceEqDiff, Nat.reduceAdd, Nat.reduceLeDiff, Nat.reduceLT, Nat.reduceMul, Nat.reduceSub, reduceIte, reduceCtorEq, Int.reduceEq, Int.reduceLT, Int.reduceLE, Nat.reduceBEq, Int.reduceToNat, M_block, M_reg, M_dreg_nil, M_dreg]; exact Nx.r)) : p := h x g
theorem z0 {p : Prop} (h : p := by (first | (simp only [go_sem, Nat.reduceEqDiff, Nat.reduceAdd, Nat.reduceLeDiff, Nat.reduceLT, Nat.reduceMul, Nat.reduceSub, reduceIte, reduceCtorEq, Int.reduceEq, Int.reduceLT, Int.reduceLE, Nat.reduceBEq, Int.reduceToNat, M_block, M_reg, M_dreg_nil, M_dreg]; first | done | rfl | fail) | rfl | fail)) : p := h
theorem z1 {p a : Prop} (x : a) (h : a → p := by (intro x; first | (simp only [x, go_sem, Nat.reduceEqDiff, Nat.reduceAdd, Nat.reduceLeDiff, Nat.reduceLT, Nat.reduceMul, Nat.reduceSub, reduceIte, reduceCtorEq, Int.reduceEq, Int.reduceLT, Int.reduceLE, Nat.reduceBEq, Int.reduceToNat, M_block, M_reg, M_dreg_nil, M_dreg]; first | done | rfl | fail) | rfl | fail)) : p := h x
theorem zA {p : Prop} (h : p := by (first | (simp only [*, go_sem, Nat.reduceEqDiff, Nat.reduceAdd, Nat.reduceLeDiff, Nat.reduceLT, Nat.reduceMul, Nat.reduceSub, reduceIte, reduceCtorEq, Int.reduceEq, Int.reduceLT, Int.reduceLE, Nat.reduceBEq, Int.reduceToNat, M_block, M_reg, M_dreg_nil, M_dreg]; first | done | rfl | fail) | rfl | fail)) : p := h
theorem pE {p : Prop} (h : p := by first | (intro b g r h; cases h; try (first | exact (‹SlP _ (PV.ptr _ _ _)›).not_ptr | (rcases hS with h | ⟨_, h⟩ <;> cases h))) | fail) : p := h
theorem pP {p : Prop} (h : p := by first | (intro b g r h; cases h) | fail) : p := h
theorem pQ {p : Prop} (h : p := by first | (intro b g r h; first | (cases h; done) | (cases h; first | exact (NatV.notptr (by assumption)).elim | exact (NvR.notptr (by assumption)).elim)) | fail) : p := h
theorem dM {p : Prop} (h : p := by first | (first | rfl | exact cA) | fail) : p := h
theorem kFm {p : Prop} (h : p := by first | (refine ⟨_, rfl, ?_, ?_⟩; (first | exact hF | exact fun _ => trivial | exact fun h => absurd h Bool.false_ne_true); (simp [NdX_agg, Nd_cells, Nd_num, NdF_nils, NdF_sl, *]; done)) | fail) : p := h
theorem kH {p : Prop} (h : p := by first | (exact hR _ _ _ _ (by ((repeat' (first | exact Low.refl | refine Low.put (by decide) ?_)); first | done | fail)) c0 hF) | fail) : p := h
theorem wM {p : Prop} (h : p := by first | (first | omega | ((simp (disch := omega) only [wrap_i64, wrap_u64, and_low, fdiv32, fdiv1, tdiv32, tmod32, min_sh, and_one, and_m52, or52, or32, tdiv10, tmod10, and_m11, fdiv52, fdiv63, or52r, and_m63]); omega) | assumption | rfl | (simp only [ByteArray.size_append, bs_size, List.length_cons, List.length_nil]; omega) | (simp only [ByteArray.size_append, bs_size, List.length_cons, List.length_nil]; (simp (disch := omega) only [wrap_i64, wrap_u64, and_low, fdiv32, fdiv1, tdiv32, tmod32, min_sh, and_one, and_m52, or52, or32, tdiv10, tmod10, and_m11, fdiv52, fdiv63, or52r, and_m63]); omega)) | fail) : p := h
theorem dF1 {p : Prop} (h : p := by (refine fB1 hTT ?_; exact trivial)) : p := h
theorem dE1 {p : Prop} (h : p := by
 first
 |rfl
 |(exact dF1)
 |(exact dG1 hv.2.1)
 |(exact dG1 (j yl_str.1 (j yl_str.2.1 (j yl_kids.1 (j yl_kids.2.1 (j yl_props.1 (j yl_props.2.1 (j yl_parts.1 (j yl_parts.2.1 (j yl_fns.1 (j yl_fns.2.1 (j yl_classes.1 yl_classes.2.1))))))))))))
 |(exact dG1 (j yl_key.1 (j yl_key.2.1 (j yl_value.1 yl_value.2.1))))
 |(exact dG1 (j yl_value.1 (j yl_value.2.1 (j yl_str.1 yl_str.2.1))))
 |(exact dG1 (j yl_items.1 yl_items.2.1))
 |(exact dG1 (j yl_key.1 (j yl_key.2.1 (j yl_dflt.1 (j yl_dflt.2.1 (j yl_bitems.1 yl_bitems.2.1))))))
 |(exact dG1 (j yl_bitems.1 (j yl_bitems.2.1 (j yl_dflt.1 yl_dflt.2.1))))
 |(exact dG1 (j yl_args.1 (j yl_args.2.1 (j yl_body.1 yl_body.2.1))))
 |(exact dG1 (j yl_key.1 (j yl_key.2.1 (j yl_value.1 (j yl_value.2.1 (j yl_init.1 (j yl_init.2.1 (j yl_block.1 yl_block.2.1))))))))
 |(exact dG1 (j yl_ext.1 (j yl_ext.2.1 (j yl_members.1 yl_members.2.1))))
 |(exact dG1 (j yl_bitems.1 (j yl_bitems.2.1 (j yl_value.1 yl_value.2.1))))
 |(exact dG1 (j yl_value.1 (j yl_value.2.1 (j yl_body.1 yl_body.2.1))))
 |(exact dG1 (j yl_str.1 (j yl_str.2.1 (j yl_exprs.1 (j yl_exprs.2.1 (j yl_kids.1 (j yl_kids.2.1 (j yl_decls.1 (j yl_decls.2.1 (j yl_cases.1 (j yl_cases.2.1 (j yl_fns.1 (j yl_fns.2.1 (j yl_classes.1 yl_classes.2.1))))))))))))))
 |fail) : p := h
theorem dG1 {p a : Prop} (x : a) (h : a → p := by (intro x; refine fB1 x ?_; exact trivial)) : p := h x
theorem kR1 {p : Prop} (h : p := by
 first
 |((first | refine M_regj rfl rfl rfl (fun R t0 H0 hTT hHH hR => M_reg.2 ?_) (fun c g n' => ?_) | refine M_dregj rfl rfl rfl (fun R t0 H0 hTT hHH hR => M_dreg.2 ?_) (fun c g n' => ?_)) <;> (try refine fB1 hTT ?_) <;> exact Ae1)
 |fail) : p := h
theorem kC1 {p : Prop} (h : p := by first | (rintro _ ⟨c, rfl⟩; refine fB1 hTT ?_; exact Ae1) | fail) : p := h
theorem kD1 {p : Prop} (h : p := by first | (rintro _ ⟨c, rfl, hc⟩; cases c; all_goals (first | (have hc1 := hc rfl; clear hc; (first | (obtain ⟨hcp, hcq, hcr⟩ : _ ∧ _ ∧ _ := hc1) | (obtain ⟨hcp, hcq⟩ : _ ∧ _ := hc1) | skip)) | clear hc); all_goals (refine fB1 hTT ?_; exact Ae1)) | fail) : p := h
theorem Ae1 {p : Prop} (h : p := by
 repeat' first
 |exact ⟨_, rfl⟩
 |exact ⟨rfl, _, rfl⟩
 |exact kA1
 |exact hR _ _ _ (by ((repeat' (first | exact Low.refl | refine Low.put (by decide) ?_)); first | done | fail)) c0
 |(simp only [M_reg]; (try refine fB1 hTT ?_))
 |(simp only [M_dreg_nil]; (try refine fB1 hTT ?_))
 |(simp only [M_dreg]; (try refine fB1 hTT ?_))
 |(refine MB_dec (fun hp hb => ?_) (fun hp hb => ?_) <;> (try subst hp) <;> refine fB1 hb ?_)
 |(refine MB_ndec (fun hp hb => ?_) (fun hp hb => ?_) <;> (try subst hp) <;> refine fB1 hb ?_)
 |(refine MG_dec (fun hp hb => ?_) (fun hp hb => ?_) <;> (try subst hp) <;> refine fB1 hb ?_)
 |(refine MG_ndec (fun hp hb => ?_) (fun hp hb => ?_) <;> (try subst hp) <;> refine fB1 hb ?_)
 |(refine MB_nsplit (fun hb => ?_) (fun hb => ?_) <;> (first | (subst hb; refine fB1 hTT ?_) | refine fB1 hb ?_))
 |(refine MB_split (fun hb => ?_) (fun hb => ?_) <;> (first | (subst hb; refine fB1 hTT ?_) | refine fB1 hb ?_))
 |(refine MG_split (fun hb => ?_) (fun hb => ?_) <;> (first | (subst hb; refine fB1 hTT ?_) | refine fB1 hb ?_))
 |exact kB1
 |(refine MIX_re (by assumption) rfl (‹SlP _ _› : SlP _ _).1 (by omega) ?_; refine fB1 hTT ?_)
 |(refine MIX_S (P := EZ _) EZ.len ‹SlP (EZ _) _› (by omega) (by omega) (fun y hy hmem hg => ?_); obtain ⟨ykind, yop, yref, ychain, yflags, ynn, ystr, ytext, ykids, yprops, yparts, yfns, yclasses, rfl, yhn, yl_str, yht, yl_kids, yl_props, yl_parts, yl_fns, yl_classes⟩ := hy.1.open hy.le; refine fB1 (j yl_str.1 (j yl_str.2.1 (j yl_kids.1 (j yl_kids.2.1 (j yl_props.1 (j yl_props.2.1 (j yl_parts.1 (j yl_parts.2.1 (j yl_fns.1 (j yl_fns.2.1 (j yl_classes.1 yl_classes.2.1))))))))))) ?_)
 |(refine MSSL_S (P := EZ _) EZ.len ‹SlP (EZ _) _› (by omega) (by omega) (fun v hv hg => ?_); refine fB1 (j hv.1 hv.2.1) ?_)
 |(refine MIX_S (P := PZ _) PZ.len ‹SlP (PZ _) _› (by omega) (by omega) (fun y hy hmem hg => ?_); obtain ⟨ykind, yflags, ykey, yvalue, rfl, yl_key, yl_value⟩ := hy.1.open hy.le; refine fB1 (j yl_key.1 (j yl_key.2.1 (j yl_value.1 yl_value.2.1))) ?_)
 |(refine MSSL_S (P := PZ _) PZ.len ‹SlP (PZ _) _› (by omega) (by omega) (fun v hv hg => ?_); refine fB1 (j hv.1 hv.2.1) ?_)
 |(refine MIX_S (P := QZ _) QZ.len ‹SlP (QZ _) _› (by omega) (by omega) (fun y hy hmem hg => ?_); obtain ⟨yvalue, ystr, ytext, rfl, yl_value, yl_str, yht⟩ := hy.1.open hy.le; refine fB1 (j yl_value.1 (j yl_value.2.1 (j yl_str.1 yl_str.2.1))) ?_)
 |(refine MSSL_S (P := QZ _) QZ.len ‹SlP (QZ _) _› (by omega) (by omega) (fun v hv hg => ?_); refine fB1 (j hv.1 hv.2.1) ?_)
 |(refine MIX_S (P := BZ _) BZ.len ‹SlP (BZ _) _› (by omega) (by omega) (fun y hy hmem hg => ?_); obtain ⟨ykind, yref, yitems, yrest, rfl, yl_items⟩ := hy.1.open hy.le; refine fB1 (j yl_items.1 yl_items.2.1) ?_)
 |(refine MSSL_S (P := BZ _) BZ.len ‹SlP (BZ _) _› (by omega) (by omega) (fun v hv hg => ?_); refine fB1 (j hv.1 hv.2.1) ?_)
 |(refine MIX_S (P := IZ _) IZ.len ‹SlP (IZ _) _› (by omega) (by omega) (fun y hy hmem hg => ?_); obtain ⟨yflags, ykey, ydflt, ybkind, ybref, ybitems, ybrest, rfl, yl_key, yl_dflt, yhb0, yl_bitems⟩ := hy.1.open hy.le; refine fB1 (j yl_key.1 (j yl_key.2.1 (j yl_dflt.1 (j yl_dflt.2.1 (j yl_bitems.1 yl_bitems.2.1))))) ?_)
 |(refine MSSL_S (P := IZ _) IZ.len ‹SlP (IZ _) _› (by omega) (by omega) (fun v hv hg => ?_); refine fB1 (j hv.1 hv.2.1) ?_)
 |(refine MIX_S (P := AZ _) AZ.len ‹SlP (AZ _) _› (by omega) (by omega) (fun y hy hmem hg => ?_); obtain ⟨ybkind, ybref, ybitems, ybrest, ydflt, rfl, yhb0, yl_bitems, yl_dflt⟩ := hy.1.open hy.le; refine fB1 (j yl_bitems.1 (j yl_bitems.2.1 (j yl_dflt.1 yl_dflt.2.1))) ?_)
 |(refine MSSL_S (P := AZ _) AZ.len ‹SlP (AZ _) _› (by omega) (by omega) (fun v hv hg => ?_); refine fB1 (j hv.1 hv.2.1) ?_)
 |(refine MIX_S (P := FZ _) FZ.len ‹SlP (FZ _) _› (by omega) (by omega) (fun y hy hmem hg => ?_); obtain ⟨yname, yflags, yargs, ybody, rfl, yl_args, yl_body⟩ := hy.1.open hy.le; refine fB1 (j yl_args.1 (j yl_args.2.1 (j yl_body.1 yl_body.2.1))) ?_)
 |(refine MSSL_S (P := FZ _) FZ.len ‹SlP (FZ _) _› (by omega) (by omega) (fun v hv hg => ?_); refine fB1 (j hv.1 hv.2.1) ?_)
 |(refine MIX_S (P := MZ _) MZ.len ‹SlP (MZ _) _› (by omega) (by omega) (fun y hy hmem hg => ?_); obtain ⟨ykind, yflags, ykey, yvalue, yinit, yblock, rfl, yl_key, yl_value, yl_init, yl_block⟩ := hy.1.open hy.le; refine fB1 (j yl_key.1 (j yl_key.2.1 (j yl_value.1 (j yl_value.2.1 (j yl_init.1 (j yl_init.2.1 (j yl_block.1 yl_block.2.1))))))) ?_)
 |(refine MSSL_S (P := MZ _) MZ.len ‹SlP (MZ _) _› (by omega) (by omega) (fun v hv hg => ?_); refine fB1 (j hv.1 hv.2.1) ?_)
 |(refine MIX_S (P := CZ _) CZ.len ‹SlP (CZ _) _› (by omega) (by omega) (fun y hy hmem hg => ?_); obtain ⟨yname, yext, ymembers, rfl, yl_ext, yl_members⟩ := hy.1.open hy.le; refine fB1 (j yl_ext.1 (j yl_ext.2.1 (j yl_members.1 yl_members.2.1))) ?_)
 |(refine MSSL_S (P := CZ _) CZ.len ‹SlP (CZ _) _› (by omega) (by omega) (fun v hv hg => ?_); refine fB1 (j hv.1 hv.2.1) ?_)
 |(refine MIX_S (P := DZ _) DZ.len ‹SlP (DZ _) _› (by omega) (by omega) (fun y hy hmem hg => ?_); obtain ⟨ybkind, ybref, ybitems, ybrest, yvalue, rfl, yhb0, yl_bitems, yl_value⟩ := hy.1.open hy.le; refine fB1 (j yl_bitems.1 (j yl_bitems.2.1 (j yl_value.1 yl_value.2.1))) ?_)
 |(refine MSSL_S (P := DZ _) DZ.len ‹SlP (DZ _) _› (by omega) (by omega) (fun v hv hg => ?_); refine fB1 (j hv.1 hv.2.1) ?_)
 |(refine MIX_S (P := KZ _) KZ.len ‹SlP (KZ _) _› (by omega) (by omega) (fun y hy hmem hg => ?_); obtain ⟨yvalue, ybody, rfl, yl_value, yl_body⟩ := hy.1.open hy.le; refine fB1 (j yl_value.1 (j yl_value.2.1 (j yl_body.1 yl_body.2.1))) ?_)
 |(refine MSSL_S (P := KZ _) KZ.len ‹SlP (KZ _) _› (by omega) (by omega) (fun v hv hg => ?_); refine fB1 (j hv.1 hv.2.1) ?_)
 |(refine MIX_S (P := SZ _) SZ.len ‹SlP (SZ _) _› (by omega) (by omega) (fun y hy hmem hg => ?_); obtain ⟨ykind, yop, yref, yflags, ystr, yexprs, ykids, ydecls, ycases, yfns, yclasses, rfl, yl_str, yl_exprs, yl_kids, yl_decls, yl_cases, yl_fns, yl_classes⟩ := hy.1.open hy.le; refine fB1 (j yl_str.1 (j yl_str.2.1 (j yl_exprs.1 (j yl_exprs.2.1 (j yl_kids.1 (j yl_kids.2.1 (j yl_decls.1 (j yl_decls.2.1 (j yl_cases.1 (j yl_cases.2.1 (j yl_fns.1 (j yl_fns.2.1 (j yl_classes.1 yl_classes.2.1))))))))))))) ?_)
 |(refine MSSL_S (P := SZ _) SZ.len ‹SlP (SZ _) _› (by omega) (by omega) (fun v hv hg => ?_); refine fB1 (j hv.1 hv.2.1) ?_)
 |(refine fB1 (j yl_str.1 (j yl_str.2.1 (j yl_kids.1 (j yl_kids.2.1 (j yl_props.1 (j yl_props.2.1 (j yl_parts.1 (j yl_parts.2.1 (j yl_fns.1 (j yl_fns.2.1 (j yl_classes.1 yl_classes.2.1))))))))))) ?_)
 |(refine fB1 (j yl_key.1 (j yl_key.2.1 (j yl_value.1 yl_value.2.1))) ?_)
 |(refine fB1 (j yl_value.1 (j yl_value.2.1 (j yl_str.1 yl_str.2.1))) ?_)
 |(refine fB1 (j yl_items.1 yl_items.2.1) ?_)
 |(refine fB1 (j yl_key.1 (j yl_key.2.1 (j yl_dflt.1 (j yl_dflt.2.1 (j yl_bitems.1 yl_bitems.2.1))))) ?_)
 |(refine fB1 (j yl_bitems.1 (j yl_bitems.2.1 (j yl_dflt.1 yl_dflt.2.1))) ?_)
 |(refine fB1 (j yl_args.1 (j yl_args.2.1 (j yl_body.1 yl_body.2.1))) ?_)
 |(refine fB1 (j yl_key.1 (j yl_key.2.1 (j yl_value.1 (j yl_value.2.1 (j yl_init.1 (j yl_init.2.1 (j yl_block.1 yl_block.2.1))))))) ?_)
 |(refine fB1 (j yl_ext.1 (j yl_ext.2.1 (j yl_members.1 yl_members.2.1))) ?_)
 |(refine fB1 (j yl_bitems.1 (j yl_bitems.2.1 (j yl_value.1 yl_value.2.1))) ?_)
 |(refine fB1 (j yl_value.1 (j yl_value.2.1 (j yl_body.1 yl_body.2.1))) ?_)
 |(refine fB1 (j yl_str.1 (j yl_str.2.1 (j yl_exprs.1 (j yl_exprs.2.1 (j yl_kids.1 (j yl_kids.2.1 (j yl_decls.1 (j yl_decls.2.1 (j yl_cases.1 (j yl_cases.2.1 (j yl_fns.1 (j yl_fns.2.1 (j yl_classes.1 yl_classes.2.1))))))))))))) ?_)
 |exact trivial
 |exact kZ1
 |fail
 first | done | fail) : p := h
theorem kMN1 {p : Prop} (h : p := by first | (rintro _ b1 ⟨_, rfl, hnc⟩ hmono hF; obtain ⟨nk, nt, nm, nn, nkids, na, rfl, hN⟩ := hnc.open; have hS := hN.1; have hDp := hN.2.1; (try refine nA ?_); exact Am1) | fail) : p := h
theorem kML1 {p : Prop} (h : p := by first | (rintro r b1 ⟨hS, hDp, hLn, hMem⟩ hmono hF; (try refine nA ?_); exact Am1) | fail) : p := h
theorem kPN1 {p : Prop} (h : p := by first | (rintro _ ⟨_, rfl, hnc⟩; obtain ⟨nk, nt, nm, nn, nkids, na, rfl, hN⟩ := hnc.open; have hS := hN.1; have hDp := hN.2.1; (try refine nA ?_); exact Am1) | fail) : p := h
theorem kT1 {p : Prop} (h : p := by first | ((try refine nA ?_); exact Am1) | fail) : p := h
theorem Am1 {p : Prop} (h : p := by
 repeat' first
 |contradiction
 |exact kA1
 |(simp only [M_reg]; (try refine nA ?_))
 |(simp only [M_dreg_nil]; (try refine nA ?_))
 |(simp only [M_dreg]; (try refine nA ?_))
 |(refine MB_dec (fun hp hb => ?_) (fun hp hb => ?_) <;> (try subst hp) <;> refine nA ?_)
 |(refine MB_ndec (fun hp hb => ?_) (fun hp hb => ?_) <;> (try subst hp) <;> refine nA ?_)
 |(refine MG_dec (fun hp hb => ?_) (fun hp hb => ?_) <;> (try subst hp) <;> refine nA ?_)
 |(refine MG_ndec (fun hp hb => ?_) (fun hp hb => ?_) <;> (try subst hp) <;> refine nA ?_)
 |(refine MB_nsplit (fun hb => ?_) (fun hb => ?_) <;> (first | (subst hb; (try have hnd := hnd rfl); (try simp only [decide_eq_true_eq] at hnd); (try subst hnd); first | contradiction | refine nA ?_) | refine nA ?_))
 |(refine MB_split (fun hb => ?_) (fun hb => ?_) <;> (first | (subst hb; (try have hnd := hnd rfl); (try simp only [decide_eq_true_eq] at hnd); (try subst hnd); first | contradiction | refine nA ?_) | refine nA ?_))
 |(refine MG_split (fun hb => ?_) (fun hb => ?_) <;> (first | (subst hb; (try have hnd := hnd rfl); (try simp only [decide_eq_true_eq] at hnd); (try subst hnd); first | contradiction | refine nA ?_) | refine nA ?_))
 |exact kB1
 |(refine MIX_re (by assumption) rfl (‹SlP _ _› : SlP _ _).1 (by omega) ?_; refine nA ?_)
 |(refine MIX_S (P := EZ _) EZ.len ‹SlP (EZ _) _› (by omega) (by omega) (fun y hy hmem hg => ?_); obtain ⟨ykind, yop, yref, ychain, yflags, ynn, ystr, ytext, ykids, yprops, yparts, yfns, yclasses, rfl, yhn, yl_str, yht, yl_kids, yl_props, yl_parts, yl_fns, yl_classes⟩ := hy.1.open hy.le; have := yl_str.1; have := yl_str.2.1; have := yl_kids.1; have := yl_kids.2.1; have := yl_props.1; have := yl_props.2.1; have := yl_parts.1; have := yl_parts.2.1; have := yl_fns.1; have := yl_fns.2.1; have := yl_classes.1; have := yl_classes.2.1; refine nA ?_)
 |(refine MSSL_S (P := EZ _) EZ.len ‹SlP (EZ _) _› (by omega) (by omega) (fun v hv hg => ?_); have := hv.1; have := hv.2.1; refine nA ?_)
 |(refine MIX_S (P := PZ _) PZ.len ‹SlP (PZ _) _› (by omega) (by omega) (fun y hy hmem hg => ?_); obtain ⟨ykind, yflags, ykey, yvalue, rfl, yl_key, yl_value⟩ := hy.1.open hy.le; have := yl_key.1; have := yl_key.2.1; have := yl_value.1; have := yl_value.2.1; refine nA ?_)
 |(refine MSSL_S (P := PZ _) PZ.len ‹SlP (PZ _) _› (by omega) (by omega) (fun v hv hg => ?_); have := hv.1; have := hv.2.1; refine nA ?_)
 |(refine MIX_S (P := QZ _) QZ.len ‹SlP (QZ _) _› (by omega) (by omega) (fun y hy hmem hg => ?_); obtain ⟨yvalue, ystr, ytext, rfl, yl_value, yl_str, yht⟩ := hy.1.open hy.le; have := yl_value.1; have := yl_value.2.1; have := yl_str.1; have := yl_str.2.1; refine nA ?_)
 |(refine MSSL_S (P := QZ _) QZ.len ‹SlP (QZ _) _› (by omega) (by omega) (fun v hv hg => ?_); have := hv.1; have := hv.2.1; refine nA ?_)
 |(refine MIX_S (P := BZ _) BZ.len ‹SlP (BZ _) _› (by omega) (by omega) (fun y hy hmem hg => ?_); obtain ⟨ykind, yref, yitems, yrest, rfl, yl_items⟩ := hy.1.open hy.le; have := yl_items.1; have := yl_items.2.1; refine nA ?_)
 |(refine MSSL_S (P := BZ _) BZ.len ‹SlP (BZ _) _› (by omega) (by omega) (fun v hv hg => ?_); have := hv.1; have := hv.2.1; refine nA ?_)
 |(refine MIX_S (P := IZ _) IZ.len ‹SlP (IZ _) _› (by omega) (by omega) (fun y hy hmem hg => ?_); obtain ⟨yflags, ykey, ydflt, ybkind, ybref, ybitems, ybrest, rfl, yl_key, yl_dflt, yhb0, yl_bitems⟩ := hy.1.open hy.le; have := yl_key.1; have := yl_key.2.1; have := yl_dflt.1; have := yl_dflt.2.1; have := yl_bitems.1; have := yl_bitems.2.1; refine nA ?_)
 |(refine MSSL_S (P := IZ _) IZ.len ‹SlP (IZ _) _› (by omega) (by omega) (fun v hv hg => ?_); have := hv.1; have := hv.2.1; refine nA ?_)
 |(refine MIX_S (P := AZ _) AZ.len ‹SlP (AZ _) _› (by omega) (by omega) (fun y hy hmem hg => ?_); obtain ⟨ybkind, ybref, ybitems, ybrest, ydflt, rfl, yhb0, yl_bitems, yl_dflt⟩ := hy.1.open hy.le; have := yl_bitems.1; have := yl_bitems.2.1; have := yl_dflt.1; have := yl_dflt.2.1; refine nA ?_)
 |(refine MSSL_S (P := AZ _) AZ.len ‹SlP (AZ _) _› (by omega) (by omega) (fun v hv hg => ?_); have := hv.1; have := hv.2.1; refine nA ?_)
 |(refine MIX_S (P := FZ _) FZ.len ‹SlP (FZ _) _› (by omega) (by omega) (fun y hy hmem hg => ?_); obtain ⟨yname, yflags, yargs, ybody, rfl, yl_args, yl_body⟩ := hy.1.open hy.le; have := yl_args.1; have := yl_args.2.1; have := yl_body.1; have := yl_body.2.1; refine nA ?_)
 |(refine MSSL_S (P := FZ _) FZ.len ‹SlP (FZ _) _› (by omega) (by omega) (fun v hv hg => ?_); have := hv.1; have := hv.2.1; refine nA ?_)
 |(refine MIX_S (P := MZ _) MZ.len ‹SlP (MZ _) _› (by omega) (by omega) (fun y hy hmem hg => ?_); obtain ⟨ykind, yflags, ykey, yvalue, yinit, yblock, rfl, yl_key, yl_value, yl_init, yl_block⟩ := hy.1.open hy.le; have := yl_key.1; have := yl_key.2.1; have := yl_value.1; have := yl_value.2.1; have := yl_init.1; have := yl_init.2.1; have := yl_block.1; have := yl_block.2.1; refine nA ?_)
 |(refine MSSL_S (P := MZ _) MZ.len ‹SlP (MZ _) _› (by omega) (by omega) (fun v hv hg => ?_); have := hv.1; have := hv.2.1; refine nA ?_)
 |(refine MIX_S (P := CZ _) CZ.len ‹SlP (CZ _) _› (by omega) (by omega) (fun y hy hmem hg => ?_); obtain ⟨yname, yext, ymembers, rfl, yl_ext, yl_members⟩ := hy.1.open hy.le; have := yl_ext.1; have := yl_ext.2.1; have := yl_members.1; have := yl_members.2.1; refine nA ?_)
 |(refine MSSL_S (P := CZ _) CZ.len ‹SlP (CZ _) _› (by omega) (by omega) (fun v hv hg => ?_); have := hv.1; have := hv.2.1; refine nA ?_)
 |(refine MIX_S (P := DZ _) DZ.len ‹SlP (DZ _) _› (by omega) (by omega) (fun y hy hmem hg => ?_); obtain ⟨ybkind, ybref, ybitems, ybrest, yvalue, rfl, yhb0, yl_bitems, yl_value⟩ := hy.1.open hy.le; have := yl_bitems.1; have := yl_bitems.2.1; have := yl_value.1; have := yl_value.2.1; refine nA ?_)
 |(refine MSSL_S (P := DZ _) DZ.len ‹SlP (DZ _) _› (by omega) (by omega) (fun v hv hg => ?_); have := hv.1; have := hv.2.1; refine nA ?_)
 |(refine MIX_S (P := KZ _) KZ.len ‹SlP (KZ _) _› (by omega) (by omega) (fun y hy hmem hg => ?_); obtain ⟨yvalue, ybody, rfl, yl_value, yl_body⟩ := hy.1.open hy.le; have := yl_value.1; have := yl_value.2.1; have := yl_body.1; have := yl_body.2.1; refine nA ?_)
 |(refine MSSL_S (P := KZ _) KZ.len ‹SlP (KZ _) _› (by omega) (by omega) (fun v hv hg => ?_); have := hv.1; have := hv.2.1; refine nA ?_)
 |(refine MIX_S (P := SZ _) SZ.len ‹SlP (SZ _) _› (by omega) (by omega) (fun y hy hmem hg => ?_); obtain ⟨ykind, yop, yref, yflags, ystr, yexprs, ykids, ydecls, ycases, yfns, yclasses, rfl, yl_str, yl_exprs, yl_kids, yl_decls, yl_cases, yl_fns, yl_classes⟩ := hy.1.open hy.le; have := yl_str.1; have := yl_str.2.1; have := yl_exprs.1; have := yl_exprs.2.1; have := yl_kids.1; have := yl_kids.2.1; have := yl_decls.1; have := yl_decls.2.1; have := yl_cases.1; have := yl_cases.2.1; have := yl_fns.1; have := yl_fns.2.1; have := yl_classes.1; have := yl_classes.2.1; refine nA ?_)
 |(refine MSSL_S (P := SZ _) SZ.len ‹SlP (SZ _) _› (by omega) (by omega) (fun v hv hg => ?_); have := hv.1; have := hv.2.1; refine nA ?_)
 |(refine MIX_row (by omega) (by omega) ?_; refine nA ?_)
 |exact trivial
 |exact kZ1
 |fail
 first | done | fail) : p := h
theorem dC1 {p : Prop} (h : p := by (first | exact dF1 | (refine fB1 hTT ?_; rfl))) : p := h
theorem dD1 {p : Prop} (h : p := by first | (first | rfl | exact dF1) | fail) : p := h
theorem dQ1 {p : Prop} (h : p := by first | (first | rfl | exact dF1 | (simp only [deepL, deepB, Bool.and_true, Bool.and_self, *]; done)) | fail) : p := h
theorem As1 {p : Prop} (h : p := by
 repeat' first
 |contradiction
 |exact kA1
 |(simp (disch := omega) only [wrap_i64, wrap_u64, and_low, fdiv32, fdiv1, tdiv32, tmod32, min_sh, and_one, and_m52, or52, or32, tdiv10, tmod10, and_m11, fdiv52, fdiv63, or52r, and_m63]; (try refine fB1 hTT ?_))
 |exact kN1
 |(simp only [M_reg]; (try refine fB1 hTT ?_))
 |(simp only [M_dreg_nil]; (try refine fB1 hTT ?_))
 |(simp only [M_dreg]; (try refine fB1 hTT ?_))
 |(refine MB_dec (fun hp hb => ?_) (fun hp hb => ?_) <;> refine fB1 hb ?_)
 |(refine MB_ndec (fun hp hb => ?_) (fun hp hb => ?_) <;> refine fB1 hb ?_)
 |(refine MG_dec (fun hp hb => ?_) (fun hp hb => ?_) <;> refine fB1 hb ?_)
 |(refine MG_ndec (fun hp hb => ?_) (fun hp hb => ?_) <;> refine fB1 hb ?_)
 |(refine MB_nsplit (fun hb => ?_) (fun hb => ?_) <;> (first | (subst hb; refine fB1 hTT ?_) | refine fB1 hb ?_))
 |(refine MB_split (fun hb => ?_) (fun hb => ?_) <;> (first | (subst hb; refine fB1 hTT ?_) | refine fB1 hb ?_))
 |(refine MG_split (fun hb => ?_) (fun hb => ?_) <;> (first | (subst hb; refine fB1 hTT ?_) | refine fB1 hb ?_))
 |exact kB1
 |(refine M_sxE ?_; (try refine fB1 hTT ?_); refine MSX_re (by omega) (by omega) (fun b hb hb0 hb1 => ?_); refine fB1 hTT ?_)
 |(refine M_sstrE ?_; (try simp only [Option.map_some, Option.map_none]); (try refine fB1 hTT ?_); refine MSS_re rfl rfl (by omega) (by omega) (by omega) (fun z hz hzs => ?_); refine fB1 hTT ?_)
 |(refine MSS_re rfl rfl (by omega) (by omega) (by omega) (fun z hz hzs => ?_); refine fB1 hTT ?_)
 |(refine MSX_re (by omega) (by omega) (fun b hb hb0 hb1 => ?_); refine fB1 hTT ?_)
 |(rw [if_pos (by first | omega | (simp only [ByteArray.size_append, bs_size, List.length_cons, List.length_nil]; omega))]; refine fB1 hTT ?_)
 |exact trivial
 |exact kZ1
 |fail
 first | done | fail) : p := h
theorem dF2 {p : Prop} (h : p := by (refine fB2 hTT ?_; exact trivial)) : p := h
theorem dE2 {p : Prop} (h : p := by
 first
 |rfl
 |(exact dF2)
 |(exact dG2 hv.2.1)
 |(exact dG2 (j yl_str.1 (j yl_str.2.1 (j yl_kids.1 (j yl_kids.2.1 (j yl_props.1 (j yl_props.2.1 (j yl_parts.1 (j yl_parts.2.1 (j yl_fns.1 (j yl_fns.2.1 (j yl_classes.1 yl_classes.2.1))))))))))))
 |(exact dG2 (j yl_key.1 (j yl_key.2.1 (j yl_value.1 yl_value.2.1))))
 |(exact dG2 (j yl_value.1 (j yl_value.2.1 (j yl_str.1 yl_str.2.1))))
 |(exact dG2 (j yl_items.1 yl_items.2.1))
 |(exact dG2 (j yl_key.1 (j yl_key.2.1 (j yl_dflt.1 (j yl_dflt.2.1 (j yl_bitems.1 yl_bitems.2.1))))))
 |(exact dG2 (j yl_bitems.1 (j yl_bitems.2.1 (j yl_dflt.1 yl_dflt.2.1))))
 |(exact dG2 (j yl_args.1 (j yl_args.2.1 (j yl_body.1 yl_body.2.1))))
 |(exact dG2 (j yl_key.1 (j yl_key.2.1 (j yl_value.1 (j yl_value.2.1 (j yl_init.1 (j yl_init.2.1 (j yl_block.1 yl_block.2.1))))))))
 |(exact dG2 (j yl_ext.1 (j yl_ext.2.1 (j yl_members.1 yl_members.2.1))))
 |(exact dG2 (j yl_bitems.1 (j yl_bitems.2.1 (j yl_value.1 yl_value.2.1))))
 |(exact dG2 (j yl_value.1 (j yl_value.2.1 (j yl_body.1 yl_body.2.1))))
 |(exact dG2 (j yl_str.1 (j yl_str.2.1 (j yl_exprs.1 (j yl_exprs.2.1 (j yl_kids.1 (j yl_kids.2.1 (j yl_decls.1 (j yl_decls.2.1 (j yl_cases.1 (j yl_cases.2.1 (j yl_fns.1 (j yl_fns.2.1 (j yl_classes.1 yl_classes.2.1))))))))))))))
 |fail) : p := h
theorem dG2 {p a : Prop} (x : a) (h : a → p := by (intro x; refine fB2 x ?_; exact trivial)) : p := h x
theorem kR2 {p : Prop} (h : p := by
 first
 |((first | refine M_regj rfl rfl rfl (fun R t0 H0 hTT hHH hR => M_reg.2 ?_) (fun c g n' => ?_) | refine M_dregj rfl rfl rfl (fun R t0 H0 hTT hHH hR => M_dreg.2 ?_) (fun c g n' => ?_)) <;> (try refine fB2 hTT ?_) <;> exact Ae2)
 |fail) : p := h
theorem kC2 {p : Prop} (h : p := by first | (rintro _ ⟨c, rfl⟩; refine fB2 hTT ?_; exact Ae2) | fail) : p := h
theorem kD2 {p : Prop} (h : p := by first | (rintro _ ⟨c, rfl, hc⟩; cases c; all_goals (first | (have hc1 := hc rfl; clear hc; (first | (obtain ⟨hcp, hcq, hcr⟩ : _ ∧ _ ∧ _ := hc1) | (obtain ⟨hcp, hcq⟩ : _ ∧ _ := hc1) | skip)) | clear hc); all_goals (refine fB2 hTT ?_; exact Ae2)) | fail) : p := h
theorem Ae2 {p : Prop} (h : p := by
 repeat' first
 |exact ⟨_, rfl⟩
 |exact ⟨rfl, _, rfl⟩
 |exact kA2
 |exact hR _ _ _ (by ((repeat' (first | exact Low.refl | refine Low.put (by decide) ?_)); first | done | fail)) c0
 |(simp only [M_reg]; (try refine fB2 hTT ?_))
 |(simp only [M_dreg_nil]; (try refine fB2 hTT ?_))
 |(simp only [M_dreg]; (try refine fB2 hTT ?_))
 |(refine MB_dec (fun hp hb => ?_) (fun hp hb => ?_) <;> (try subst hp) <;> refine fB2 hb ?_)
 |(refine MB_ndec (fun hp hb => ?_) (fun hp hb => ?_) <;> (try subst hp) <;> refine fB2 hb ?_)
 |(refine MG_dec (fun hp hb => ?_) (fun hp hb => ?_) <;> (try subst hp) <;> refine fB2 hb ?_)
 |(refine MG_ndec (fun hp hb => ?_) (fun hp hb => ?_) <;> (try subst hp) <;> refine fB2 hb ?_)
 |(refine MB_nsplit (fun hb => ?_) (fun hb => ?_) <;> (first | (subst hb; refine fB2 hTT ?_) | refine fB2 hb ?_))
 |(refine MB_split (fun hb => ?_) (fun hb => ?_) <;> (first | (subst hb; refine fB2 hTT ?_) | refine fB2 hb ?_))
 |(refine MG_split (fun hb => ?_) (fun hb => ?_) <;> (first | (subst hb; refine fB2 hTT ?_) | refine fB2 hb ?_))
 |exact kB2
 |(refine MIX_re (by assumption) rfl (‹SlP _ _› : SlP _ _).1 (by omega) ?_; refine fB2 hTT ?_)
 |(refine MIX_S (P := EZ _) EZ.len ‹SlP (EZ _) _› (by omega) (by omega) (fun y hy hmem hg => ?_); obtain ⟨ykind, yop, yref, ychain, yflags, ynn, ystr, ytext, ykids, yprops, yparts, yfns, yclasses, rfl, yhn, yl_str, yht, yl_kids, yl_props, yl_parts, yl_fns, yl_classes⟩ := hy.1.open hy.le; refine fB2 (j yl_str.1 (j yl_str.2.1 (j yl_kids.1 (j yl_kids.2.1 (j yl_props.1 (j yl_props.2.1 (j yl_parts.1 (j yl_parts.2.1 (j yl_fns.1 (j yl_fns.2.1 (j yl_classes.1 yl_classes.2.1))))))))))) ?_)
 |(refine MSSL_S (P := EZ _) EZ.len ‹SlP (EZ _) _› (by omega) (by omega) (fun v hv hg => ?_); refine fB2 (j hv.1 hv.2.1) ?_)
 |(refine MIX_S (P := PZ _) PZ.len ‹SlP (PZ _) _› (by omega) (by omega) (fun y hy hmem hg => ?_); obtain ⟨ykind, yflags, ykey, yvalue, rfl, yl_key, yl_value⟩ := hy.1.open hy.le; refine fB2 (j yl_key.1 (j yl_key.2.1 (j yl_value.1 yl_value.2.1))) ?_)
 |(refine MSSL_S (P := PZ _) PZ.len ‹SlP (PZ _) _› (by omega) (by omega) (fun v hv hg => ?_); refine fB2 (j hv.1 hv.2.1) ?_)
 |(refine MIX_S (P := QZ _) QZ.len ‹SlP (QZ _) _› (by omega) (by omega) (fun y hy hmem hg => ?_); obtain ⟨yvalue, ystr, ytext, rfl, yl_value, yl_str, yht⟩ := hy.1.open hy.le; refine fB2 (j yl_value.1 (j yl_value.2.1 (j yl_str.1 yl_str.2.1))) ?_)
 |(refine MSSL_S (P := QZ _) QZ.len ‹SlP (QZ _) _› (by omega) (by omega) (fun v hv hg => ?_); refine fB2 (j hv.1 hv.2.1) ?_)
 |(refine MIX_S (P := BZ _) BZ.len ‹SlP (BZ _) _› (by omega) (by omega) (fun y hy hmem hg => ?_); obtain ⟨ykind, yref, yitems, yrest, rfl, yl_items⟩ := hy.1.open hy.le; refine fB2 (j yl_items.1 yl_items.2.1) ?_)
 |(refine MSSL_S (P := BZ _) BZ.len ‹SlP (BZ _) _› (by omega) (by omega) (fun v hv hg => ?_); refine fB2 (j hv.1 hv.2.1) ?_)
 |(refine MIX_S (P := IZ _) IZ.len ‹SlP (IZ _) _› (by omega) (by omega) (fun y hy hmem hg => ?_); obtain ⟨yflags, ykey, ydflt, ybkind, ybref, ybitems, ybrest, rfl, yl_key, yl_dflt, yhb0, yl_bitems⟩ := hy.1.open hy.le; refine fB2 (j yl_key.1 (j yl_key.2.1 (j yl_dflt.1 (j yl_dflt.2.1 (j yl_bitems.1 yl_bitems.2.1))))) ?_)
 |(refine MSSL_S (P := IZ _) IZ.len ‹SlP (IZ _) _› (by omega) (by omega) (fun v hv hg => ?_); refine fB2 (j hv.1 hv.2.1) ?_)
 |(refine MIX_S (P := AZ _) AZ.len ‹SlP (AZ _) _› (by omega) (by omega) (fun y hy hmem hg => ?_); obtain ⟨ybkind, ybref, ybitems, ybrest, ydflt, rfl, yhb0, yl_bitems, yl_dflt⟩ := hy.1.open hy.le; refine fB2 (j yl_bitems.1 (j yl_bitems.2.1 (j yl_dflt.1 yl_dflt.2.1))) ?_)
 |(refine MSSL_S (P := AZ _) AZ.len ‹SlP (AZ _) _› (by omega) (by omega) (fun v hv hg => ?_); refine fB2 (j hv.1 hv.2.1) ?_)
 |(refine MIX_S (P := FZ _) FZ.len ‹SlP (FZ _) _› (by omega) (by omega) (fun y hy hmem hg => ?_); obtain ⟨yname, yflags, yargs, ybody, rfl, yl_args, yl_body⟩ := hy.1.open hy.le; refine fB2 (j yl_args.1 (j yl_args.2.1 (j yl_body.1 yl_body.2.1))) ?_)
 |(refine MSSL_S (P := FZ _) FZ.len ‹SlP (FZ _) _› (by omega) (by omega) (fun v hv hg => ?_); refine fB2 (j hv.1 hv.2.1) ?_)
 |(refine MIX_S (P := MZ _) MZ.len ‹SlP (MZ _) _› (by omega) (by omega) (fun y hy hmem hg => ?_); obtain ⟨ykind, yflags, ykey, yvalue, yinit, yblock, rfl, yl_key, yl_value, yl_init, yl_block⟩ := hy.1.open hy.le; refine fB2 (j yl_key.1 (j yl_key.2.1 (j yl_value.1 (j yl_value.2.1 (j yl_init.1 (j yl_init.2.1 (j yl_block.1 yl_block.2.1))))))) ?_)
 |(refine MSSL_S (P := MZ _) MZ.len ‹SlP (MZ _) _› (by omega) (by omega) (fun v hv hg => ?_); refine fB2 (j hv.1 hv.2.1) ?_)
 |(refine MIX_S (P := CZ _) CZ.len ‹SlP (CZ _) _› (by omega) (by omega) (fun y hy hmem hg => ?_); obtain ⟨yname, yext, ymembers, rfl, yl_ext, yl_members⟩ := hy.1.open hy.le; refine fB2 (j yl_ext.1 (j yl_ext.2.1 (j yl_members.1 yl_members.2.1))) ?_)
 |(refine MSSL_S (P := CZ _) CZ.len ‹SlP (CZ _) _› (by omega) (by omega) (fun v hv hg => ?_); refine fB2 (j hv.1 hv.2.1) ?_)
 |(refine MIX_S (P := DZ _) DZ.len ‹SlP (DZ _) _› (by omega) (by omega) (fun y hy hmem hg => ?_); obtain ⟨ybkind, ybref, ybitems, ybrest, yvalue, rfl, yhb0, yl_bitems, yl_value⟩ := hy.1.open hy.le; refine fB2 (j yl_bitems.1 (j yl_bitems.2.1 (j yl_value.1 yl_value.2.1))) ?_)
 |(refine MSSL_S (P := DZ _) DZ.len ‹SlP (DZ _) _› (by omega) (by omega) (fun v hv hg => ?_); refine fB2 (j hv.1 hv.2.1) ?_)
 |(refine MIX_S (P := KZ _) KZ.len ‹SlP (KZ _) _› (by omega) (by omega) (fun y hy hmem hg => ?_); obtain ⟨yvalue, ybody, rfl, yl_value, yl_body⟩ := hy.1.open hy.le; refine fB2 (j yl_value.1 (j yl_value.2.1 (j yl_body.1 yl_body.2.1))) ?_)
 |(refine MSSL_S (P := KZ _) KZ.len ‹SlP (KZ _) _› (by omega) (by omega) (fun v hv hg => ?_); refine fB2 (j hv.1 hv.2.1) ?_)
 |(refine MIX_S (P := SZ _) SZ.len ‹SlP (SZ _) _› (by omega) (by omega) (fun y hy hmem hg => ?_); obtain ⟨ykind, yop, yref, yflags, ystr, yexprs, ykids, ydecls, ycases, yfns, yclasses, rfl, yl_str, yl_exprs, yl_kids, yl_decls, yl_cases, yl_fns, yl_classes⟩ := hy.1.open hy.le; refine fB2 (j yl_str.1 (j yl_str.2.1 (j yl_exprs.1 (j yl_exprs.2.1 (j yl_kids.1 (j yl_kids.2.1 (j yl_decls.1 (j yl_decls.2.1 (j yl_cases.1 (j yl_cases.2.1 (j yl_fns.1 (j yl_fns.2.1 (j yl_classes.1 yl_classes.2.1))))))))))))) ?_)
 |(refine MSSL_S (P := SZ _) SZ.len ‹SlP (SZ _) _› (by omega) (by omega) (fun v hv hg => ?_); refine fB2 (j hv.1 hv.2.1) ?_)
 |(refine fB2 (j yl_str.1 (j yl_str.2.1 (j yl_kids.1 (j yl_kids.2.1 (j yl_props.1 (j yl_props.2.1 (j yl_parts.1 (j yl_parts.2.1 (j yl_fns.1 (j yl_fns.2.1 (j yl_classes.1 yl_classes.2.1))))))))))) ?_)
 |(refine fB2 (j yl_key.1 (j yl_key.2.1 (j yl_value.1 yl_value.2.1))) ?_)
 |(refine fB2 (j yl_value.1 (j yl_value.2.1 (j yl_str.1 yl_str.2.1))) ?_)
 |(refine fB2 (j yl_items.1 yl_items.2.1) ?_)
 |(refine fB2 (j yl_key.1 (j yl_key.2.1 (j yl_dflt.1 (j yl_dflt.2.1 (j yl_bitems.1 yl_bitems.2.1))))) ?_)
 |(refine fB2 (j yl_bitems.1 (j yl_bitems.2.1 (j yl_dflt.1 yl_dflt.2.1))) ?_)
 |(refine fB2 (j yl_args.1 (j yl_args.2.1 (j yl_body.1 yl_body.2.1))) ?_)
 |(refine fB2 (j yl_key.1 (j yl_key.2.1 (j yl_value.1 (j yl_value.2.1 (j yl_init.1 (j yl_init.2.1 (j yl_block.1 yl_block.2.1))))))) ?_)
 |(refine fB2 (j yl_ext.1 (j yl_ext.2.1 (j yl_members.1 yl_members.2.1))) ?_)
 |(refine fB2 (j yl_bitems.1 (j yl_bitems.2.1 (j yl_value.1 yl_value.2.1))) ?_)
 |(refine fB2 (j yl_value.1 (j yl_value.2.1 (j yl_body.1 yl_body.2.1))) ?_)
 |(refine fB2 (j yl_str.1 (j yl_str.2.1 (j yl_exprs.1 (j yl_exprs.2.1 (j yl_kids.1 (j yl_kids.2.1 (j yl_decls.1 (j yl_decls.2.1 (j yl_cases.1 (j yl_cases.2.1 (j yl_fns.1 (j yl_fns.2.1 (j yl_classes.1 yl_classes.2.1))))))))))))) ?_)
 |exact trivial
 |exact kZ2
 |fail
 first | done | fail) : p := h
theorem kMN2 {p : Prop} (h : p := by first | (rintro _ b1 ⟨_, rfl, hnc⟩ hmono hF; obtain ⟨nk, nt, nm, nn, nkids, na, rfl, hN⟩ := hnc.open; have hS := hN.1; have hDp := hN.2.1; (try refine nA ?_); exact Am2) | fail) : p := h
theorem kML2 {p : Prop} (h : p := by first | (rintro r b1 ⟨hS, hDp, hLn, hMem⟩ hmono hF; (try refine nA ?_); exact Am2) | fail) : p := h
theorem kPN2 {p : Prop} (h : p := by first | (rintro _ ⟨_, rfl, hnc⟩; obtain ⟨nk, nt, nm, nn, nkids, na, rfl, hN⟩ := hnc.open; have hS := hN.1; have hDp := hN.2.1; (try refine nA ?_); exact Am2) | fail) : p := h
theorem kT2 {p : Prop} (h : p := by first | ((try refine nA ?_); exact Am2) | fail) : p := h
theorem Am2 {p : Prop} (h : p := by
 repeat' first
 |contradiction
 |exact kA2
 |(simp only [M_reg]; (try refine nA ?_))
 |(simp only [M_dreg_nil]; (try refine nA ?_))
 |(simp only [M_dreg]; (try refine nA ?_))
 |(refine MB_dec (fun hp hb => ?_) (fun hp hb => ?_) <;> (try subst hp) <;> refine nA ?_)
 |(refine MB_ndec (fun hp hb => ?_) (fun hp hb => ?_) <;> (try subst hp) <;> refine nA ?_)
 |(refine MG_dec (fun hp hb => ?_) (fun hp hb => ?_) <;> (try subst hp) <;> refine nA ?_)
 |(refine MG_ndec (fun hp hb => ?_) (fun hp hb => ?_) <;> (try subst hp) <;> refine nA ?_)
 |(refine MB_nsplit (fun hb => ?_) (fun hb => ?_) <;> (first | (subst hb; (try have hnd := hnd rfl); (try simp only [decide_eq_true_eq] at hnd); (try subst hnd); first | contradiction | refine nA ?_) | refine nA ?_))
 |(refine MB_split (fun hb => ?_) (fun hb => ?_) <;> (first | (subst hb; (try have hnd := hnd rfl); (try simp only [decide_eq_true_eq] at hnd); (try subst hnd); first | contradiction | refine nA ?_) | refine nA ?_))
 |(refine MG_split (fun hb => ?_) (fun hb => ?_) <;> (first | (subst hb; (try have hnd := hnd rfl); (try simp only [decide_eq_true_eq] at hnd); (try subst hnd); first | contradiction | refine nA ?_) | refine nA ?_))
 |exact kB2
 |(refine MIX_re (by assumption) rfl (‹SlP _ _› : SlP _ _).1 (by omega) ?_; refine nA ?_)
 |(refine MIX_S (P := EZ _) EZ.len ‹SlP (EZ _) _› (by omega) (by omega) (fun y hy hmem hg => ?_); obtain ⟨ykind, yop, yref, ychain, yflags, ynn, ystr, ytext, ykids, yprops, yparts, yfns, yclasses, rfl, yhn, yl_str, yht, yl_kids, yl_props, yl_parts, yl_fns, yl_classes⟩ := hy.1.open hy.le; have := yl_str.1; have := yl_str.2.1; have := yl_kids.1; have := yl_kids.2.1; have := yl_props.1; have := yl_props.2.1; have := yl_parts.1; have := yl_parts.2.1; have := yl_fns.1; have := yl_fns.2.1; have := yl_classes.1; have := yl_classes.2.1; refine nA ?_)
 |(refine MSSL_S (P := EZ _) EZ.len ‹SlP (EZ _) _› (by omega) (by omega) (fun v hv hg => ?_); have := hv.1; have := hv.2.1; refine nA ?_)
 |(refine MIX_S (P := PZ _) PZ.len ‹SlP (PZ _) _› (by omega) (by omega) (fun y hy hmem hg => ?_); obtain ⟨ykind, yflags, ykey, yvalue, rfl, yl_key, yl_value⟩ := hy.1.open hy.le; have := yl_key.1; have := yl_key.2.1; have := yl_value.1; have := yl_value.2.1; refine nA ?_)
 |(refine MSSL_S (P := PZ _) PZ.len ‹SlP (PZ _) _› (by omega) (by omega) (fun v hv hg => ?_); have := hv.1; have := hv.2.1; refine nA ?_)
 |(refine MIX_S (P := QZ _) QZ.len ‹SlP (QZ _) _› (by omega) (by omega) (fun y hy hmem hg => ?_); obtain ⟨yvalue, ystr, ytext, rfl, yl_value, yl_str, yht⟩ := hy.1.open hy.le; have := yl_value.1; have := yl_value.2.1; have := yl_str.1; have := yl_str.2.1; refine nA ?_)
 |(refine MSSL_S (P := QZ _) QZ.len ‹SlP (QZ _) _› (by omega) (by omega) (fun v hv hg => ?_); have := hv.1; have := hv.2.1; refine nA ?_)
 |(refine MIX_S (P := BZ _) BZ.len ‹SlP (BZ _) _› (by omega) (by omega) (fun y hy hmem hg => ?_); obtain ⟨ykind, yref, yitems, yrest, rfl, yl_items⟩ := hy.1.open hy.le; have := yl_items.1; have := yl_items.2.1; refine nA ?_)
 |(refine MSSL_S (P := BZ _) BZ.len ‹SlP (BZ _) _› (by omega) (by omega) (fun v hv hg => ?_); have := hv.1; have := hv.2.1; refine nA ?_)
 |(refine MIX_S (P := IZ _) IZ.len ‹SlP (IZ _) _› (by omega) (by omega) (fun y hy hmem hg => ?_); obtain ⟨yflags, ykey, ydflt, ybkind, ybref, ybitems, ybrest, rfl, yl_key, yl_dflt, yhb0, yl_bitems⟩ := hy.1.open hy.le; have := yl_key.1; have := yl_key.2.1; have := yl_dflt.1; have := yl_dflt.2.1; have := yl_bitems.1; have := yl_bitems.2.1; refine nA ?_)
 |(refine MSSL_S (P := IZ _) IZ.len ‹SlP (IZ _) _› (by omega) (by omega) (fun v hv hg => ?_); have := hv.1; have := hv.2.1; refine nA ?_)
 |(refine MIX_S (P := AZ _) AZ.len ‹SlP (AZ _) _› (by omega) (by omega) (fun y hy hmem hg => ?_); obtain ⟨ybkind, ybref, ybitems, ybrest, ydflt, rfl, yhb0, yl_bitems, yl_dflt⟩ := hy.1.open hy.le; have := yl_bitems.1; have := yl_bitems.2.1; have := yl_dflt.1; have := yl_dflt.2.1; refine nA ?_)
 |(refine MSSL_S (P := AZ _) AZ.len ‹SlP (AZ _) _› (by omega) (by omega) (fun v hv hg => ?_); have := hv.1; have := hv.2.1; refine nA ?_)
 |(refine MIX_S (P := FZ _) FZ.len ‹SlP (FZ _) _› (by omega) (by omega) (fun y hy hmem hg => ?_); obtain ⟨yname, yflags, yargs, ybody, rfl, yl_args, yl_body⟩ := hy.1.open hy.le; have := yl_args.1; have := yl_args.2.1; have := yl_body.1; have := yl_body.2.1; refine nA ?_)
 |(refine MSSL_S (P := FZ _) FZ.len ‹SlP (FZ _) _› (by omega) (by omega) (fun v hv hg => ?_); have := hv.1; have := hv.2.1; refine nA ?_)
 |(refine MIX_S (P := MZ _) MZ.len ‹SlP (MZ _) _› (by omega) (by omega) (fun y hy hmem hg => ?_); obtain ⟨ykind, yflags, ykey, yvalue, yinit, yblock, rfl, yl_key, yl_value, yl_init, yl_block⟩ := hy.1.open hy.le; have := yl_key.1; have := yl_key.2.1; have := yl_value.1; have := yl_value.2.1; have := yl_init.1; have := yl_init.2.1; have := yl_block.1; have := yl_block.2.1; refine nA ?_)
 |(refine MSSL_S (P := MZ _) MZ.len ‹SlP (MZ _) _› (by omega) (by omega) (fun v hv hg => ?_); have := hv.1; have := hv.2.1; refine nA ?_)
 |(refine MIX_S (P := CZ _) CZ.len ‹SlP (CZ _) _› (by omega) (by omega) (fun y hy hmem hg => ?_); obtain ⟨yname, yext, ymembers, rfl, yl_ext, yl_members⟩ := hy.1.open hy.le; have := yl_ext.1; have := yl_ext.2.1; have := yl_members.1; have := yl_members.2.1; refine nA ?_)
 |(refine MSSL_S (P := CZ _) CZ.len ‹SlP (CZ _) _› (by omega) (by omega) (fun v hv hg => ?_); have := hv.1; have := hv.2.1; refine nA ?_)
 |(refine MIX_S (P := DZ _) DZ.len ‹SlP (DZ _) _› (by omega) (by omega) (fun y hy hmem hg => ?_); obtain ⟨ybkind, ybref, ybitems, ybrest, yvalue, rfl, yhb0, yl_bitems, yl_value⟩ := hy.1.open hy.le; have := yl_bitems.1; have := yl_bitems.2.1; have := yl_value.1; have := yl_value.2.1; refine nA ?_)
 |(refine MSSL_S (P := DZ _) DZ.len ‹SlP (DZ _) _› (by omega) (by omega) (fun v hv hg => ?_); have := hv.1; have := hv.2.1; refine nA ?_)
 |(refine MIX_S (P := KZ _) KZ.len ‹SlP (KZ _) _› (by omega) (by omega) (fun y hy hmem hg => ?_); obtain ⟨yvalue, ybody, rfl, yl_value, yl_body⟩ := hy.1.open hy.le; have := yl_value.1; have := yl_value.2.1; have := yl_body.1; have := yl_body.2.1; refine nA ?_)
 |(refine MSSL_S (P := KZ _) KZ.len ‹SlP (KZ _) _› (by omega) (by omega) (fun v hv hg => ?_); have := hv.1; have := hv.2.1; refine nA ?_)
 |(refine MIX_S (P := SZ _) SZ.len ‹SlP (SZ _) _› (by omega) (by omega) (fun y hy hmem hg => ?_); obtain ⟨ykind, yop, yref, yflags, ystr, yexprs, ykids, ydecls, ycases, yfns, yclasses, rfl, yl_str, yl_exprs, yl_kids, yl_decls, yl_cases, yl_fns, yl_classes⟩ := hy.1.open hy.le; have := yl_str.1; have := yl_str.2.1; have := yl_exprs.1; have := yl_exprs.2.1; have := yl_kids.1; have := yl_kids.2.1; have := yl_decls.1; have := yl_decls.2.1; have := yl_cases.1; have := yl_cases.2.1; have := yl_fns.1; have := yl_fns.2.1; have := yl_classes.1; have := yl_classes.2.1; refine nA ?_)
 |(refine MSSL_S (P := SZ _) SZ.len ‹SlP (SZ _) _› (by omega) (by omega) (fun v hv hg => ?_); have := hv.1; have := hv.2.1; refine nA ?_)
 |(refine MIX_row (by omega) (by omega) ?_; refine nA ?_)
 |exact trivial
 |exact kZ2
 |fail
 first | done | fail) : p := h
theorem dC2 {p : Prop} (h : p := by (first | exact dF2 | (refine fB2 hTT ?_; rfl))) : p := h
theorem dD2 {p : Prop} (h : p := by first | (first | rfl | exact dF2) | fail) : p := h
theorem dQ2 {p : Prop} (h : p := by first | (first | rfl | exact dF2 | (simp only [deepL, deepB, Bool.and_true, Bool.and_self, *]; done)) | fail) : p := h
theorem As2 {p : Prop} (h : p := by
 repeat' first
 |contradiction
 |exact kA2
 |(simp (disch := omega) only [wrap_i64, wrap_u64, and_low, fdiv32, fdiv1, tdiv32, tmod32, min_sh, and_one, and_m52, or52, or32, tdiv10, tmod10, and_m11, fdiv52, fdiv63, or52r, and_m63]; (try refine fB2 hTT ?_))
 |exact kN2
 |(simp only [M_reg]; (try refine fB2 hTT ?_))
 |(simp only [M_dreg_nil]; (try refine fB2 hTT ?_))
 |(simp only [M_dreg]; (try refine fB2 hTT ?_))
 |(refine MB_dec (fun hp hb => ?_) (fun hp hb => ?_) <;> refine fB2 hb ?_)
 |(refine MB_ndec (fun hp hb => ?_) (fun hp hb => ?_) <;> refine fB2 hb ?_)
 |(refine MG_dec (fun hp hb => ?_) (fun hp hb => ?_) <;> refine fB2 hb ?_)
 |(refine MG_ndec (fun hp hb => ?_) (fun hp hb => ?_) <;> refine fB2 hb ?_)
 |(refine MB_nsplit (fun hb => ?_) (fun hb => ?_) <;> (first | (subst hb; refine fB2 hTT ?_) | refine fB2 hb ?_))
 |(refine MB_split (fun hb => ?_) (fun hb => ?_) <;> (first | (subst hb; refine fB2 hTT ?_) | refine fB2 hb ?_))
 |(refine MG_split (fun hb => ?_) (fun hb => ?_) <;> (first | (subst hb; refine fB2 hTT ?_) | refine fB2 hb ?_))
 |exact kB2
 |(refine M_sxE ?_; (try refine fB2 hTT ?_); refine MSX_re (by omega) (by omega) (fun b hb hb0 hb1 => ?_); refine fB2 hTT ?_)
 |(refine M_sstrE ?_; (try simp only [Option.map_some, Option.map_none]); (try refine fB2 hTT ?_); refine MSS_re rfl rfl (by omega) (by omega) (by omega) (fun z hz hzs => ?_); refine fB2 hTT ?_)
 |(refine MSS_re rfl rfl (by omega) (by omega) (by omega) (fun z hz hzs => ?_); refine fB2 hTT ?_)
 |(refine MSX_re (by omega) (by omega) (fun b hb hb0 hb1 => ?_); refine fB2 hTT ?_)
 |(rw [if_pos (by first | omega | (simp only [ByteArray.size_append, bs_size, List.length_cons, List.length_nil]; omega))]; refine fB2 hTT ?_)
 |exact trivial
 |exact kZ2
 |fail
 first | done | fail) : p := h
theorem dF3 {p : Prop} (h : p := by (refine fB3 hTT ?_; exact trivial)) : p := h
theorem Am3 {p : Prop} (h : p := by
 repeat' first
 |contradiction
 |exact kA3
 |(simp only [M_reg]; (try refine nA ?_))
 |(simp only [M_dreg_nil]; (try refine nA ?_))
 |(simp only [M_dreg]; (try refine nA ?_))
 |(refine MB_dec (fun hp hb => ?_) (fun hp hb => ?_) <;> (try subst hp) <;> refine nA ?_)
 |(refine MB_ndec (fun hp hb => ?_) (fun hp hb => ?_) <;> (try subst hp) <;> refine nA ?_)
 |(refine MG_dec (fun hp hb => ?_) (fun hp hb => ?_) <;> (try subst hp) <;> refine nA ?_)
 |(refine MG_ndec (fun hp hb => ?_) (fun hp hb => ?_) <;> (try subst hp) <;> refine nA ?_)
 |(refine MB_nsplit (fun hb => ?_) (fun hb => ?_) <;> (first | (subst hb; (try have hnd := hnd rfl); (try simp only [decide_eq_true_eq] at hnd); (try subst hnd); first | contradiction | refine nA ?_) | refine nA ?_))
 |(refine MB_split (fun hb => ?_) (fun hb => ?_) <;> (first | (subst hb; (try have hnd := hnd rfl); (try simp only [decide_eq_true_eq] at hnd); (try subst hnd); first | contradiction | refine nA ?_) | refine nA ?_))
 |(refine MG_split (fun hb => ?_) (fun hb => ?_) <;> (first | (subst hb; (try have hnd := hnd rfl); (try simp only [decide_eq_true_eq] at hnd); (try subst hnd); first | contradiction | refine nA ?_) | refine nA ?_))
 |exact kB3
 |(refine MIX_re (by assumption) rfl (‹SlP _ _› : SlP _ _).1 (by omega) ?_; refine nA ?_)
 |(refine MIX_S (P := EZ _) EZ.len ‹SlP (EZ _) _› (by omega) (by omega) (fun y hy hmem hg => ?_); obtain ⟨ykind, yop, yref, ychain, yflags, ynn, ystr, ytext, ykids, yprops, yparts, yfns, yclasses, rfl, yhn, yl_str, yht, yl_kids, yl_props, yl_parts, yl_fns, yl_classes⟩ := hy.1.open hy.le; have := yl_str.1; have := yl_str.2.1; have := yl_kids.1; have := yl_kids.2.1; have := yl_props.1; have := yl_props.2.1; have := yl_parts.1; have := yl_parts.2.1; have := yl_fns.1; have := yl_fns.2.1; have := yl_classes.1; have := yl_classes.2.1; refine nA ?_)
 |(refine MSSL_S (P := EZ _) EZ.len ‹SlP (EZ _) _› (by omega) (by omega) (fun v hv hg => ?_); have := hv.1; have := hv.2.1; refine nA ?_)
 |(refine MIX_S (P := PZ _) PZ.len ‹SlP (PZ _) _› (by omega) (by omega) (fun y hy hmem hg => ?_); obtain ⟨ykind, yflags, ykey, yvalue, rfl, yl_key, yl_value⟩ := hy.1.open hy.le; have := yl_key.1; have := yl_key.2.1; have := yl_value.1; have := yl_value.2.1; refine nA ?_)
 |(refine MSSL_S (P := PZ _) PZ.len ‹SlP (PZ _) _› (by omega) (by omega) (fun v hv hg => ?_); have := hv.1; have := hv.2.1; refine nA ?_)
 |(refine MIX_S (P := QZ _) QZ.len ‹SlP (QZ _) _› (by omega) (by omega) (fun y hy hmem hg => ?_); obtain ⟨yvalue, ystr, ytext, rfl, yl_value, yl_str, yht⟩ := hy.1.open hy.le; have := yl_value.1; have := yl_value.2.1; have := yl_str.1; have := yl_str.2.1; refine nA ?_)
 |(refine MSSL_S (P := QZ _) QZ.len ‹SlP (QZ _) _› (by omega) (by omega) (fun v hv hg => ?_); have := hv.1; have := hv.2.1; refine nA ?_)
 |(refine MIX_S (P := BZ _) BZ.len ‹SlP (BZ _) _› (by omega) (by omega) (fun y hy hmem hg => ?_); obtain ⟨ykind, yref, yitems, yrest, rfl, yl_items⟩ := hy.1.open hy.le; have := yl_items.1; have := yl_items.2.1; refine nA ?_)
 |(refine MSSL_S (P := BZ _) BZ.len ‹SlP (BZ _) _› (by omega) (by omega) (fun v hv hg => ?_); have := hv.1; have := hv.2.1; refine nA ?_)
 |(refine MIX_S (P := IZ _) IZ.len ‹SlP (IZ _) _› (by omega) (by omega) (fun y hy hmem hg => ?_); obtain ⟨yflags, ykey, ydflt, ybkind, ybref, ybitems, ybrest, rfl, yl_key, yl_dflt, yhb0, yl_bitems⟩ := hy.1.open hy.le; have := yl_key.1; have := yl_key.2.1; have := yl_dflt.1; have := yl_dflt.2.1; have := yl_bitems.1; have := yl_bitems.2.1; refine nA ?_)
 |(refine MSSL_S (P := IZ _) IZ.len ‹SlP (IZ _) _› (by omega) (by omega) (fun v hv hg => ?_); have := hv.1; have := hv.2.1; refine nA ?_)
 |(refine MIX_S (P := AZ _) AZ.len ‹SlP (AZ _) _› (by omega) (by omega) (fun y hy hmem hg => ?_); obtain ⟨ybkind, ybref, ybitems, ybrest, ydflt, rfl, yhb0, yl_bitems, yl_dflt⟩ := hy.1.open hy.le; have := yl_bitems.1; have := yl_bitems.2.1; have := yl_dflt.1; have := yl_dflt.2.1; refine nA ?_)
 |(refine MSSL_S (P := AZ _) AZ.len ‹SlP (AZ _) _› (by omega) (by omega) (fun v hv hg => ?_); have := hv.1; have := hv.2.1; refine nA ?_)
 |(refine MIX_S (P := FZ _) FZ.len ‹SlP (FZ _) _› (by omega) (by omega) (fun y hy hmem hg => ?_); obtain ⟨yname, yflags, yargs, ybody, rfl, yl_args, yl_body⟩ := hy.1.open hy.le; have := yl_args.1; have := yl_args.2.1; have := yl_body.1; have := yl_body.2.1; refine nA ?_)
 |(refine MSSL_S (P := FZ _) FZ.len ‹SlP (FZ _) _› (by omega) (by omega) (fun v hv hg => ?_); have := hv.1; have := hv.2.1; refine nA ?_)
 |(refine MIX_S (P := MZ _) MZ.len ‹SlP (MZ _) _› (by omega) (by omega) (fun y hy hmem hg => ?_); obtain ⟨ykind, yflags, ykey, yvalue, yinit, yblock, rfl, yl_key, yl_value, yl_init, yl_block⟩ := hy.1.open hy.le; have := yl_key.1; have := yl_key.2.1; have := yl_value.1; have := yl_value.2.1; have := yl_init.1; have := yl_init.2.1; have := yl_block.1; have := yl_block.2.1; refine nA ?_)
 |(refine MSSL_S (P := MZ _) MZ.len ‹SlP (MZ _) _› (by omega) (by omega) (fun v hv hg => ?_); have := hv.1; have := hv.2.1; refine nA ?_)
 |(refine MIX_S (P := CZ _) CZ.len ‹SlP (CZ _) _› (by omega) (by omega) (fun y hy hmem hg => ?_); obtain ⟨yname, yext, ymembers, rfl, yl_ext, yl_members⟩ := hy.1.open hy.le; have := yl_ext.1; have := yl_ext.2.1; have := yl_members.1; have := yl_members.2.1; refine nA ?_)
 |(refine MSSL_S (P := CZ _) CZ.len ‹SlP (CZ _) _› (by omega) (by omega) (fun v hv hg => ?_); have := hv.1; have := hv.2.1; refine nA ?_)
 |(refine MIX_S (P := DZ _) DZ.len ‹SlP (DZ _) _› (by omega) (by omega) (fun y hy hmem hg => ?_); obtain ⟨ybkind, ybref, ybitems, ybrest, yvalue, rfl, yhb0, yl_bitems, yl_value⟩ := hy.1.open hy.le; have := yl_bitems.1; have := yl_bitems.2.1; have := yl_value.1; have := yl_value.2.1; refine nA ?_)
 |(refine MSSL_S (P := DZ _) DZ.len ‹SlP (DZ _) _› (by omega) (by omega) (fun v hv hg => ?_); have := hv.1; have := hv.2.1; refine nA ?_)
 |(refine MIX_S (P := KZ _) KZ.len ‹SlP (KZ _) _› (by omega) (by omega) (fun y hy hmem hg => ?_); obtain ⟨yvalue, ybody, rfl, yl_value, yl_body⟩ := hy.1.open hy.le; have := yl_value.1; have := yl_value.2.1; have := yl_body.1; have := yl_body.2.1; refine nA ?_)
 |(refine MSSL_S (P := KZ _) KZ.len ‹SlP (KZ _) _› (by omega) (by omega) (fun v hv hg => ?_); have := hv.1; have := hv.2.1; refine nA ?_)
 |(refine MIX_S (P := SZ _) SZ.len ‹SlP (SZ _) _› (by omega) (by omega) (fun y hy hmem hg => ?_); obtain ⟨ykind, yop, yref, yflags, ystr, yexprs, ykids, ydecls, ycases, yfns, yclasses, rfl, yl_str, yl_exprs, yl_kids, yl_decls, yl_cases, yl_fns, yl_classes⟩ := hy.1.open hy.le; have := yl_str.1; have := yl_str.2.1; have := yl_exprs.1; have := yl_exprs.2.1; have := yl_kids.1; have := yl_kids.2.1; have := yl_decls.1; have := yl_decls.2.1; have := yl_cases.1; have := yl_cases.2.1; have := yl_fns.1; have := yl_fns.2.1; have := yl_classes.1; have := yl_classes.2.1; refine nA ?_)
 |(refine MSSL_S (P := SZ _) SZ.len ‹SlP (SZ _) _› (by omega) (by omega) (fun v hv hg => ?_); have := hv.1; have := hv.2.1; refine nA ?_)
 |(refine MIX_row (by omega) (by omega) ?_; refine nA ?_)
 |exact trivial
 |exact kZ3
 |fail
 first | done | fail) : p := h
theorem dC3 {p : Prop} (h : p := by (first | exact dF3 | (refine fB3 hTT ?_; rfl))) : p := h
theorem dD3 {p : Prop} (h : p := by first | (first | rfl | exact dF3) | fail) : p := h
theorem dQ3 {p : Prop} (h : p := by first | (first | rfl | exact dF3 | (simp only [deepL, deepB, Bool.and_true, Bool.and_self, *]; done)) | fail) : p := h
theorem As3 {p : Prop} (h : p := by
 repeat' first
 |contradiction
 |exact kA3
 |(simp (disch := omega) only [wrap_i64, wrap_u64, and_low, fdiv32, fdiv1, tdiv32, tmod32, min_sh, and_one, and_m52, or52, or32, tdiv10, tmod10, and_m11, fdiv52, fdiv63, or52r, and_m63]; (try refine fB3 hTT ?_))
 |exact kN3
 |(simp only [M_reg]; (try refine fB3 hTT ?_))
 |(simp only [M_dreg_nil]; (try refine fB3 hTT ?_))
 |(simp only [M_dreg]; (try refine fB3 hTT ?_))
 |(refine MB_dec (fun hp hb => ?_) (fun hp hb => ?_) <;> refine fB3 hb ?_)
 |(refine MB_ndec (fun hp hb => ?_) (fun hp hb => ?_) <;> refine fB3 hb ?_)
 |(refine MG_dec (fun hp hb => ?_) (fun hp hb => ?_) <;> refine fB3 hb ?_)
 |(refine MG_ndec (fun hp hb => ?_) (fun hp hb => ?_) <;> refine fB3 hb ?_)
 |(refine MB_nsplit (fun hb => ?_) (fun hb => ?_) <;> (first | (subst hb; refine fB3 hTT ?_) | refine fB3 hb ?_))
 |(refine MB_split (fun hb => ?_) (fun hb => ?_) <;> (first | (subst hb; refine fB3 hTT ?_) | refine fB3 hb ?_))
 |(refine MG_split (fun hb => ?_) (fun hb => ?_) <;> (first | (subst hb; refine fB3 hTT ?_) | refine fB3 hb ?_))
 |exact kB3
 |(refine M_sxE ?_; (try refine fB3 hTT ?_); refine MSX_re (by omega) (by omega) (fun b hb hb0 hb1 => ?_); refine fB3 hTT ?_)
 |(refine M_sstrE ?_; (try simp only [Option.map_some, Option.map_none]); (try refine fB3 hTT ?_); refine MSS_re rfl rfl (by omega) (by omega) (by omega) (fun z hz hzs => ?_); refine fB3 hTT ?_)
 |(refine MSS_re rfl rfl (by omega) (by omega) (by omega) (fun z hz hzs => ?_); refine fB3 hTT ?_)
 |(refine MSX_re (by omega) (by omega) (fun b hb hb0 hb1 => ?_); refine fB3 hTT ?_)
 |(rw [if_pos (by first | omega | (simp only [ByteArray.size_append, bs_size, List.length_cons, List.length_nil]; omega))]; refine fB3 hTT ?_)
 |exact trivial
 |exact kZ3
 |fail
 first | done | fail) : p := h
theorem dF4 {p : Prop} (h : p := by (refine fB4 hTT ?_; exact trivial)) : p := h
theorem dD4 {p : Prop} (h : p := by first | (first | rfl | exact dF4) | fail) : p := h
theorem dQ4 {p : Prop} (h : p := by first | (first | rfl | exact dF4 | (simp only [deepL, deepB, Bool.and_true, Bool.and_self, *]; done)) | fail) : p := h
theorem As4 {p : Prop} (h : p := by
 repeat' first
 |contradiction
 |exact kA4
 |(simp (disch := omega) only [wrap_i64, wrap_u64, and_low, fdiv32, fdiv1, tdiv32, tmod32, min_sh, and_one, and_m52, or52, or32, tdiv10, tmod10, and_m11, fdiv52, fdiv63, or52r, and_m63]; (try refine fB4 hTT ?_))
 |exact kN4
 |(simp only [M_reg]; (try refine fB4 hTT ?_))
 |(simp only [M_dreg_nil]; (try refine fB4 hTT ?_))
 |(simp only [M_dreg]; (try refine fB4 hTT ?_))
 |(refine MB_dec (fun hp hb => ?_) (fun hp hb => ?_) <;> refine fB4 hb ?_)
 |(refine MB_ndec (fun hp hb => ?_) (fun hp hb => ?_) <;> refine fB4 hb ?_)
 |(refine MG_dec (fun hp hb => ?_) (fun hp hb => ?_) <;> refine fB4 hb ?_)
 |(refine MG_ndec (fun hp hb => ?_) (fun hp hb => ?_) <;> refine fB4 hb ?_)
 |(refine MB_nsplit (fun hb => ?_) (fun hb => ?_) <;> (first | (subst hb; refine fB4 hTT ?_) | refine fB4 hb ?_))
 |(refine MB_split (fun hb => ?_) (fun hb => ?_) <;> (first | (subst hb; refine fB4 hTT ?_) | refine fB4 hb ?_))
 |(refine MG_split (fun hb => ?_) (fun hb => ?_) <;> (first | (subst hb; refine fB4 hTT ?_) | refine fB4 hb ?_))
 |exact kB4
 |(refine M_sxE ?_; (try refine fB4 hTT ?_); refine MSX_re (by omega) (by omega) (fun b hb hb0 hb1 => ?_); refine fB4 hTT ?_)
 |(refine M_sstrE ?_; (try simp only [Option.map_some, Option.map_none]); (try refine fB4 hTT ?_); refine MSS_re rfl rfl (by omega) (by omega) (by omega) (fun z hz hzs => ?_); refine fB4 hTT ?_)
 |(refine MSS_re rfl rfl (by omega) (by omega) (by omega) (fun z hz hzs => ?_); refine fB4 hTT ?_)
 |(refine MSX_re (by omega) (by omega) (fun b hb hb0 hb1 => ?_); refine fB4 hTT ?_)
 |(rw [if_pos (by first | omega | (simp only [ByteArray.size_append, bs_size, List.length_cons, List.length_nil]; omega))]; refine fB4 hTT ?_)
 |exact trivial
 |exact kZ4
 |fail
 first | done | fail) : p := h
theorem As5 {p : Prop} (h : p := by
 repeat' first
 |contradiction
 |exact kA5
 |(simp (disch := omega) only [wrap_i64, wrap_u64, and_low, fdiv32, fdiv1, tdiv32, tmod32, min_sh, and_one, and_m52, or52, or32, tdiv10, tmod10, and_m11, fdiv52, fdiv63, or52r, and_m63]; (try refine fB5 hTT ?_))
 |exact kN5
 |(simp only [M_reg]; (try refine fB5 hTT ?_))
 |(simp only [M_dreg_nil]; (try refine fB5 hTT ?_))
 |(simp only [M_dreg]; (try refine fB5 hTT ?_))
 |(refine MB_dec (fun hp hb => ?_) (fun hp hb => ?_) <;> refine fB5 hb ?_)
 |(refine MB_ndec (fun hp hb => ?_) (fun hp hb => ?_) <;> refine fB5 hb ?_)
 |(refine MG_dec (fun hp hb => ?_) (fun hp hb => ?_) <;> refine fB5 hb ?_)
 |(refine MG_ndec (fun hp hb => ?_) (fun hp hb => ?_) <;> refine fB5 hb ?_)
 |(refine MB_nsplit (fun hb => ?_) (fun hb => ?_) <;> (first | (subst hb; refine fB5 hTT ?_) | refine fB5 hb ?_))
 |(refine MB_split (fun hb => ?_) (fun hb => ?_) <;> (first | (subst hb; refine fB5 hTT ?_) | refine fB5 hb ?_))
 |(refine MG_split (fun hb => ?_) (fun hb => ?_) <;> (first | (subst hb; refine fB5 hTT ?_) | refine fB5 hb ?_))
 |exact kB5
 |(refine M_sxE ?_; (try refine fB5 hTT ?_); refine MSX_re (by omega) (by omega) (fun b hb hb0 hb1 => ?_); refine fB5 hTT ?_)
 |(refine M_sstrE ?_; (try simp only [Option.map_some, Option.map_none]); (try refine fB5 hTT ?_); refine MSS_re rfl rfl (by omega) (by omega) (by omega) (fun z hz hzs => ?_); refine fB5 hTT ?_)
 |(refine MSS_re rfl rfl (by omega) (by omega) (by omega) (fun z hz hzs => ?_); refine fB5 hTT ?_)
 |(refine MSX_re (by omega) (by omega) (fun b hb hb0 hb1 => ?_); refine fB5 hTT ?_)
 |(rw [if_pos (by first | omega | (simp only [ByteArray.size_append, bs_size, List.length_cons, List.length_nil]; omega))]; refine fB5 hTT ?_)
 |exact trivial
 |exact kZ5
 |fail
 first | done | fail) : p := h
end Go.Pi
end
section
namespace Go.Pi
section
variable {T : Nat → Option FX} {X : CallF} {G : Nat → PV} {Q : Ex → St → Prop} {w : List Wk}
variable {i len id n : Nat} {tr : Trk} {d : Option Nat} {os : List XO} {t : Nat → PV} {H : Heap}
theorem MIX_S {P : List PV → Prop} {s : Nat} {v : PV} {m : Int} (hs : ∀ {y}, P y → y.length = s) (h : SlP P v) (h0 : 0 ≤ m) (hlt : m < (els v).length)
  (k : ∀ y, P y → y ∈ els v → (els v)[m.toNat]? = some y → M T X G (.ops i os len tr :: w) ⟨put t d (.fp y), H, n⟩ Q) : MIX T X G s v (.int .i64 m) d i os len tr w t H n Q := MIX_P hs h.1 h.2.2 h0 hlt k
theorem MIX_re {s : Nat} {v : PV} {m : Int} {y : List PV} (hg : (els v)[m.toNat]? = some y) (hs : y.length = s) (hv : IsSl v) (h0 : 0 ≤ m)
  (k : M T X G (.ops i os len tr :: w) ⟨put t d (.fp y), H, n⟩ Q) : MIX T X G s v (.int .i64 m) d i os len tr w t H n Q := by
 obtain ⟨p, rfl⟩ := Int.eq_ofNat_of_zero_le h0
 obtain ⟨hp, hy⟩ := List.getElem?_eq_some_iff.1 hg
 have hp : p < (els v).length := by simpa using hp
 have hy : (els v)[p] = y := by simpa using hy
 have hix := ix_els (s := s) hv hp (by rw [hy]; exact hs)
 unfold MIX
 rw [hix]
 rw [hy]
 exact k
def MSSL (T : Nat → Option FX) (X : CallF) (G : Nat → PV) (s : Nat) (v j : PV) (d : Option Nat) (i : Nat) (os : List XO) (len : Nat) (tr : Trk) (w : List Wk) (t : Nat → PV) (H : Heap) (n : Nat) (Q : Ex → St → Prop) : Prop :=
 MR T X G ((opRun (ev (fun _ => v) (fun _ => j)) H 0 0 (.ssl s (.g 0) (some (.t 0)) none)).map fun r => (r.1, H.upd r.2)) d i os len tr w t n Q
theorem M_sslE {s : Nat} {x j : Opd} : M T X G (.ops i (⟨d, none, id, .ssl s x (some j) none⟩ :: os) len tr :: w) ⟨t, H, n⟩ Q ↔ MSSL T X G s (ev G t x) (ev G t j) d (i + 1) os len (push tr ([], [])) w t H n Q := M_ssl s x (some j) none
theorem deepLL_sub {xs ys : List (List PV)} (h : deepLL xs = true) (hs : ∀ y, y ∈ ys → y ∈ xs) : deepLL ys = true := deepLL_of fun y hy => deepLL_mem h y (hs y hy)
theorem MSSL_S {P : List PV → Prop} {s : Nat} {v : PV} {m : Int} (hs : ∀ {y}, P y → y.length = s) (h : SlP P v) (h0 : 0 ≤ m) (hlt : m ≤ (els v).length)
  (k : ∀ v', SlP P v' → els v' = (els v).drop m.toNat → M T X G (.ops i os len tr :: w) ⟨put t d v', H, n⟩ Q) : MSSL T X G s v (.int .i64 m) d i os len tr w t H n Q := by
 obtain ⟨p, rfl⟩ := Int.eq_ofNat_of_zero_le h0
 obtain ⟨h1, h2, h3⟩ := h
 unfold MSSL
 rcases h1 with rfl | ⟨xs, rfl, hl⟩
 ·simp only [els, List.length_nil] at hlt
  have : p = 0 := by omega
  subst this
  exact k .nils ⟨.inl rfl, rfl, h3⟩ (by simp [els])
 ·simp only [els] at hlt h3
  have e : opRun (ev (fun _ => .sl xs) (fun _ => .int .i64 (p : Int))) H 0 0 (.ssl s (.g 0) (some (.t 0)) none) = some (.sl (xs.drop p), none) := by
   have hp : p ≤ xs.length := by omega
   have ha : xs.all (fun c => c.length == s) = true := by simp only [List.all_eq_true, beq_iff_eq]; exact fun y hy => hs (h3 y hy)
   simp only [opRun, ev, boundP, asNat]
   rw [if_pos (by omega)]
   simp only [Int.toNat_natCast]
   rw [if_pos ⟨hp, Nat.le_refl _, ha⟩, List.take_length]
  rw [e]
  refine k (.sl (xs.drop p)) ⟨.inr ⟨_, rfl, by simp; omega⟩, ?_, fun y hy => h3 y (List.mem_of_mem_drop hy)⟩ (by simp [els])
  simp only [deepB] at h2 ⊢
  exact deepLL_sub h2 fun y hy => List.mem_of_mem_drop hy
end
theorem SlP.not_ptr {P : List PV → Prop} {b g o : Nat} (h : SlP P (.ptr b g o)) : False := by
 rcases h.1 with h | ⟨xs, h, _⟩ <;> cases h
theorem MB_nsplit {T : Nat → Option FX} {X : CallF} {G : Nat → PV} {Q : Ex → St → Prop} {w : List Wk} {c : Bool} {a b : List XC} {s : St} (h1 : c = true → M T X G (b.map .code ++ w) s Q) (h2 : c = false → M T X G (a.map .code ++ w) s Q) : MB T X G (.bool (!c)) a b w s Q := by
 cases c
 ·exact MB_t.2 (h2 rfl)
 ·exact MB_f.2 (h1 rfl)
attribute [go_sem] M_sslE
end Go.Pi
end
section
namespace Go.Pi
structure RndAt (P A B E : Nat) : Prop where
 lt : A * P < 9007199254740992 * (B * 2 ^ E)
 ge : E = 0 ∨ ∃ E', E = E' + 1 ∧ 9007199254740992 * (B * 2 ^ E') ≤ A * P
def rndQ (N D : Nat) : Nat := if D < 2 * (N % D) ∨ (2 * (N % D) = D ∧ (N / D) % 2 = 1) then N / D + 1 else N / D
def RndR (P A B r : Nat) : Prop := ∃ E, RndAt P A B E ∧ r = min (E * 4503599627370496 + rndQ (A * P) (B * 2 ^ E)) (2047 * 4503599627370496)
theorem pw_lt (B : Nat) {a b : Nat} (h : a < b) : 2 * (B * 2 ^ a) ≤ B * 2 ^ b := by
 obtain ⟨k, rfl⟩ : ∃ k, b = a + 1 + k := ⟨b - (a + 1), by omega⟩
 have h1 : 2 ^ (a + 1 + k) = 2 ^ a * 2 * 2 ^ k := by rw [Nat.pow_add, Nat.pow_succ]
 have h2 : 1 ≤ 2 ^ k := Nat.one_le_two_pow
 have h3 : B * 2 ^ (a + 1 + k) = 2 * (B * 2 ^ a) * 2 ^ k := by rw [h1, ← Nat.mul_assoc, ← Nat.mul_assoc, Nat.mul_comm 2 (B * 2 ^ a)]
 rw [h3]
 exact Nat.le_mul_of_pos_right _ h2
theorem rndQ_near {N D m : Nat} (hD : 0 < D) (h1 : m * D ≤ N → 2 * (N - m * D) < D) (h2 : N < m * D → 2 * (m * D - N) < D) : rndQ N D = m := by
 unfold rndQ
 by_cases h : m * D ≤ N
 ·have h3 := h1 h
  have hq : N / D = m := Nat.div_eq_of_lt_le h (by rw [Nat.succ_mul]; omega)
  have hr : N % D = N - m * D := by
   have := Nat.div_add_mod N D
   rw [hq, Nat.mul_comm] at this
   omega
  rw [hq, hr, if_neg]
  omega
 ·have h3 := h2 (by omega)
  obtain ⟨k, rfl⟩ : ∃ k, m = k + 1 := by
   cases m with
   |zero => omega
   |succ k => exact ⟨k, rfl⟩
  have e0 : (k + 1) * D = k * D + D := Nat.succ_mul k D
  have hq : N / D = k := Nat.div_eq_of_lt_le (by omega) (by omega)
  have hr : N % D = N - k * D := by
   have := Nat.div_add_mod N D
   rw [hq, Nat.mul_comm] at this
   omega
  rw [hq, hr, if_pos]
  left; omega
theorem rnd_back {P A B m E r : Nat} (hB : 0 < B) (h : RndR P A B r) (hm : m < 9007199254740992) (hE : E = 0 ∨ 4503599627370496 ≤ m) (hE2 : E ≤ 2045)
  (c1 : m * (B * 2 ^ E) ≤ A * P → 2 * (A * P - m * (B * 2 ^ E)) < B * 2 ^ E)
  (c2 : A * P < m * (B * 2 ^ E) → 2 * (m * (B * 2 ^ E) - A * P) < B * 2 ^ E)
  (c3 : A * P < m * (B * 2 ^ E) → m = 4503599627370496 → 4 * (m * (B * 2 ^ E) - A * P) < B * 2 ^ E) : r = E * 4503599627370496 + m := by
 obtain ⟨E', ⟨hlt, hge⟩, rfl⟩ := h
 have hD : 0 < B * 2 ^ E := Nat.mul_pos hB (Nat.pow_pos (by decide))
 have hD' : 0 < B * 2 ^ E' := Nat.mul_pos hB (Nat.pow_pos (by decide))
 obtain ⟨N, hN⟩ : ∃ N, N = A * P := ⟨_, rfl⟩
 rw [← hN] at hlt c1 c2 c3 hge ⊢
 have hmD : m * (B * 2 ^ E) + B * 2 ^ E ≤ 9007199254740992 * (B * 2 ^ E) := by
  rw [← Nat.succ_mul]; exact Nat.mul_le_mul_right _ hm
 have hle : E' ≤ E := by
  refine Nat.le_of_not_lt fun hlt2 => ?_
  rcases hge with h0 | ⟨k, rfl, hk⟩
  ·omega
  ·have : B * 2 ^ E ≤ B * 2 ^ k := Nat.mul_le_mul_left _ (Nat.pow_le_pow_right (by decide) (by omega))
   omega
 by_cases hc : E = 0 ∨ 4503599627370496 * (B * 2 ^ E) ≤ N
 ·have e : E' = E := by
   refine Nat.le_antisymm hle (Nat.le_of_not_lt fun hlt2 => ?_)
   have := pw_lt B hlt2
   omega
  subst e
  rw [rndQ_near hD c1 c2]
  omega
 ·have hE0 : E ≠ 0 := fun h => hc (.inl h)
  have hN2 : N < 4503599627370496 * (B * 2 ^ E) := Nat.lt_of_not_le fun h => hc (.inr h)
  have hm2 : 4503599627370496 ≤ m := hE.resolve_left hE0
  have hmeq : m = 4503599627370496 := by
   refine Nat.le_antisymm (Nat.le_of_not_lt fun h4 => ?_) hm2
   have h5 : (4503599627370496 + 1) * (B * 2 ^ E) ≤ m * (B * 2 ^ E) := Nat.mul_le_mul_right _ h4
   rw [Nat.succ_mul] at h5
   have := c2 (by omega)
   omega
  subst hmeq
  have h4 := c3 hN2 rfl
  obtain ⟨F, rfl⟩ : ∃ F, E = F + 1 := ⟨E - 1, by omega⟩
  have hF : B * 2 ^ (F + 1) = 2 * (B * 2 ^ F) := by rw [Nat.pow_succ, Nat.mul_comm (2 ^ F) 2, Nat.mul_left_comm]
  rw [hF] at h4 hN2 hmD
  have e : E' = F := by
   have h6 : E' ≤ F := by
    refine Nat.le_of_not_lt fun h7 => ?_
    have : E' = F + 1 := by omega
    subst this
    rcases hge with h0 | ⟨k, hk1, hk⟩
    ·omega
    ·have : k = F := by omega
     subst this
     omega
   refine Nat.le_antisymm h6 (Nat.le_of_not_lt fun hlt2 => ?_)
   have := pw_lt B hlt2
   omega
  subst e
  rw [rndQ_near (m := 9007199254740992) hD' (by omega) (by omega)]
  omega
end Go.Pi
end
