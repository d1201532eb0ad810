import Derived.Test.YtpnkedaceaodbaaGreatDoorP06
import Derived.Test.YtpnkedaceaodbaaGreatDoorP07
import Derived.Test.YtpnkedaceaodbaaGreatDoorP08
import Derived.Test.YtpnkedaceaodbaaGreatDoorP09
/- Part of the proof. -/
set_option linter.all false
section
namespace Go.Pi
section
variable {T : Nat → Option FX} {X : CallF} {G : Nat → PV} {Q : Ex → St → Prop} {w : List Wk}
variable {i len id n : Nat} {tr : Trk} {d : Option Nat} {os : List XO} {t : Nat → PV} {H : Heap}
def Mt (T : Nat → Option FX) (X : CallF) (G : Nat → PV) (f : Nat) (args : List PV) (R : Bool → PV → Prop) : Prop :=
 ∀ (e : Nat) (fine : Bool), ∃ r cells, Fn T X G f (.ptr 0 0 0 :: args) (some ⟨e, 0, [.bool fine], 0⟩) r cells ∧ ∃ fine', cells = [.bool fine'] ∧ (fine' = true → fine = true) ∧ R fine' r
theorem MC_mt {F : Prop} {f e : Nat} {b0 : Bool} {args : List PV} {R : Bool → PV → Prop} (hM : Mt T X G f args R) (h0 : H 0 = some ⟨e, 0, [.bool b0], 0⟩) (hd : deepL args = true) (hF : b0 = true → F)
  (k : ∀ r b1, R b1 r → (b1 = true → b0 = true) → (b1 = true → F) → M T X G (.ops i os len tr :: w) ⟨put t d r, H.put 0 (some ⟨e, 0, [.bool b1], 0⟩), n⟩ Q) (hro : roF f = false := by rfl) : MC T X G f (.ptr 0 0 0 :: args) d i os len tr w t H n Q := by
 obtain ⟨r, cells, h1, b1, rfl, hb, h2⟩ := hM e b0
 refine MC_ptr hro h0 rfl (by rfl) (settleL_deep hd) (by rfl) ⟨r, _, h1, rfl, ?_⟩
 rw [drop_none]
 exact k r b1 h2 hb fun h => hF (hb h)
theorem M_regm {F : Prop} {ops : List XO} (lo : Nat) {b e : Nat} {b0 : Bool} (h1 : firstD ops = some lo) (h2 : lastD ops = some b) (hF : b0 = true → F)
  (h : ∀ R t0 H0, (∀ i, t0 i = t i) → (∀ i, H0 i = H i) → (∀ t' n' c b1, Low lo b t0 t' → t' b = .bool c → (b1 = true → F) → M T X G R ⟨t', H0.put 0 (some ⟨e, 0, [.bool b1], 0⟩), n'⟩ Q) → M T X G (.code (.reg ops) :: R) ⟨t0, H0, n⟩ Q)
  (hk : ∀ c g n' b1, (b1 = true → F) → M T X G w ⟨forget lo b (.bool c) g t, H.put 0 (some ⟨e, 0, [.bool b1], 0⟩), n'⟩ Q) : M T X G (.code (.reg ops) :: w) ⟨t, H, n⟩ Q :=
 h w t H (fun _ => rfl) (fun _ => rfl) fun t' n' c b1 hl hb hF => by rw [forget_of hl hb]; exact hk _ _ _ _ hF
theorem Heap.put_put (H : Heap) (b : Nat) (c c' : Option Chunk) : (H.put b c).put b c' = H.put b c' := by
 funext x; simp only [Heap.put]; split <;> rfl
end
end Go.Pi
end
section
namespace Go.Pi
def Sls (v : PV) : Prop := v = .nils ∨ ∃ xs, v = .sl xs
inductive Nd : List PV → Prop
 |mk (k num at_ : Int) (text more : ByteArray) (kids : PV) (hl : Sls kids) (hb : (els kids).length ≤ 4194304) (hk : ∀ x, x ∈ els kids → Nd x) (hn : k = 129 ∨ k = 25 → 1 ≤ (els kids).length)
   (hd : deepB kids = true) (hnum : k = 105 → 0 ≤ num ∧ num < 18446744073709551616) (htxt : k = 106 → text.size ≤ 1099511627776) : Nd [.int .i64 k, .str text, .str more, .int .u64 num, kids, .int .i64 at_]
def NdF (k : Int) (kids : PV) : Prop := Sls kids ∧ deepB kids = true ∧ (els kids).length ≤ 4194304 ∧ (∀ x, x ∈ els kids → Nd x) ∧ (k = 129 ∨ k = 25 → 1 ≤ (els kids).length)
theorem Nd_iff {k num at_ : Int} {text more : ByteArray} {kids : PV} : Nd [.int .i64 k, .str text, .str more, .int .u64 num, kids, .int .i64 at_] ↔ NdF k kids ∧ (k = 105 → 0 ≤ num ∧ num < 18446744073709551616) ∧ (k = 106 → text.size ≤ 1099511627776) :=
 ⟨fun h => by cases h; exact ⟨⟨‹_›, ‹_›, ‹_›, ‹_›, ‹_›⟩, ‹_›, ‹_›⟩, fun ⟨⟨a, b, c, d, e⟩, f, g⟩ => .mk _ _ _ _ _ _ a c d e b f g⟩
theorem Nd_mk {k num at_ : Int} {text more : ByteArray} {kids : PV} (h : NdF k kids) (hn : k = 105 → 0 ≤ num ∧ num < 18446744073709551616 := by intro h; omega) (hn2 : k = 106 → text.size ≤ 1099511627776 := by intro h; omega) : Nd [.int .i64 k, .str text, .str more, .int .u64 num, kids, .int .i64 at_] := Nd_iff.2 ⟨h, hn, hn2⟩
theorem Nd.num {k num at_ : Int} {text more : ByteArray} {kids : PV} (h : Nd [.int .i64 k, .str text, .str more, .int .u64 num, kids, .int .i64 at_]) (hk : k = 105) : 0 ≤ num ∧ num < 18446744073709551616 := (Nd_iff.1 h).2.1 hk
theorem Nd_cells {k num at_ : Int} {text more : ByteArray} {kids : PV} (h1 : k ≠ 105) (h2 : k ≠ 106) : Nd [.int .i64 k, .str text, .str more, .int .u64 num, kids, .int .i64 at_] ↔ NdF k kids :=
 ⟨fun h => (Nd_iff.1 h).1, fun h => Nd_iff.2 ⟨h, fun e => (h1 e).elim, fun e => (h2 e).elim⟩⟩
theorem Nd_num {num at_ : Int} {text more : ByteArray} {kids : PV} (h1 : 0 ≤ num) (h2 : num < 18446744073709551616) : Nd [.int .i64 105, .str text, .str more, .int .u64 num, kids, .int .i64 at_] ↔ NdF 105 kids :=
 ⟨fun h => (Nd_iff.1 h).1, fun h => Nd_iff.2 ⟨h, fun _ => ⟨h1, h2⟩, fun e => absurd e (by decide)⟩⟩
theorem Nd.big {k num at_ : Int} {text more : ByteArray} {kids : PV} (h : Nd [.int .i64 k, .str text, .str more, .int .u64 num, kids, .int .i64 at_]) (hk : k = 106) : text.size ≤ 1099511627776 := (Nd_iff.1 h).2.2 hk
theorem Nd.open {c : List PV} (h : Nd c) : ∃ (k : Int) (text more : ByteArray) (num : Int) (kids : PV) (at_ : Int), c = [.int .i64 k, .str text, .str more, .int .u64 num, kids, .int .i64 at_] ∧ NdF k kids := by
 cases h
 exact ⟨_, _, _, _, _, _, rfl, ‹_›, ‹_›, ‹_›, ‹_›, ‹_›⟩
theorem Nd.len {c : List PV} (h : Nd c) : c.length = 6 := by cases h; rfl
theorem Nd.deep {c : List PV} (h : Nd c) : deepL c = true := by
 cases h
 simp only [deepL, deepB, Bool.and_true, Bool.true_and, *]
theorem NdF_nils {k : Int} : NdF k .nils ↔ (k ≠ 129 ∧ k ≠ 25) := by
 constructor
 ·rintro ⟨_, _, _, _, h⟩
  simp only [els, List.length_nil] at h
  refine ⟨fun e => ?_, fun e => ?_⟩
  ·have := h (.inl e); omega
  ·have := h (.inr e); omega
 ·rintro ⟨h1, h2⟩
  exact ⟨.inl rfl, rfl, by simp [els], fun x hx => absurd hx (by simp [els]), fun h => (h.elim h1 h2).elim⟩
theorem NdF_sl {k : Int} {cs : List (List PV)} : NdF k (.sl cs) ↔ (∀ c, c ∈ cs → Nd c) ∧ cs.length ≤ 4194304 ∧ (k = 129 ∨ k = 25 → 1 ≤ cs.length) := by
 constructor
 ·rintro ⟨_, _, h3, h4, h5⟩; exact ⟨h4, h3, h5⟩
 ·rintro ⟨h1, h2, h3⟩
  exact ⟨.inr ⟨_, rfl⟩, by simp only [deepB]; exact deepLL_of fun x hx => (h1 x hx).deep, h2, h1, h3⟩
def NdX (r : PV) : Prop := ∃ c, r = .agg c ∧ Nd c
theorem NdX_agg {c : List PV} : NdX (.agg c) ↔ Nd c := ⟨fun ⟨_, h, hc⟩ => by cases h; exact hc, fun h => ⟨_, rfl, h⟩⟩
def NdL (n : Nat) (r : PV) : Prop := Sls r ∧ deepB r = true ∧ (els r).length = n ∧ ∀ x, x ∈ els r → Nd x
theorem NdF_of {k : Int} {n : Nat} {r : PV} (h : NdL n r) (hn : n ≤ 4194304) (hk : k = 129 ∨ k = 25 → 1 ≤ n) : NdF k r := ⟨h.1, h.2.1, by rw [h.2.2.1]; exact hn, h.2.2.2, by rw [h.2.2.1]; exact hk⟩
section
variable {T : Nat → Option FX} {X : CallF} {G : Nat → PV} {Q : Ex → St → Prop} {w : List Wk}
variable {i len id n : Nat} {tr : Trk} {d : Option Nat} {os : List XO} {t : Nat → PV} {H : Heap}
theorem M_len_sls {x : Opd} (h : Sls (ev G t x)) : M T X G (.ops i (⟨d, none, id, .len x⟩ :: os) len tr :: w) ⟨t, H, n⟩ Q ↔
  M T X G (.ops (i + 1) os len (push tr ([], [])) :: w) ⟨put t d (.int .i64 ((els (ev G t x)).length : Int)), H, n⟩ Q := by
 rw [M_len]
 have e : runK (ev G t) H id (n + i) (.len x) = some (.int .i64 ((els (ev G t x)).length : Int), H) := by
  rcases h with h | ⟨xs, h⟩ <;> simp only [runK, opRun, h, els, Option.map_some, Heap.upd] <;> rfl
 rw [e, MR_some]
 rfl
theorem ix_sls {s i : Nat} {v : PV} (h : Sls v) (hi : i < (els v).length) (hs : (els v)[i].length = s) : ixRun s v (.int .i64 (i : Int)) = some (.fp (els v)[i], none) := by
 rcases h with rfl | ⟨xs, rfl⟩
 ·simp [els] at hi
 ·exact ix_sl hi hs
theorem MIX_N {k : Int} {v : PV} {m : Int} (h : NdF k v) (h0 : 0 ≤ m) (hlt : m < (els v).length)
  (kk : ∀ y, Nd y → y ∈ els v → (els v)[m.toNat]? = some y → M T X G (.ops i os len tr :: w) ⟨put t d (.fp y), H, n⟩ Q) : MIX T X G 6 v (.int .i64 m) d i os len tr w t H n Q := by
 obtain ⟨p, rfl⟩ := Int.eq_ofNat_of_zero_le h0
 have hp : p < (els v).length := by omega
 have hm := List.getElem_mem hp
 have hix := ix_sls (s := 6) h.1 hp (h.2.2.2.1 _ hm).len
 unfold MIX
 rw [hix]
 exact kk _ (h.2.2.2.1 _ hm) hm (by simp)
theorem MIX_row {s b g l : Nat} {m : Int} (h0 : 0 ≤ m) (hlt : m < l)
  (k : M T X G (.ops i os len tr :: w) ⟨put t d (.ptr b g (m.toNat * s)), H, n⟩ Q) : MIX T X G s (.row b g l) (.int .i64 m) d i os len tr w t H n Q := by
 obtain ⟨p, rfl⟩ := Int.eq_ofNat_of_zero_le h0
 unfold MIX
 have hp : p < l := by omega
 have e : asNat l (.int .i64 (p : Int)) = some p := by
  simp only [asNat]
  rw [if_pos ⟨by omega, by omega⟩]
  rfl
 simp only [ixRun, e, Option.map_some, MR_some, Heap.upd]
 exact k
end
theorem cellsOf_sls {v : PV} (h : Sls v) : cellsOf v = some [v] := by rcases h with rfl | ⟨xs, rfl⟩ <;> rfl
attribute [go_sem] M_len_sls Heap.put_put cellsOf_sls
attribute [go_sem 10] M_len
end Go.Pi
end
section
namespace Go.Pi
section
variable {T : Nat → Option FX} {X : CallF} {G : Nat → PV} {Q : Ex → St → Prop} {w : List Wk}
theorem M_app1 {A : List Nat} {i len id n e e2 s b rid st : Nat} {tr : Trk} {d : Option Nat} {os : List XO} {t : Nat → PV} {H : Heap} {y x : Opd} {ys : List (List PV)} {c : List PV}
  (hx : ev G t x = .row rid st 1) (hr : H rid = some ⟨e2, st, c, s⟩) (hc : c.length = s) (hcd : deepL c = true) (hg : Grow A H e s (ev G t y) ys) (hid : id ∈ A) (hrid : rid ∉ A) (hB : (ys.length + 1) * b ≤ 140737488355328)
  (h : ∀ v H' tr', Grow A H' e s v (ys ++ [c]) → (∀ c, c ∉ A → c ≠ rid → H' c = H c) → (tr = none → tr' = none) → M T X G (.ops (i + 1) os len tr' :: w) ⟨put t d v, H', n⟩ Q) : M T X G (.ops i (⟨d, none, id, .app e s b y x⟩ :: os) len tr :: w) ⟨t, H, n⟩ Q :=
 M_app_sl (A := A) (ys := ys) (zs := [c]) (ids := [rid]) (by rw [hx]; exact settle_one hr hc hcd) hg hid (by simpa using hrid) (by intro z hz; simp at hz; subst hz; exact ⟨hc, hcd⟩) (by simp) (by simpa using hB)
  fun v H' tr' h1 h2 h3 => h v H' tr' h1 (fun c hc hcr => h2 c hc (by simpa using hcr)) h3
theorem MIX_strs {i len id2 n b g l d d2 e s0 : Nat} {m : Int} {tr : Trk} {os : List XO} {t : Nat → PV} {H : Heap} {cells : List PV} (hH : H b = some ⟨e, g, cells, s0⟩) (h0 : 0 ≤ m) (hlt : m < l) (hl : l ≤ cells.length)
  (hc : cells.all (fun c => match c with | .str _ => true | _ => false) = true)
  (k : ∀ p s, M T X G (.ops (i + 1) os len (push tr ([b], [])) :: w) ⟨put (put t (some d) p) (some d2) (.str s), H, n⟩ Q) :
  MIX T X G 1 (.row b g l) (.int .i64 m) (some d) i (⟨some d2, none, id2, .ld false 1 (.t d)⟩ :: os) len tr w t H n Q := by
 refine MIX_row h0 hlt ?_
 rw [M_ld]
 obtain ⟨p, rfl⟩ := Int.eq_ofNat_of_zero_le h0
 have hp : p < cells.length := by omega
 have hs : ∃ s, cells[p] = .str s := by
  have := List.all_eq_true.1 hc _ (List.getElem_mem hp)
  revert this
  cases cells[p] <;> simp
 obtain ⟨s, hs⟩ := hs
 have e1 : runK (ev G (put t (some d) (.ptr b g ((p : Int).toNat * 1)))) H id2 (n + i) (.ld false 1 (.t d)) = some (.str s, H) := by
  simp only [runK, opRun, ev, put_same, Int.toNat_natCast, Nat.mul_one, cellsAt, hH]
  rw [if_pos ⟨trivial, by omega⟩]
  have : (cells.drop p).take 1 = [.str s] := by
   rw [List.drop_eq_getElem_cons hp, hs]; rfl
  simp only [this, Bool.false_eq_true, if_false, Option.map_some, Heap.upd]
 rw [e1, MR_some]
 have e2 : feet (ev G (put t (some d) (.ptr b g ((p : Int).toNat * 1)))) H id2 (.ld false 1 (.t d)) = ([b], []) := by simp only [feet, ev, put_same]
 rw [e2]
 exact k _ _
theorem Grow.settleN {A : List Nat} {H : Heap} {e s : Nat} {v : PV} {ys : List (List PV)} (h : Grow A H e s v ys) : ∃ y ids, (∀ n, Go.Pi.settle (n + 1) H v = some (y, ids)) ∧ (∀ b, b ∈ ids → b ∈ A) ∧ ((ys = [] ∧ y = .nils) ∨ y = .sl ys) ∧ deepB y = true := by
 rcases h.2 with ⟨rfl, rfl⟩ | ⟨id, st, hA, rfl, hH⟩
 ·exact ⟨.nils, [], fun n => settle_deep rfl, fun b hb => (by cases hb), .inl ⟨rfl, rfl⟩, rfl⟩
 ·have hl := flatten_len (fun y hy => (h.1 y hy).1)
  have e1 : ys.flatten.take (ys.length * s) = ys.flatten := List.take_of_length_le (by omega)
  refine ⟨.sl ys, [id], fun n => ?_, fun b hb => ?_, .inr rfl, ?_⟩
  ·rw [settle_rowN hH rfl (by show ys.length * s ≤ ys.flatten.length; omega) (by rw [e1]; exact deepL_flatten fun y hy => (h.1 y hy).2)]
   show some (PV.sl (group s ys.length (ys.flatten.take (ys.length * s))), [id]) = _
   rw [e1, group_flatten s ys fun y hy => (h.1 y hy).1]
  ·simp only [List.mem_singleton] at hb; subst hb; exact hA
  ·simp only [deepB]; exact deepLL_of fun y hy => (h.1 y hy).2
def gv (v : PV) (ys : List (List PV)) : PV := match v with | .nils => .nils | _ => .sl ys
def gi : PV → List Nat
 |.row b _ _ => [b]
 |_ => []
theorem Grow.settleE {A : List Nat} {H : Heap} {e s n : Nat} {v : PV} {ys : List (List PV)} (h : Grow A H e s v ys) : Go.Pi.settle (n + 1) H v = some (gv v ys, gi v) := by
 obtain ⟨y, ids, h1, h2, h3, h4⟩ := h.settleN
 rcases h.2 with ⟨rfl, rfl⟩ | ⟨id, st, hA, rfl, hH⟩
 ·exact settle_deep rfl
 ·have hl := flatten_len (fun y hy => (h.1 y hy).1)
  have e1 : ys.flatten.take (ys.length * s) = ys.flatten := List.take_of_length_le (by omega)
  rw [settle_rowN hH rfl (by show ys.length * s ≤ ys.flatten.length; omega) (by rw [e1]; exact deepL_flatten fun y hy => (h.1 y hy).2)]
  show some (PV.sl (group s ys.length (ys.flatten.take (ys.length * s))), [id]) = _
  rw [e1, group_flatten s ys fun y hy => (h.1 y hy).1]
  rfl
theorem Grow.gv {A : List Nat} {H : Heap} {e s : Nat} {v : PV} {ys : List (List PV)} (h : Grow A H e s v ys) : Sls (gv v ys) ∧ deepB (gv v ys) = true ∧ els (gv v ys) = ys ∧ ∀ b, b ∈ gi v → b ∈ A := by
 rcases h.2 with ⟨rfl, rfl⟩ | ⟨id, st, hA, rfl, hH⟩
 ·exact ⟨.inl rfl, rfl, rfl, fun b hb => by cases hb⟩
 ·exact ⟨.inr ⟨_, rfl⟩, by simp only [Go.Pi.gv, deepB]; exact deepLL_of fun y hy => (h.1 y hy).2, rfl, fun b hb => by simp only [gi, List.mem_singleton] at hb; rw [hb]; exact hA⟩
theorem Grow.row1 {A : List Nat} {H : Heap} {e s id st : Nat} {c : List PV} (hA : id ∈ A) (hH : H id = some ⟨e, st, c, s⟩) (hc : c.length = s) (hd : deepL c = true) : Grow A H e s (.row id st 1) [c] :=
 ⟨fun y hy => by simp at hy; subst hy; exact ⟨hc, hd⟩, .inr ⟨id, st, hA, rfl, by simp [hH]⟩⟩
theorem M_apps {A : List Nat} {i len id n e s b : Nat} {tr : Trk} {d : Option Nat} {os : List XO} {t : Nat → PV} {H : Heap} {y x : Opd} {ys : List (List PV)} {r : PV}
  (hx : ev G t x = r) (hS : Sls r) (hd : deepB r = true) (hr : ∀ c, c ∈ els r → c.length = s) (hg : Grow A H e s (ev G t y) ys) (hid : id ∈ A) (hB : (ys.length + (els r).length) * b ≤ 140737488355328)
  (h : ∀ v H' tr', Grow A H' e s v (ys ++ els r) → (∀ c, c ∉ A → H' c = H c) → (tr = none → tr' = none) → (∀ f ps, tr = some (f, ps) → ∃ z, tr' = some (f ++ [([], z)], ps) ∧ ∀ c, c ∈ z → c ∈ A) → M T X G (.ops (i + 1) os len tr' :: w) ⟨put t d v, H', n⟩ Q) : M T X G (.ops i (⟨d, none, id, .app e s b y x⟩ :: os) len tr :: w) ⟨t, H, n⟩ Q := by
 have hset : Go.Pi.settle depth H (ev G t x) = some (r, []) := by rw [hx]; exact settle_deep hd
 have hz : ∀ f ps, tr = some (f, ps) → ∃ z, push tr (feet (ev G t) H id (.app e s b y x)) = some (f ++ [([], z)], ps) ∧ ∀ c, c ∈ z → c ∈ A := by
  intro f ps htr
  subst htr
  rcases hg.2 with ⟨_, hv⟩ | ⟨b', st, hA, hv, _⟩
  ·exact ⟨[id], by simp only [push, feet, hset, hv]; rfl, fun c hc => by simp at hc; rw [hc]; exact hid⟩
  ·exact ⟨[b'], by simp only [push, feet, hset, hv]; rfl, fun c hc => by simp at hc; rw [hc]; exact hA⟩
 have hn : tr = none → push tr (feet (ev G t) H id (.app e s b y x)) = none := fun htr => by subst htr; rfl
 rw [M_app]
 simp only [runK, hset, drop_none]
 by_cases h0 : els r = []
 ·have hel : elemsOf H s r = some (0, []) := by
   rcases hS with rfl | ⟨xs, rfl⟩
   ·rfl
   ·simp only [els] at h0; subst h0; rfl
  have ha : appRun H id (n + i) e s b (ev G t y) r = some (ev G t y, none) := by
   simp only [appRun, hel, if_true]
   rcases hg.2 with ⟨_, hv⟩ | ⟨b', st, hA, hv, hH⟩
   ·rw [hv]
   ·rw [hv]; simp only [hH, if_true]
  simp only [ha, Option.map_some, MR_some, Heap.upd]
  exact h _ _ _ (by rw [h0, List.append_nil]; exact hg) (fun _ _ => rfl) hn hz
 ·obtain ⟨xs, rfl⟩ : ∃ xs, r = .sl xs := by
   rcases hS with rfl | h'
   ·exact absurd rfl h0
   ·exact h'
  simp only [els] at h0 hr hB h
  have hel : elemsOf H s (.sl xs) = some (xs.length, xs.flatten) := by
   simp only [elemsOf]
   rw [if_pos]
   simp only [List.all_eq_true, beq_iff_eq]
   exact hr
  have hn0 : xs.length ≠ 0 := fun h => h0 (List.length_eq_zero_iff.1 h)
  simp only [deepB] at hd
  have hall : ∀ y, y ∈ ys ++ xs → y.length = s ∧ deepL y = true := by
   intro y hy
   rcases List.mem_append.1 hy with hy | hy
   ·exact hg.1 y hy
   ·exact ⟨hr y hy, deepLL_mem hd y hy⟩
  rcases hg.2 with ⟨rfl, hv⟩ | ⟨c, st, hA, hv, hH⟩
  ·have ha : appRun H id (n + i) e s b (ev G t y) (.sl xs) = some (.row id (n + i) xs.length, some (id, ⟨e, n + i, xs.flatten, s⟩)) := by
    simp only [appRun, hel, if_neg hn0, hv]
    rw [if_pos (by simpa using hB)]
   simp only [ha, Option.map_some, MR_some]
   refine h _ _ _ ⟨hall, .inr ⟨id, n + i, hid, by simp, by simp [Heap.upd, Heap.put_same]⟩⟩ (fun c hc => ?_) hn hz
   simp only [Heap.upd]
   rw [Heap.put_ne _ _ (fun e => hc (by rw [e]; exact hid))]
  ·have hl := flatten_len (fun y hy => (hg.1 y hy).1)
   have e1 : ys.flatten.take (ys.length * s) = ys.flatten := List.take_of_length_le (by omega)
   have ha : appRun H id (n + i) e s b (ev G t y) (.sl xs) = some (.row c (n + i) (ys.length + xs.length), some (c, ⟨e, n + i, ys.flatten ++ xs.flatten, s⟩)) := by
    simp only [appRun, hel, if_neg hn0, hv, hH, e1]
    rw [if_pos (by refine ⟨?_, ?_, ?_, ?_⟩ <;> first | trivial | omega)]
   simp only [ha, Option.map_some, MR_some]
   refine h _ _ _ ⟨hall, .inr ⟨c, n + i, hA, by simp, by simp [Heap.upd, Heap.put_same]⟩⟩ (fun c' hc => ?_) hn hz
   simp only [Heap.upd]
   rw [Heap.put_ne _ _ (fun e => hc (by rw [e]; exact hA))]
def keep (lo : Nat) (g t : Nat → PV) : Nat → PV := fun i => if i < lo then t i else g i
theorem keep_low {lo i : Nat} {g t : Nat → PV} (hl : i < lo) : keep lo g t i = t i := if_pos hl
theorem keep_of {lo : Nat} {t t' : Nat → PV} (h : ∀ i, i < lo → t' i = t i) : t' = keep lo t' t := by
 funext i
 by_cases hi : i < lo
 ·rw [keep_low hi, h i hi]
 ·simp only [keep, if_neg hi]
theorem M_cNd {F : Prop} {ops : List XO} {c2 : XC} {n e st : Nat} {t : Nat → PV} {H : Heap} (lo id : Nat) {b0 : Bool} (hid : id ≠ 0) (h1 : firstD ops = some lo) (h0 : H 0 = some ⟨e, 0, [.bool b0], 0⟩) (hst : (H id).map (·.gen) = some st) (hF : b0 = true → F)
  (h : ∀ R t0 H0, (∀ i, t0 i = t i) → (∀ i, H0 i = H i) → (∀ t' H' n' nc b1, (∀ i, i < lo → t' i = t0 i) → H' id = some ⟨45, st, nc, 0⟩ → H' 0 = some ⟨e, 0, [.bool b1], 0⟩ → (∀ x, x ≠ id → x ≠ 0 → H' x = H0 x) → Nd nc → (b1 = true → F) → M T X G R ⟨t', H', n'⟩ Q) → M T X G (.code (.reg ops) :: .code c2 :: R) ⟨t0, H0, n⟩ Q)
  (hk : ∀ g n' nc b1, Nd nc → (b1 = true → F) → M T X G w ⟨keep lo g t, (H.put id (some ⟨45, st, nc, 0⟩)).put 0 (some ⟨e, 0, [.bool b1], 0⟩), n'⟩ Q) : M T X G (.code (.reg ops) :: .code c2 :: w) ⟨t, H, n⟩ Q :=
 h w t H (fun _ => rfl) (fun _ => rfl) fun t' H' n' nc b1 hl hH1 hH0 hHx hN hF => by
  have e1 : H' = (H.put id (some ⟨45, st, nc, 0⟩)).put 0 (some ⟨e, 0, [.bool b1], 0⟩) := by
   funext x
   by_cases hx : x = 0
   ·subst hx; rw [Heap.put_same]; exact hH0
   ·rw [Heap.put_ne _ _ hx]
    by_cases hx2 : x = id
    ·subst hx2; rw [Heap.put_same]; exact hH1
    ·rw [Heap.put_ne _ _ hx2]; exact hHx x hx2 hx
  rw [e1, keep_of hl]
  exact hk _ _ _ _ hN hF
theorem M_cU {ops : List XO} {c2 : XC} {n : Nat} {t : Nat → PV} {H : Heap} (lo b : Nat) (h1 : firstD ops = some lo)
  (h : ∀ R t0 H0, (∀ i, t0 i = t i) → (∀ i, H0 i = H i) → (∀ t' n' z, Low lo b t0 t' → t' b = .int .u64 z → M T X G R ⟨t', H0, n'⟩ Q) → M T X G (.code (.reg ops) :: .code c2 :: R) ⟨t0, H0, n⟩ Q)
  (hk : ∀ z g n', M T X G w ⟨forget lo b (.int .u64 z) g t, H, n'⟩ Q) : M T X G (.code (.reg ops) :: .code c2 :: w) ⟨t, H, n⟩ Q :=
 h w t H (fun _ => rfl) (fun _ => rfl) fun t' n' z hl hb => by rw [forget_of hl hb]; exact hk _ _ _
end
attribute [go_sem] keep_low
end Go.Pi
end
section
namespace Go.Pi
mutual
inductive Bn : List PV → List Int → Prop
 |missing (ref : Int) (items : PV) (rest : Bool) : Bn [.int .i64 0, .int .i64 ref, items, .bool rest] []
 |name (ref : Int) (items : PV) (rest : Bool) : Bn [.int .i64 1, .int .i64 ref, items, .bool rest] [ref]
 |parts (kind ref : Int) (items : PV) (rest : Bool) (l : List Int) (hk : kind = 2 ∨ kind = 3) (h : Bns (els items) l) : Bn [.int .i64 kind, .int .i64 ref, items, .bool rest] l
inductive Bns : List (List PV) → List Int → Prop
 |nil : Bns [] []
 |cons (flags : Int) (key dflt b0 b1 b2 b3 : PV) (xs : List (List PV)) (l ls : List Int) (h : Bn [b0, b1, b2, b3] l) (hs : Bns xs ls) : Bns ([.int .i64 flags, key, dflt, b0, b1, b2, b3] :: xs) (l ++ ls)
end
theorem Bns.snoc {xs : List (List PV)} {l l2 : List Int} {flags : Int} {key dflt b0 b1 b2 b3 : PV} (hb : Bn [b0, b1, b2, b3] l2) : Bns xs l → Bns (xs ++ [[.int .i64 flags, key, dflt, b0, b1, b2, b3]]) (l ++ l2) := by
 induction xs generalizing l with
 |nil => intro h; cases h; have := Bns.cons flags key dflt b0 b1 b2 b3 [] l2 [] hb .nil; simpa using this
 |cons x xs ih =>
  intro h
  cases h with
  |cons f k d c0 c1 c2 c3 _ l ls h hs => rw [List.cons_append, List.append_assoc]; exact .cons _ _ _ _ _ _ _ _ _ _ h (ih hs)
mutual
inductive NB : List PV → List ByteArray → Prop
 |name (text more : ByteArray) (num at_ : Int) (kids : PV) : NB [.int .i64 101, .str text, .str more, .int .u64 num, kids, .int .i64 at_] [text]
 |none (text more : ByteArray) (num at_ : Int) (kids : PV) : NB [.int .i64 0, .str text, .str more, .int .u64 num, kids, .int .i64 at_] []
 |parts (k : Int) (text more : ByteArray) (num at_ : Int) (kids : PV) (l : List ByteArray) (hk : k = 70 ∨ k = 71 ∨ k = 12) (h : NBs (els kids) l) : NB [.int .i64 k, .str text, .str more, .int .u64 num, kids, .int .i64 at_] l
 |first (k : Int) (text more : ByteArray) (num at_ : Int) (kids : PV) (c : List PV) (cs : List (List PV)) (l : List ByteArray) (hk : k = 14 ∨ k = 42 ∨ k = 73) (he : els kids = c :: cs) (h : NB c l) : NB [.int .i64 k, .str text, .str more, .int .u64 num, kids, .int .i64 at_] l
 |second (text more : ByteArray) (num at_ : Int) (kids : PV) (c0 c : List PV) (cs : List (List PV)) (l : List ByteArray) (he : els kids = c0 :: c :: cs) (h : NB c l) : NB [.int .i64 72, .str text, .str more, .int .u64 num, kids, .int .i64 at_] l
inductive NBs : List (List PV) → List ByteArray → Prop
 |nil : NBs [] []
 |cons (c : List PV) (cs : List (List PV)) (l ls : List ByteArray) (h : NB c l) (hs : NBs cs ls) : NBs (c :: cs) (l ++ ls)
end
theorem NBs.snoc {cs : List (List PV)} {c : List PV} {l l2 : List ByteArray} (hb : NB c l2) : NBs cs l → NBs (cs ++ [c]) (l ++ l2) := by
 induction cs generalizing l with
 |nil => intro h; cases h; have := NBs.cons c [] l2 [] hb .nil; simpa using this
 |cons x xs ih =>
  intro h
  cases h with
  |cons _ _ l ls h hs => rw [List.cons_append, List.append_assoc]; exact .cons _ _ _ _ h (ih hs)
def NmOk (F : Int → ByteArray) (b : List PV) (c : List PV) : Prop := ∃ l : List Int, Bn b l ∧ (∀ n, n ∈ l → 0 ≤ n ∧ n < 1000) ∧ NB c (l.map fun n => bs [118] ++ F n)
def NdN (F : Int → ByteArray) (b : List PV) (f : Bool) (r : PV) : Prop := ∃ c, r = .agg c ∧ Nd c ∧ (f = true → NmOk F b c)
end Go.Pi
end
section
open Go Go.Pi
namespace Go.Pi
variable {p q a : Prop}
set_option maxRecDepth 100000
set_option maxHeartbeats 0
section
variable {X : CallF} {G : Nat → PV}
structure IHf (X : CallF) (G : Nat → PV) (m : Nat) : Prop where
 e : ∀ {y}, EZ m y → Mt Tab X G 16 [.agg y] (fun _ => NdX)
 s : ∀ {y}, SZ m y → Mt Tab X G 21 [.agg y] (fun _ => NdX)
 b : ∀ {y}, BZ m y → Mt Tab X G 72 [.agg y] (fun _ => NdX)
theorem r30 (b : Bool) : Mt Tab X G 30 [.bool b] (fun f r => r = .bool f ∧ (f = true → b = true)) := by
 intro e fine
 refine Fn_of T30 (by simp) ?_
 cases fine
 ·refine s0 ?_
  exact ⟨_, rfl, by simp, rfl, by simp⟩
 ·refine s0 ?_
  exact ⟨_, rfl, by simp, rfl, by simp⟩
theorem r59 {c : List PV} (hc : Nd c) : Pure Tab X G 59 [.agg c] NdX := by
 obtain ⟨nk, nt, nm, nn, nkids, na, rfl, hN⟩ := hc.open
 have hd := hN.2.1
 refine Fn_of T59 (by simp) ?_
 refine s1 hd ?_
 simp [NdX_agg, Nd_cells, Nd_num, NdF_sl, NdF_nils, hN, hc]
namespace QFa1
theorem kA1 (h : p := by
 first
 |(exact ⟨_, rfl⟩)
 |exact kH
 |fail) : p := h
theorem kB1 (h : p := by
 first
 |(refine MIX_N (k := 129) ‹_› (by omega) (by omega) (fun y hy hmem hg => ?_); obtain ⟨nk, nt, nm, nn, nkids, na, rfl, hN⟩ := hy.open; refine nA ?_) <;> exact Am1
 |fail) : p := h
end QFa1
theorem r60 {c : List PV} (hc : Nd c) : Pure Tab X G 60 [.agg c] (fun r => ∃ b, r = .bool b) := by
 obtain ⟨nk, nt, nm, nn, nkids, na, rfl, hN⟩ := hc.open
 have hd := hN.2.1
 have hs := hN.1
 have hi := hN.2.2.2.2
 refine Fn_of T60 (by simp) ?_
 refine nA ?_
 open QFa1 in exact Am1
namespace QFa2
theorem kA1 (h : p := by
 first
 |(exact ⟨_, rfl⟩)
 |exact kH
 |fail) : p := h
end QFa2
theorem r58 {m : Nat} {x : List PV} (hx : ExprC x) (hm : SizeOf.sizeOf x ≤ m) : Pure Tab X G 58 [.agg x] (fun r => ∃ b, r = .bool b) := by
 obtain ⟨kind, op, ref, chain, flags, nn, str, text, kids, props, parts, fns, classes, rfl, hn, l_str, ht, l_kids, l_props, l_parts, l_fns, l_classes⟩ := hx.open (hm)
 refine Fn_of T58 (by simp) ?_
 refine nA ?_
 open QFa2 in exact Am1
namespace QFa3
theorem kA1 (h : p := by
 first
 |(exact ⟨_, rfl⟩)
 |exact kH
 |fail) : p := h
end QFa3
theorem r62 {m : Nat} {x : List PV} (hx : ExprC x) (hm : SizeOf.sizeOf x ≤ m) : Pure Tab X G 62 [.agg x] (fun r => ∃ b, r = .bool b) := by
 obtain ⟨kind, op, ref, chain, flags, nn, str, text, kids, props, parts, fns, classes, rfl, hn, l_str, ht, l_kids, l_props, l_parts, l_fns, l_classes⟩ := hx.open (hm)
 refine Fn_of T62 (by simp) ?_
 refine nA ?_
 open QFa3 in exact Am1
theorem r50 (n : Nat) : Pure Tab X G 50 [.flt .f64 n] (fun r => ∃ b, r = .bool b) := by
 refine Fn_of T50 (by simp) ?_
 refine s0 ?_
 exact ⟨_, rfl⟩
theorem r79 (n : Nat) : Pure Tab X G 79 [.flt .f64 n] (fun r => r = .int .u64 n) := by
 refine Fn_of T79 (by simp) ?_
 exact z0
theorem r24 {m : Nat} {v : PV} (ih : IHf X G m) (lv : SlP (EZ m) v) : Mt Tab X G 24 [v] (fun _ => NdL (els v).length) := by
 intro e fine
 have hF : fine = true → fine = true := id
 refine Fn_of T24 (by simp) ?_
 have hv := lv.1
 have hB := lv.1.len
 refine s1 hv ?_
 refine M_loop (fun n s => ∃ (i : Nat) (b : Bool) (ys : List (List PV)), i + n = (els v).length ∧ s.t 0 = .ptr 0 0 0 ∧ s.t 8 = v ∧ s.t 9 = .int .i64 (els v).length ∧ s.t 10 = .int .i64 i ∧ s.H 0 = some ⟨e, 0, [.bool b], 0⟩ ∧ (b = true → fine = true) ∧
  (∀ y, y ∈ ys → Nd y) ∧ ys.length = i ∧ Grow [5006] s.H 45 6 (s.t 5) ys) ?_ (n := (els v).length) ⟨0, fine, [], by simp, z0, z0, z0, z0, z0, id, by simp, rfl, by refine s0 ?_; exact Grow.nil⟩
 rintro n ⟨t, H, k⟩ ⟨i, b, ys, hi, h0, h8, h9, h10, e0, hF, hys, hyl, hrow⟩ next
 simp only at h0 h8 h9 h10 e0 hrow
 refine s1 (j h0 (j h8 (j h9 h10))) ?_
 refine MB_dec (fun hp hb => ?_) (fun hp hb => ?_)
 ·refine s1 (j h0 (j h8 (j h9 h10))) ?_
  refine MIX_S (P := EZ m) EZ.len lv (by omega) hp (fun y hy hmem hg => ?_)
  have hM := ih.e hy
  obtain ⟨kind, op, ref, chain, flags, nn, str, text, kids, props, parts, fns, classes, rfl, hn, l_str, ht, l_kids, l_props, l_parts, l_fns, l_classes⟩ := hy.1.open (hy.le)
  refine s1 (j h0 (j h8 (j h9 (j h10 (j e0 (j l_str.1 (j l_str.2.1 (j l_kids.1 (j l_kids.2.1 (j l_props.1 (j l_props.2.1 (j l_parts.1 (j l_parts.2.1 (j l_fns.1 (j l_fns.2.1 (j l_classes.1 l_classes.2.1)))))))))))))))) ?_
  refine MC_mt (e := e) (b0 := b) hM (z1 e0) (z1 (j l_str.1 (j l_str.2.1 (j l_kids.1 (j l_kids.2.1 (j l_props.1 (j l_props.2.1 (j l_parts.1 (j l_parts.2.1 (j l_fns.1 (j l_fns.2.1 (j l_classes.1 l_classes.2.1)))))))))))) hF ?_
  rintro r b1 ⟨c, rfl, hc⟩ hmono hF
  obtain ⟨nk, nt, nm, nn, nkids, na, rfl, hN⟩ := hc.open
  have hDp := hN.2.1
  refine s1 (j h0 (j h8 (j h9 (j h10 hDp)))) ?_
  refine M_app1 (A := [5006]) (ys := ys) (z0) (z0) hc.len hc.deep ?_ (by simp) (by simp) (by omega) ?_
  ·refine s0 ?_
   exact hrow.frame (fun b hb => by simp only [List.mem_singleton] at hb; rw [hb]; exact z0)
  ·intro v' H2 tr' hgr hf htr
   have := htr rfl
   subst this
   refine s1 (j h0 (j h8 (j h9 h10))) ?_
   generalize hzs : ys ++ [_] = zs at hgr
   refine next (n - 1) (by omega) _ ⟨i + 1, b1, zs, by omega, z1 h0, z1 h8, z1 h9, by refine s1 h10 ?_; rw [wrap_i64 (by omega) (by omega)]; rfl, ?_, hF, ?_, by rw [← hzs]; simp [hyl], ?_⟩
   ·show H2 0 = _
    rw [hf 0 (by simp) (by simp)]
    exact z0
   ·intro y hy
    rw [← hzs] at hy
    rcases List.mem_append.1 hy with hy | hy
    ·exact hys y hy
    ·simp at hy; subst hy; exact hc
   ·refine s0 ?_
    exact hgr
 ·refine s0 ?_
  obtain ⟨y, ids, hset, hids, hy, hdy⟩ := hrow.settle
  have hset : Go.Pi.settle 30 H (t 5) = some (y, ids) := hset
  refine s1 (j hset e0) ?_
  refine ⟨by simpa using fun h => absurd (hids 0 h) (by decide), b, rfl, hF, ?_⟩
  have : ys.length = (els v).length := by omega
  rcases hy with ⟨rfl, rfl⟩ | rfl
  ·exact ⟨.inl rfl, rfl, this, by simp [els]⟩
  ·exact ⟨.inr ⟨_, rfl⟩, hdy, this, hys⟩
namespace QFa4
theorem kA1 (h : p := by
 first
 |(exact ⟨_, rfl, hF, NdX_agg.2 (Nd_mk (NdF_of ⟨hS, hDp, hLn, hMem⟩ (by omega) (fun h => absurd h (by omega))))⟩)
 |exact kH
 |fail) : p := h
theorem kB1 (h : p := by
 first
 |(refine MC_mt (r30 _) cA dM hF ?_; rintro _ b1 ⟨rfl, hnd⟩ hmono hF; exact kT1)
 |(refine MC_mt (r24 ih lv) cA dM hF ?_; exact kML1)
 |fail) : p := h
end QFa4
theorem r23 {m : Nat} {v : PV} (kind n : Int) (text : ByteArray) (hk : kind ≠ 129 ∧ kind ≠ 25 ∧ kind ≠ 105 ∧ kind ≠ 106) (ih : IHf X G m) (lv : SlP (EZ m) v) : Mt Tab X G 23 [.int .i64 kind, .str text, v, .int .i64 n] (fun _ => NdX) := by
 intro e fine
 have hF : fine = true → fine = true := id
 refine Fn_of T23 (by simp) ?_
 have hv := lv.1
 have hB := lv.1.len
 have hd := lv.2.1
 refine nA ?_
 open QFa4 in exact Am1
namespace QFa5
theorem kA1 (h : p := by
 first
 |exact kFm
 |exact kH
 |fail) : p := h
theorem kB1 (h : p := by
 first
 |(refine MC_mt (r30 _) cA dM hF ?_; rintro _ b1 ⟨rfl, hnd⟩ hmono hF; exact kT1)
 |(refine MC_mt (ih.e ‹EZ _ _›) cA dM hF ?_; exact kMN1)
 |fail) : p := h
end QFa5
theorem r44 {m : Nat} {v : PV} (ih : IHf X G m) (lv : SlP (EZ m) v) : Mt Tab X G 44 [v] (fun _ => NdX) := by
 intro e fine
 have hF : fine = true → fine = true := id
 refine Fn_of T44 (by simp) ?_
 have hv := lv.1
 have hd := lv.2.1
 refine nA ?_
 open QFa5 in exact Am1
namespace QFa6
theorem kA1 (h : p := by
 first
 |exact kFm
 |exact kH
 |fail) : p := h
theorem kB1 (h : p := by
 first
 |(refine MC_mt (r30 _) cA dM hF ?_; rintro _ b1 ⟨rfl, hnd⟩ hmono hF; exact kT1)
 |(refine MC_mt (r24 ih ‹_›) cA dM hF ?_; exact kML1)
 |(refine MC_mt (r23 _ _ _ (by decide) ih ‹_›) cA dM hF ?_; exact kMN1)
 |(refine ⟨_, rfl, ?_, ?_⟩; (first | exact hF | exact fun _ => trivial | exact fun h => absurd h Bool.false_ne_true); exact NdX_agg.2 (Nd_mk (NdF_of ⟨hS, hDp, hLn, hMem⟩ (by have := hv.1.len; rw [hg] at *; simp at *; omega) (fun h => absurd h (by omega))))) <;> exact Am1
 |fail) : p := h
end QFa6
theorem r61 {m : Nat} {x : List PV} (ih : IHf X G m) (hx : ExprC x) (hm : SizeOf.sizeOf x ≤ m) (h1 : 1 ≤ (els (x.getD 8 .undef)).length) : Mt Tab X G 61 [.agg x] (fun _ => NdX) := by
 intro e fine
 have hF : fine = true → fine = true := id
 obtain ⟨kind, op, ref, chain, flags, nn, str, text, kids, props, parts, fns, classes, rfl, hn, l_str, ht, l_kids, l_props, l_parts, l_fns, l_classes⟩ := hx.open (hm)
 have h1 : 1 ≤ (els kids).length := h1
 have := l_str.1; have := l_str.2.1; have := l_kids.1; have := l_kids.2.1; have := l_props.1; have := l_props.2.1; have := l_parts.1; have := l_parts.2.1; have := l_fns.1; have := l_fns.2.1; have := l_classes.1; have := l_classes.2.1
 refine Fn_of T61 (by simp) ?_
 refine nA ?_
 open QFa6 in exact Am1
namespace QFa7
theorem kA1 (h : p := by
 first
 |exact kFm
 |exact kH
 |fail) : p := h
theorem kB1 (h : p := by
 first
 |(refine MC_mt (r30 _) cA dM hF ?_; rintro _ b1 ⟨rfl, hnd⟩ hmono hF; exact kT1)
 |(refine MC_mt (r23 _ _ _ (by decide) ih ‹_›) cA dM hF ?_; exact kMN1)
 |(refine MC_mt (h47 ‹CZ _ _›) cA dM hF ?_; exact kMN1)
 |fail) : p := h
end QFa7
theorem r28 {m : Nat} {x : List PV} (ih : IHf X G m) (h47 : ∀ {y}, CZ m y → Mt Tab X G 47 [.agg y] (fun _ => NdX)) (hx : ExprC x) (hm : SizeOf.sizeOf x ≤ m) : Mt Tab X G 28 [.agg x] (fun _ => NdX) := by
 intro e fine
 have hF : fine = true → fine = true := id
 obtain ⟨kind, op, ref, chain, flags, nn, str, text, kids, props, parts, fns, classes, rfl, hn, l_str, ht, l_kids, l_props, l_parts, l_fns, l_classes⟩ := hx.open (hm)
 have := l_str.1; have := l_str.2.1; have := l_kids.1; have := l_kids.2.1; have := l_props.1; have := l_props.2.1; have := l_parts.1; have := l_parts.2.1; have := l_fns.1; have := l_fns.2.1; have := l_classes.1; have := l_classes.2.1
 refine Fn_of T28 (by simp) ?_
 refine nA ?_
 open QFa7 in exact Am1
end
end Go.Pi
end
section
open Go Go.Pi
namespace Go.Pi
variable {p q a : Prop}
set_option maxRecDepth 100000
set_option maxHeartbeats 0
structure Base (X : CallF) (G : Nat → PV) (F : Int → ByteArray) : Prop where
 h53 : ∀ n, 0 ≤ n → n < 1000 → Pure Tab X G 53 [.int .i64 n] (fun r => r = .str (F n))
 hF : ∀ n, (F n).size ≤ 1000
 h80 : ∀ (s : ByteArray) (goal : Int), s.size ≤ 2097152 → Pure Tab X G 80 [.str s, .int .i64 0, .int .i64 goal, .bool false] (fun r => ∃ (k : Int) (text more : ByteArray) (num from_ to_ : Int) (a b c : Bool), r = .agg [.int .i64 k, .str text, .str more, .int .u64 num, .int .i64 from_, .int .i64 to_, .bool a, .bool b, .bool c] ∧ text.size ≤ 1099511627776)
 h87 : ∀ (s : ByteArray), s.size ≤ 2097152 → 1 ≤ s.size → Pure Tab X G 87 [.str s, .int .i64 0] (fun r => ∃ (k : Int) (text more : ByteArray) (num from_ to_ : Int) (a b c : Bool), r = .agg [.int .i64 k, .str text, .str more, .int .u64 num, .int .i64 from_, .int .i64 to_, .bool a, .bool b, .bool c])
 h42 : ∀ {v : PV}, SlP (fun y => ∃ n : Int, y = [.int .u16 n] ∧ 0 ≤ n ∧ n < 65536) v → Pure Tab X G 42 [v] (fun r => ∃ s : ByteArray, r = .str s ∧ s.size ≤ 2097152)
 h41 : ∀ s : ByteArray, s.size ≤ 2097152 → Pure Tab X G 41 [.str s] (fun r => ∃ (s : ByteArray) (b : Bool), r = .tup [.str s, .bool b] ∧ s.size ≤ 1099511627776)
 h43 : ∀ s : ByteArray, s.size ≤ 1099511627776 → Pure Tab X G 43 [.str s] (fun r => ∃ b : Bool, r = .bool b)
 h56 : ∀ {c : List PV}, Nd c → Pure Tab X G 56 [.agg c] (fun r => ∃ (s : ByteArray) (b : Bool), r = .tup [.str s, .bool b])
 h57 : ∀ s : ByteArray, s.size ≤ 1099511627776 → Pure Tab X G 57 [.str s] (fun r => ∃ s : ByteArray, r = .str s)
 h51 : ∀ n : Nat, n < 18446744073709551616 → Pure Tab X G 51 [.flt .f64 n] NdX
 h73 : ∀ {n : Nat} {v : PV}, NdL n v → n ≤ 1048576 → Pure Tab X G 73 [v] (fun r => ∃ b : Bool, r = .bool b)
section
variable {X : CallF} {G : Nat → PV}
theorem str1 (b : Nat) : (bs [b]).size = 1 := rfl
namespace QFb1
theorem kA1 (h : p := by
 first
 |((refine ⟨_, rfl, ?_, _, rfl, ?_⟩; (first | exact hF | exact fun _ => trivial | exact fun h => absurd h Bool.false_ne_true); (intro h1 h2; first | omega | (cases h1; done) | exact ⟨by omega, rfl⟩ | (simp_all; first | done | fail)))) <;> exact Am1
 |exact kH
 |fail) : p := h
theorem kB1 (h : p := by
 first
 |(refine MC_mt (r30 _) cA dM hF ?_; rintro _ b1 ⟨rfl, hnd⟩ hmono hF; exact kT1)
 |(refine MC_pure (B.h53 n (by omega) (by omega)) pE dM ?_; rintro _ rfl; exact kT1)
 |fail) : p := h
end QFb1
theorem r48 {F : Int → ByteArray} (B : Base X G F) (n : Int) : Mt Tab X G 48 [.int .i64 n] (fun f r => ∃ s, r = .str s ∧ (f = true → 0 ≤ n → n < 1000 ∧ s = bs [118] ++ F n)) := by
 intro e fine
 have hF : fine = true → fine = true := id
 have hsz : (bs [118]).size + (F n).size ≤ 9223372036854775807 := by have := B.hF n; rw [str1]; omega
 refine Fn_of T48 (by simp) ?_
 refine nA ?_
 open QFb1 in exact Am1
namespace QFb2
theorem kA1 (h : p := by
 first
 |((refine ⟨_, rfl, ?_, ?_⟩; (first | exact hF | exact fun _ => trivial | exact fun h => absurd h Bool.false_ne_true); exact NdX_agg.2 (Nd_mk (NdF_nils.2 ⟨by omega, by omega⟩) (by intro h; omega) (by intro _; assumption)))) <;> exact Am1
 |exact kH
 |(refine M_regm (e := e) 2001 rfl rfl hF (fun R t0 H0 hTT hHH hR => M_reg.2 ?_) (fun c g n' b1 hF => ?_) <;> (try refine nA ?_) <;> exact Am1)
 |fail) : p := h
theorem kB1 (h : p := by
 first
 |(refine MC_mt (r30 _) cA dM hF ?_; rintro _ b1 ⟨rfl, hnd⟩ hmono hF; exact kT1)
 |(refine MC_pure (B.h80 s 1 hs) pE dM ?_; rintro _ ⟨k, text, more, num, from_, to_, a, b, c, rfl, htx⟩; exact kT1)
 |fail) : p := h
end QFb2
theorem r52 {F : Int → ByteArray} (B : Base X G F) (s : ByteArray) (k1 k2 : Int) (hs : s.size ≤ 2097152) (hk : k2 ≠ 129 ∧ k2 ≠ 25 ∧ k2 ≠ 105) : Mt Tab X G 52 [.str s, .int .i64 k1, .int .i64 k2] (fun _ => NdX) := by
 intro e fine
 have hF : fine = true → fine = true := id
 refine Fn_of T52 (by simp) ?_
 refine nA ?_
 open QFb2 in exact Am1
namespace QFb3
theorem kA1 (h : p := by
 first
 |exact kFm
 |exact kH
 |(refine M_regm (e := e) 4001 rfl rfl hF (fun R t0 H0 hTT hHH hR => M_reg.2 ?_) (fun c g n' b1 hF => ?_) <;> (try refine nA ?_) <;> exact Am1)
 |fail) : p := h
theorem kB1 (h : p := by
 first
 |(refine MC_mt (r30 _) cA dM hF ?_; rintro _ b1 ⟨rfl, hnd⟩ hmono hF; exact kT1)
 |(refine MC_pure (B.h87 _ hsz3 (by rw [ByteArray.size_append, str1]; omega)) pE dM ?_; rintro _ ⟨k, text, more, num, from_, to_, a, b, c, rfl⟩; exact kT1)
 |(refine MC_pure (B.h42 lv) pE dM ?_; rintro _ ⟨s', rfl, hs'⟩; exact kT1)
 |fail) : p := h
end QFb3
theorem r63 {F : Int → ByteArray} (B : Base X G F) {v : PV} (s : ByteArray) (tagged : Bool) (hs : s.size ≤ 1048576) (lv : SlP (fun y => ∃ n : Int, y = [.int .u16 n] ∧ 0 ≤ n ∧ n < 65536) v) : Mt Tab X G 63 [v, .str s, .bool tagged] (fun _ => NdX) := by
 intro e fine
 have hF : fine = true → fine = true := id
 have hsz : (bs [125]).size + s.size ≤ 9223372036854775807 := by rw [str1]; omega
 have hsz2 : (bs [125] ++ s).size + (bs [96]).size ≤ 9223372036854775807 := by rw [ByteArray.size_append, str1, str1]; omega
 have hsz3 : (bs [125] ++ s ++ bs [96]).size ≤ 2097152 := by rw [ByteArray.size_append, ByteArray.size_append, str1, str1]; omega
 have hv := lv.1
 have hd := lv.2.1
 refine Fn_of T63 (by simp) ?_
 refine nA ?_
 open QFb3 in exact Am1
namespace QFb4
theorem kA1 (h : p := by
 first
 |exact kFm
 |exact kH
 |(refine M_regm (e := e) 3001 rfl rfl hF (fun R t0 H0 hTT hHH hR => M_reg.2 ?_) (fun c g n' b1 hF => ?_) <;> (try refine nA ?_) <;> exact Am1)
 |fail) : p := h
theorem kB1 (h : p := by
 first
 |(refine MC_mt (r30 _) cA dM hF ?_; rintro _ b1 ⟨rfl, hnd⟩ hmono hF; exact kT1)
 |(refine MC_mt (h46 ‹FZ _ _› _) cA dM hF ?_; exact kMN1)
 |fail) : p := h
end QFb4
theorem r54 {m : Nat} {x : List PV} (marks : Int) (h46 : ∀ {y}, FZ m y → ∀ k, Mt Tab X G 46 [.agg y, .int .u64 k] (fun _ => NdX)) (hx : ExprC x) (hm : SizeOf.sizeOf x ≤ m) : Mt Tab X G 54 [.agg x, .int .u64 marks] (fun _ => NdX) := by
 intro e fine
 have hF : fine = true → fine = true := id
 obtain ⟨kind, op, ref, chain, flags, nn, str, text, kids, props, parts, fns, classes, rfl, hn, l_str, ht, l_kids, l_props, l_parts, l_fns, l_classes⟩ := hx.open (hm)
 have := l_str.1; have := l_str.2.1; have := l_kids.1; have := l_kids.2.1; have := l_props.1; have := l_props.2.1; have := l_parts.1; have := l_parts.2.1; have := l_fns.1; have := l_fns.2.1; have := l_classes.1; have := l_classes.2.1
 refine Fn_of T54 (by simp) ?_
 refine nA ?_
 open QFb4 in exact Am1
namespace QFb5
theorem kA1 (h : p := by
 first
 |((refine ⟨_, rfl, ?_, ?_⟩; (first | exact hF | exact fun _ => trivial | exact fun h => absurd h Bool.false_ne_true); (simp [NdX_agg, Nd_cells, Nd_num, NdF_nils, NdF_sl, *]; first | done | fail))) <;> exact Am1
 |((refine ⟨_, rfl, ?_, ?_⟩; (first | exact hF | exact fun _ => trivial | exact fun h => absurd h Bool.false_ne_true); exact NdX_agg.2 (Nd_mk (NdF_of ⟨hS, hDp, hLn, hMem⟩ (by first | (have := l_kids.1.len; omega) | (have := hv.1.len; omega)) (by omega))))) <;> exact Am1
 |((refine ⟨rfl, _, rfl, ?_, ?_⟩; (first | exact hF | exact fun _ => trivial | exact fun h => absurd h Bool.false_ne_true); exact NdX_agg.2 (Nd_mk (NdF_of ⟨hS, hDp, hLn, hMem⟩ (by first | (have := l_kids.1.len; omega) | (have := hv.1.len; omega)) (by omega))))) <;> exact Am1
 |exact kH
 |(refine M_regm (e := e) 4001 rfl rfl hF (fun R t0 H0 hTT hHH hR => M_reg.2 ?_) (fun c g n' b1 hF => ?_) <;> (try refine nA ?_) <;> exact Am1)
 |fail) : p := h
theorem kB1 (h : p := by
 first
 |(refine MC_mt (r30 _) cA dM hF ?_; rintro _ b1 ⟨rfl, hnd⟩ hmono hF; exact kT1)
 |(refine MC_mt (r48 B _) cA dM hF ?_; rintro _ b1 ⟨s, rfl, hs48⟩ hmono hF; exact kT1)
 |(refine MC_mt (r24 ih ‹_›) cA dM hF ?_; exact kML1)
 |(refine MC_pure (r58 (‹EZ _ _› : EZ _ _).1 (‹EZ _ _› : EZ _ _).le) pE dM ?_; rintro _ ⟨c, rfl⟩; exact kT1)
 |(refine MIX_strs (c0) (by omega) (by omega) (by decide) rfl (fun p s => ?_); refine nA ?_) <;> exact Am1
 |fail) : p := h
end QFb5
theorem r27 {F : Int → ByteArray} (B : Base X G F) {m : Nat} {x : List PV} (ih : IHf X G m) (hx : ExprC x) (hm : SizeOf.sizeOf x ≤ m) : Mt Tab X G 27 [.agg x] (fun _ => NdX) := by
 intro e fine
 have hF : fine = true → fine = true := id
 obtain ⟨kind, op, ref, chain, flags, nn, str, text, kids, props, parts, fns, classes, rfl, hn, l_str, ht, l_kids, l_props, l_parts, l_fns, l_classes⟩ := hx.open (hm)
 have := l_str.1; have := l_str.2.1; have := l_kids.1; have := l_kids.2.1; have := l_props.1; have := l_props.2.1; have := l_parts.1; have := l_parts.2.1; have := l_fns.1; have := l_fns.2.1; have := l_classes.1; have := l_classes.2.1
 refine Fn_of T27 (by simp) ?_
 refine nA ?_
 open QFb5 in exact Am1
namespace QFb6
theorem kA1 (h : p := by
 first
 |exact kFm
 |exact kH
 |(refine M_regm (e := e) 4001 rfl rfl hF (fun R t0 H0 hTT hHH hR => M_reg.2 ?_) (fun c g n' b1 hF => ?_) <;> (try refine nA ?_) <;> exact Am1)
 |fail) : p := h
theorem kB1 (h : p := by
 first
 |(refine MC_mt (r30 _) cA dM hF ?_; rintro _ b1 ⟨rfl, hnd⟩ hmono hF; exact kT1)
 |(refine MC_mt (ih.e ‹EZ _ _›) cA dM hF ?_; exact kMN1)
 |(refine MC_pure (r58 (‹EZ _ _› : EZ _ _).1 (‹EZ _ _› : EZ _ _).le) pE dM ?_; rintro _ ⟨c, rfl⟩; exact kT1)
 |(refine MC_pure (r60 ‹Nd _›) pE dM ?_; rintro _ ⟨c, rfl⟩; exact kT1)
 |(refine MC_pure (r59 ‹Nd _›) pE dM ?_; exact kPN1)
 |(refine MIX_strs (c0) (by omega) (by omega) (by decide) rfl (fun p s => ?_); refine nA ?_) <;> exact Am1
 |fail) : p := h
end QFb6
theorem r26 {m : Nat} {x : List PV} (ih : IHf X G m) (hx : ExprC x) (hm : SizeOf.sizeOf x ≤ m) : Mt Tab X G 26 [.agg x] (fun _ => NdX) := by
 intro e fine
 have hF : fine = true → fine = true := id
 obtain ⟨kind, op, ref, chain, flags, nn, str, text, kids, props, parts, fns, classes, rfl, hn, l_str, ht, l_kids, l_props, l_parts, l_fns, l_classes⟩ := hx.open (hm)
 have := l_str.1; have := l_str.2.1; have := l_kids.1; have := l_kids.2.1; have := l_props.1; have := l_props.2.1; have := l_parts.1; have := l_parts.2.1; have := l_fns.1; have := l_fns.2.1; have := l_classes.1; have := l_classes.2.1
 refine Fn_of T26 (by simp) ?_
 refine nA ?_
 open QFb6 in exact Am1
end
end Go.Pi
end
section
open Go Go.Pi
namespace Go.Pi
variable {p q a : Prop}
set_option maxRecDepth 100000
set_option maxHeartbeats 0
section
variable {X : CallF} {G : Nat → PV} {w : List Wk}
theorem app_fin {i len n id1 id2 id3 d0 d1 d2 dr dn st g A0 nr e : Nat} {k : Int} {z : Int} {P : Prop} {fine b : Bool} {f : List (List Nat × List Nat)} {ps : List (Nat × Nat)} {t : Nat → PV} {H : Heap} {r : PV} {c c2 : List PV}
  (hr : NdL nr r) (hnr : nr ≤ 1048576) (hx : t dr = r) (hy : t d0 = .row A0 st 1) (hH : H A0 = some ⟨45, st, c, 6⟩) (hc : Nd c) (h4 : t 4 = .ptr 2 g 0) (hH2 : H 2 = some ⟨45, g, c2, 0⟩) (hc2 : c2.length = 6) (hA0 : A0 ≠ 0 ∧ A0 ≠ 2 ∧ 2 ≠ A0 ∧ 0 ≠ A0) (hd : d1 ≠ 4 ∧ d2 ≠ 4 ∧ d2 ≠ d1 ∧ 4 ≠ d1 ∧ 4 ≠ d2)
  (hid : id1 ≠ 0 ∧ id1 ≠ 2 ∧ 0 ≠ id1 ∧ 2 ≠ id1) (hH0 : H 0 = some ⟨e, 0, [.bool b], 0⟩) (hF : b = true → P) (hk : k ≠ 129 ∧ k ≠ 25 ∧ k ≠ 105 ∧ k ≠ 106) (hnum : t dn = .int .u64 z) (hdn : dn ≠ d1)
  (hclose : ∀ z, closeOk (some (f ++ [([], z)] ++ [([], [])] ++ [([], [2])], ps)) = true) :
  M Tab X G (.ops i [⟨some d1, none, id1, .app 45 6 80 (.t d0) (.t dr)⟩, ⟨some d2, none, id2, .build zN [(0, (1, .c (.int .i64 k))), (3, (1, .t dn)), (4, (1, .t d1))]⟩, ⟨none, none, id3, .st 6 (.t 4) (.t d2)⟩] len (some (f, ps)) :: .code .ret :: w) ⟨t, H, n⟩
   (Fin [.cell 4 true 6] (some ⟨e, 0, [.bool fine], 0⟩) fun r cells => ∃ fine', cells = [.bool fine'] ∧ (fine' = true → P) ∧ NdX r) := by
 obtain ⟨hS, hDp, hLn, hMem⟩ := hr
 refine M_apps (A := [A0, id1]) (ys := [c]) (r := r) hx hS hDp (fun c hc => (hMem c hc).len) ?_ (by simp) (by simp only [List.length_cons, List.length_nil]; omega) ?_
 ·simp only [ev, hy]
  exact Grow.row1 (by simp) hH hc.len hc.deep
 ·intro v' H' tr' hgr hf hn hz
  obtain ⟨z', rfl, hz2⟩ := hz _ _ rfl
  obtain ⟨ha1, ha2, ha3, ha4⟩ := hA0
  obtain ⟨hi1, hi2, hi3, hi4⟩ := hid
  obtain ⟨hd1, hd2, hd3, hd4, hd5⟩ := hd
  have e0 := (hf 0 (by simp [ha4, hi3])).trans hH0
  have e2 := (hf 2 (by simp [ha3, hi4])).trans hH2
  have hcv : cellsOf v' = some [v'] := by
   rcases hgr.2 with ⟨_, rfl⟩ | ⟨a, st, _, rfl, _⟩ <;> rfl
  have hE := fun (n : Nat) c => (Grow.settleE (n := n) (hgr.frame (H' := H'.put 2 c) (by
   intro b hb
   refine Heap.put_ne _ _ ?_
   simp only [List.mem_cons, List.not_mem_nil, or_false] at hb
   rcases hb with rfl | rfl
   ·exact ha2
   ·exact hi2)))
  obtain ⟨g1, g2, g3, g4⟩ := hgr.gv
  obtain ⟨x0, x1, x2, x3, x4, x5, rfl⟩ : ∃ x0 x1 x2 x3 x4 x5, c2 = [x0, x1, x2, x3, x4, x5] := by
   match c2, hc2 with
   |[x0, x1, x2, x3, x4, x5], _ => exact ⟨_, _, _, _, _, _, rfl⟩
  have hcl := hclose z'
  simp only [closeOk] at hcl
  have hp1 : ∀ v, put t (some d1) v 4 = t 4 := fun v => put_other hd4
  simp only [hcv, hnum, put_other hdn, hp1, put_other hd3, put_other hd5, put_other hd4, h4, e2, e0, hE, go_sem, Nat.reduceEqDiff, Nat.reduceAdd, Nat.reduceLeDiff, Nat.reduceLT, Nat.reduceMul, Nat.reduceSub, reduceIte, reduceCtorEq, Int.reduceEq, Int.reduceLT, Int.reduceLE, Nat.reduceBEq, Int.reduceToNat, M_block, M_reg, M_dreg_nil, M_dreg]
  have g3 : els (gv v' (c :: els r)) = c :: els r := g3
  refine ⟨hcl, ?_, _, rfl, hF, NdX_agg.2 (Nd_mk ⟨g1, g2, ?_, ?_, fun h => absurd h (by omega)⟩)⟩
  ·have h0 : ¬ 0 ∈ gi v' := fun h => by
    have := g4 0 h
    simp only [List.mem_cons, List.not_mem_nil, or_false] at this
    rcases this with h | h
    ·exact ha4 h
    ·exact hi3 h
   simpa using h0
  ·rw [g3, List.length_cons]; omega
  ·intro y hy2
   rw [g3] at hy2
   rcases List.mem_cons.1 hy2 with rfl | hy2
   ·exact hc
   ·exact hMem _ hy2
namespace QFc1
theorem kA1 (h : p := by
 first
 |((refine app_fin ⟨hS, hDp, hLn, hMem⟩ (by have := hv.1.len; omega) (c0) (c0) (c0) ‹Nd _› (c0) (c0) rfl (by decide) (by decide) (by decide) (c0) (by first | exact hF | exact fun _ => trivial) (by decide) (c0) (by decide) (by intro z; simp [closeOk, feetOk, apartL]))) <;> exact Am1
 |((refine ⟨_, rfl, ?_, ?_⟩; (first | exact hF | exact fun _ => trivial | exact fun h => absurd h Bool.false_ne_true); (simp [NdX_agg, Nd_cells, Nd_num, NdF_nils, NdF_sl, *]; first | done | fail))) <;> exact Am1
 |((refine M_cNd 37 6002 (by decide) rfl (c0) (c0) hF (fun R t0 H0 hTT hHH hR => M_reg.2 ?_) (fun g n' nc b1 hnc hF => ?_); rotate_left; (obtain ⟨nk, nt, nm, nn, nkids, na, rfl, hN⟩ := hnc.open; have hS := hN.1; have hDp := hN.2.1; refine nA ?_); rotate_left; refine nA ?_)) <;> exact Am1
 |((refine hR _ _ _ _ _ (fun i hi => by (simp only [put]; (repeat rw [if_neg (by omega)]))) (c0) (c0) (fun x h1 h2 => by simp only [Heap.put, if_neg h1, if_neg h2]) ‹Nd _› hF)) <;> exact Am1
 |((refine M_cU 60 7 rfl (fun R t0 H0 hTT hHH hR => M_reg.2 ?_) (fun z g n' => ?_) <;> refine nA ?_)) <;> exact Am1
 |(exact hR _ _ _ (by ((repeat' (first | exact Low.refl | refine Low.put (by decide) ?_)); first | done | fail)) (c0))
 |exact kH
 |(refine M_regm (e := e) 24001 rfl rfl hF (fun R t0 H0 hTT hHH hR => M_reg.2 ?_) (fun c g n' b1 hF => ?_) <;> (try refine nA ?_) <;> exact Am1)
 |fail) : p := h
theorem kB1 (h : p := by
 first
 |(refine MC_mt (r30 _) cA dM hF ?_; rintro _ b1 ⟨rfl, hnd⟩ hmono hF; exact kT1)
 |(refine MC_mt (r48 B _) cA dM hF ?_; rintro _ b1 ⟨s, rfl, hs48⟩ hmono hF; exact kT1)
 |(refine MC_mt (r24 ih ‹_›) cA dM hF ?_; exact kML1)
 |(refine MC_pure (r58 (‹EZ _ _› : EZ _ _).1 (‹EZ _ _› : EZ _ _).le) pE dM ?_; rintro _ ⟨c, rfl⟩; exact kT1)
 |(refine MC_mt (r61 ih hx hm (by (show 1 ≤ (els kids).length); omega)) cA dM hF ?_; exact kMN1)
 |(refine MC_pure (r62 (‹EZ _ _› : EZ _ _).1 (‹EZ _ _› : EZ _ _).le) pE dM ?_; rintro _ ⟨c, rfl⟩; exact kT1)
 |(refine MC_mt (ihl ‹EZ _ _›) cA dM hF ?_; exact kMN1)
 |(refine MC_mt (ih.e ‹EZ _ _›) cA dM hF ?_; exact kMN1)
 |(refine MC_pure (r60 ‹Nd _›) pE dM ?_; rintro _ ⟨c, rfl⟩; exact kT1)
 |(refine MC_pure (r59 ‹Nd _›) pE dM ?_; exact kPN1)
 |fail) : p := h
end QFc1
theorem r29 {F : Int → ByteArray} (B : Base X G F) {m : Nat} {x : List PV} (ih : IHf X G m) (ihl : ∀ {y}, EZ m y → Mt Tab X G 29 [.agg y] (fun _ => NdX)) (hx : ExprC x) (hm : SizeOf.sizeOf x ≤ m) : Mt Tab X G 29 [.agg x] (fun _ => NdX) := by
 intro e fine
 have hF : fine = true → fine = true := id
 have hx0 := hx
 obtain ⟨kind, op, ref, chain, flags, nn, str, text, kids, props, parts, fns, classes, rfl, hn, l_str, ht, l_kids, l_props, l_parts, l_fns, l_classes⟩ := hx0.open (hm)
 have := l_str.1; have := l_str.2.1; have := l_kids.1; have := l_kids.2.1; have := l_props.1; have := l_props.2.1; have := l_parts.1; have := l_parts.2.1; have := l_fns.1; have := l_fns.2.1; have := l_classes.1; have := l_classes.2.1
 refine Fn_of T29 (by simp) ?_
 refine nA ?_
 open QFc1 in exact Am1
def NdB (r : PV) : Prop := ∃ c b, r = .tup [.agg c, .bool b] ∧ Nd c
namespace QFc2
theorem kA1 (h : p := by
 first
 |((refine ⟨_, rfl, ?_, _, _, rfl, ?_⟩; (first | exact hF | exact fun _ => trivial | exact fun h => absurd h Bool.false_ne_true); (simp [Nd_cells, NdF_nils, NdF_sl, *]; first | done | fail))) <;> exact Am1
 |((refine ⟨_, rfl, ?_, _, _, rfl, ?_⟩; (first | exact hF | exact fun _ => trivial | exact fun h => absurd h Bool.false_ne_true); exact ‹Nd _›)) <;> exact Am1
 |exact kH
 |fail) : p := h
theorem kB1 (h : p := by
 first
 |(refine MC_mt (r30 _) cA dM hF ?_; rintro _ b1 ⟨rfl, hnd⟩ hmono hF; exact kT1)
 |(refine MC_pure (r50 _) pE dM ?_; rintro _ ⟨c, rfl⟩; exact kT1)
 |(refine MC_pure (B.h51 _ ‹_›) pE dM ?_; exact kPN1)
 |(refine MC_pure (B.h42 l_str) pE dM ?_; rintro _ ⟨s', rfl, hs'⟩; exact kT1)
 |(refine MC_mt (r52 B _ _ _ (by first | (rw [ByteArray.size_append, str1]; omega) | omega) (by decide)) cA dM hF ?_; exact kMN1)
 |(refine MC_pure (B.h53 _ (by omega) (by omega)) pE dM ?_; rintro _ rfl; exact kT1)
 |(refine MC_mt (r54 _ h46 hx hm) cA dM hF ?_; exact kMN1)
 |fail) : p := h
end QFc2
theorem r22 {F : Int → ByteArray} (B : Base X G F) {m : Nat} {x : List PV} (h46 : ∀ {y}, FZ m y → ∀ k, Mt Tab X G 46 [.agg y, .int .u64 k] (fun _ => NdX)) (hx : ExprC x) (hm : SizeOf.sizeOf x ≤ m) : Mt Tab X G 22 [.agg x] (fun _ => NdB) := by
 intro e fine
 have hF : fine = true → fine = true := id
 have hx0 := hx
 obtain ⟨kind, op, ref, chain, flags, nn, str, text, kids, props, parts, fns, classes, rfl, hn, l_str, ht, l_kids, l_props, l_parts, l_fns, l_classes⟩ := hx0.open (hm)
 have := l_str.1; have := l_str.2.1; have := l_kids.1; have := l_kids.2.1; have := l_props.1; have := l_props.2.1; have := l_parts.1; have := l_parts.2.1; have := l_fns.1; have := l_fns.2.1; have := l_classes.1; have := l_classes.2.1
 have hsz : text.size + (bs [110]).size ≤ 9223372036854775807 := by rw [str1]; omega
 have hsz2 : (bs [118]).size + (F ref).size ≤ 9223372036854775807 := by have := B.hF ref; rw [str1]; omega
 refine Fn_of T22 (by simp) ?_
 refine nA ?_
 open QFc2 in exact Am1
namespace QFc3
theorem kA1 (h : p := by
 first
 |((refine ⟨_, rfl, ?_, ?_⟩; (first | exact hF | exact fun _ => trivial | exact fun h => absurd h Bool.false_ne_true); (simp [NdX_agg, Nd_cells, Nd_num, NdF_nils, NdF_sl, *]; first | done | fail))) <;> exact Am1
 |((refine ⟨_, rfl, ?_, ?_⟩; (first | exact hF | exact fun _ => trivial | exact fun h => absurd h Bool.false_ne_true); exact NdX_agg.2 (Nd_mk (NdF_of ⟨hS, hDp, hLn, hMem⟩ (by have := l_kids.1.len; omega) (by omega))))) <;> exact Am1
 |exact kH
 |fail) : p := h
theorem kB1 (h : p := by
 first
 |(refine MC_mt (r30 _) cA dM hF ?_; rintro _ b1 ⟨rfl, hnd⟩ hmono hF; exact kT1)
 |(refine MC_mt (h22) cA dM hF ?_; rintro _ b1 ⟨_, b, rfl, hnc⟩ hmono hF; exact kT1)
 |(refine MC_mt (h25) cA dM hF ?_; exact kMN1)
 |(refine MC_mt (h26) cA dM hF ?_; exact kMN1)
 |(refine MC_mt (h27) cA dM hF ?_; exact kMN1)
 |(refine MC_mt (h28) cA dM hF ?_; exact kMN1)
 |(refine MC_mt (h29) cA dM hF ?_; exact kMN1)
 |(refine MC_mt (h31) cA dM hF ?_; exact kMN1)
 |(refine MC_mt (r23 _ _ _ (by decide) ih ‹_›) cA dM hF ?_; exact kMN1)
 |(refine MC_mt (r24 ih ‹_›) cA dM hF ?_; exact kML1)
 |(refine MC_mt (ih.e ‹EZ _ _›) cA dM hF ?_; exact kMN1)
 |(obtain ⟨nk, nt, nm, nn, nkids, na, rfl, hN⟩ := (‹Nd _› : Nd _).open; have hS := hN.1; have hDp := hN.2.1; refine nA ?_) <;> exact Am1
 |fail) : p := h
end QFc3
theorem r16 {m : Nat} {x : List PV} (ih : IHf X G m) (h22 : Mt Tab X G 22 [.agg x] (fun _ => NdB)) (h25 : Mt Tab X G 25 [.agg x] (fun _ => NdX)) (h26 : Mt Tab X G 26 [.agg x] (fun _ => NdX)) (h27 : Mt Tab X G 27 [.agg x] (fun _ => NdX)) (h28 : Mt Tab X G 28 [.agg x] (fun _ => NdX)) (h29 : Mt Tab X G 29 [.agg x] (fun _ => NdX)) (h31 : Mt Tab X G 31 [.agg x] (fun _ => NdX)) (hx : ExprC x) (hm : SizeOf.sizeOf x ≤ m) : Mt Tab X G 16 [.agg x] (fun _ => NdX) := by
 intro e fine
 have hF : fine = true → fine = true := id
 have hx0 := hx
 obtain ⟨kind, op, ref, chain, flags, nn, str, text, kids, props, parts, fns, classes, rfl, hn, l_str, ht, l_kids, l_props, l_parts, l_fns, l_classes⟩ := hx0.open (hm)
 have := l_str.1; have := l_str.2.1; have := l_kids.1; have := l_kids.2.1; have := l_props.1; have := l_props.2.1; have := l_parts.1; have := l_parts.2.1; have := l_fns.1; have := l_fns.2.1; have := l_classes.1; have := l_classes.2.1
 refine Fn_of T16 (by simp) ?_
 refine nA ?_
 open QFc3 in exact Am1
end
end Go.Pi
end
section
namespace Go.Pi
open Go.RowKit
section
variable {P : Program} {w₀ : World} {N : Nat} {E0 : Env} {wi : World}
def W (P : Program) (w₀ : World) (N : Nat) (E0 : Env) (wi : World) (c : Code) (s : St) (Q : Ex → St → Prop) : Prop :=
 ∀ (a : Act) (w : World) (K : Exit → Act → World → Prop), Rel P w₀ N E0 wi (UB s.n 0) s a w → (∀ e s' a' w', Q e s' → Rel P w₀ N E0 wi (UB s'.n 0) s' a' w' → K (exOf e) a' w') → c.wp P K a w
theorem W.skip {s : St} {Q : Ex → St → Prop} (h : Q .normal s) : W P w₀ N E0 wi .skip s Q := fun a w _ hr hK => wp_skip (hK .normal s a w h hr)
theorem W.exit {id : Nat} {s : St} {Q : Ex → St → Prop} (h : Q (.exit id) s) : W P w₀ N E0 wi (.exit id) s Q := fun a w _ hr hK => wp_exit (hK (.exit id) s a w h hr)
theorem W.ret {s : St} {Q : Ex → St → Prop} (h : Q .ret s) : W P w₀ N E0 wi .ret s Q := fun a w _ hr hK => wp_ret (hK .ret s a w h hr)
def thenQ (f : St → Prop) (Q : Ex → St → Prop) : Ex → St → Prop
 |.normal, s => f s
 |e, s => Q e s
def inQ (id : Nat) (Q : Ex → St → Prop) : Ex → St → Prop
 |.exit j, s => Q (if j = id then .normal else .exit j) s
 |e, s => Q e s
theorem W.seq {x y : Code} {s : St} {Q : Ex → St → Prop} (h : W P w₀ N E0 wi x s (thenQ (fun s' => W P w₀ N E0 wi y s' Q) Q)) : W P w₀ N E0 wi (.seq x y) s Q := by
 intro a w K hr hK
 refine wp_seq (h a w _ hr ?_)
 intro e s' a' w' hq hr'
 cases e with
 |normal => exact hq a' w' K hr' hK
 |exit id => exact hK _ s' a' w' hq hr'
 |ret => exact hK _ s' a' w' hq hr'
theorem W.cond {G : Nat → PV} (hG : Gok w₀ G) {c : Operand} {oc : Opd} {x y : Code} {s : St} {Q : Ex → St → Prop} {t : Bool} (hc : compileOpd c = some oc) (ht : ev G s.t oc = .bool t) (h : W P w₀ N E0 wi (if t then x else y) s Q) : W P w₀ N E0 wi (.cond c x y) s Q := by
 intro a w K hr hK
 have hcv : a.eval c = .bool t := by
  obtain ⟨E, hr⟩ := hr
  have := ev_rep hG hr.inv hr.slots c oc hc
  rw [ht] at this
  generalize a.eval c = z at this
  cases this; rfl
 exact wp_cond hcv (h a w K hr hK)
theorem W.block {id : Nat} {x : Code} {s : St} {Q : Ex → St → Prop} (h : W P w₀ N E0 wi x s (inQ id Q)) : W P w₀ N E0 wi (.block id x) s Q := by
 intro a w K hr hK
 refine wp_block (h a w _ hr ?_)
 intro e s' a' w' hq hr'
 cases e with
 |normal => exact hK .normal s' a' w' hq hr'
 |exit j =>
  simp only [exOf, Exit.inBlock]
  simp only [inQ] at hq
  split
  ·rename_i hj
   rw [if_pos hj] at hq
   exact hK .normal s' a' w' hq hr'
  ·rename_i hj
   rw [if_neg hj] at hq
   exact hK (.exit j) s' a' w' hq hr'
 |ret => exact hK .ret s' a' w' hq hr'
theorem W.loop {x : Code} {Q : Ex → St → Prop} (I : Nat → St → Prop) {n : Nat} {s : St} (h0 : I n s) (h : ∀ m s, I m s → W P w₀ N E0 wi x s (thenQ (fun s' => ∃ m', m = m' + 1 ∧ I m' s') Q)) : W P w₀ N E0 wi (.loop x) s Q := by
 intro a w K hr hK
 have key : ∀ (n : Nat) (s : St) (a : Act) (w : World), I n s → Rel P w₀ N E0 wi (UB s.n 0) s a w → Code.rounds P x K (n + 1) a w := by
  intro n
  induction n with
  |zero =>
   intro s a w hI hr
   rw [rounds_succ]
   refine h 0 s hI a w _ hr ?_
   intro e s' a' w' hq hr'
   cases e with
   |normal => obtain ⟨m', hm, _⟩ := hq; omega
   |exit id => exact hK (.exit id) s' a' w' hq hr'
   |ret => exact hK .ret s' a' w' hq hr'
  |succ n ih =>
   intro s a w hI hr
   rw [rounds_succ]
   refine h (n + 1) s hI a w _ hr ?_
   intro e s' a' w' hq hr'
   cases e with
   |normal =>
    obtain ⟨m', hm, hI'⟩ := hq
    have : m' = n := by omega
    subst this
    exact ih s' a' w' hI' hr'
   |exit id => exact hK (.exit id) s' a' w' hq hr'
   |ret => exact hK .ret s' a' w' hq hr'
 exact wp_loop_rounds (n + 1) (key n s a w h0 hr)
theorem W.run {T : Nat → Option FX} {X : CallF} {G : Nat → PV} (hm : P.follows .mixedOrders = true) (hS : ∀ n, SimCall P w₀ (callX T X G n)) (hG : Gok w₀ G) {c : Code} {xs : List XC} (hc : compileC P N c = some xs) {s : St} {Q : Ex → St → Prop}
  (h : M T X G (xs.map .code) s Q) : W P w₀ N E0 wi c s Q := by
 obtain ⟨n, e, s', hrun, hq⟩ := (M_codes (w := []) xs s).1 (by simpa using h)
 intro a w K hr hK
 exact code_sim hm (hS n) hG n c xs hc s s' e a w K hrun hr fun a' w' hr' => hK e s' a' w' hq hr'
theorem W.mono {c : Code} {s : St} {Q Q' : Ex → St → Prop} (h : W P w₀ N E0 wi c s Q) (hQ : ∀ e s, Q e s → Q' e s) : W P w₀ N E0 wi c s Q' :=
 fun a w K hr hK => h a w K hr fun e s' a' w' hq hr' => hK e s' a' w' (hQ e s' hq) hr'
theorem Rel.weak {U U' : Nat → Nat → Prop} {s s' : St} {a : Act} {w : World} (h : Rel P w₀ N E0 wi U s a w) (hH : ∀ b, s'.H b = s.H b ∨ s'.H b = none) (ht : ∀ x, s'.t x = s.t x ∨ s'.t x = .undef) (hU : ∀ b g, U b g → U' b g) : Rel P w₀ N E0 wi U' s' a w := by
 obtain ⟨E, h⟩ := h
 let E' : Env := ⟨E.K, E.F, E.β, E.κ, s'.H⟩
 have hsub : ∀ b c, s'.H b = some c → E.H b = some c := by
  intro b c hc
  rw [h.heap]
  rcases hH b with e | e
  ·rw [← e]; exact hc
  ·rw [e] at hc; cases hc
 have hle : Le E E' := ⟨fun _ _ h => h, fun _ _ h => h, fun b c' hc _ => ⟨c', hsub b c' hc, rfl, rfl, rfl⟩⟩
 refine ⟨E', ⟨h.inv.below, h.inv.cell, h.inv.old, fun b c hc => ?_⟩, rfl, fun x => ?_, h.size, h.defers, fun b g k => hU b g (h.used b g k), h.ext.trans ⟨hle, Nat.le_refl _, fun a u hu => .inl hu, fun _ _ _ => rfl, fun b c hc => .inr ⟨b, c, hsub b c hc, rfl⟩⟩⟩
 ·have hx := h.inv.chunk b c (hsub b c hc)
  obtain ⟨cs, k1, k2, k3, k4⟩ := hx.cells
  exact ⟨hx.used, hx.last, hx.own, fun b' c' hb' he => hx.apart b' c' (hsub b' c' hb') he, hx.free, ⟨cs, k1, k2, k3, k4.mono hle⟩, hx.flat⟩
 ·rcases ht x with e | e
  ·rw [e]; exact (h.slots x).mono hle
  ·rw [e]; exact .undef _
theorem Rel.rename {n b B : Nat} {c : Chunk} {s s' : St} {a : Act} {w : World} (h : Rel P w₀ N E0 wi (UB n 0) s a w) (hb : s.H b = some c) (hB : s'.H B = some ⟨c.e, n, c.cells, c.s⟩) (hH : ∀ x, x ≠ B → s'.H x = if x = b then none else s.H x) (hBb : B ≠ b)
  (ht : ∀ x, s'.t x = s.t x ∨ ∃ off, s.t x = .ptr b c.gen off ∧ s'.t x = .ptr B n off) : Rel P w₀ N E0 wi (UB (n + 1) 0) s' a w := by
 obtain ⟨E, h⟩ := h
 have hused : ∀ x g, E.K x g → g < n := fun x g k => by have : g < n + 0 := h.used x g k; simpa using this
 let E' : Env := ⟨fun x y => E.K x y ∨ (x = B ∧ y = n), E.F, fun x => if x = B then E.β b else E.β x, fun x => if x = B then E.κ b else E.κ x, s'.H⟩
 have hEb : E.H b = some c := by rw [h.heap]; exact hb
 have hsub : ∀ x c', x ≠ B → s'.H x = some c' → E.H x = some c' ∧ x ≠ b := by
  intro x c' hx hc'
  rw [hH x hx] at hc'
  split at hc'
  ·cases hc'
  ·rename_i hxb; exact ⟨by rw [h.heap]; exact hc', hxb⟩
 have hle : Le E E' := by
  refine ⟨fun _ _ h => .inl h, fun _ _ h => h, fun x c' hc' hk => ?_⟩
  by_cases e : x = B
  ·subst e
   have hc2 : s'.H x = some c' := hc'
   rw [hB] at hc2
   cases hc2
   exact absurd (hused _ _ hk) (Nat.lt_irrefl _)
  ·exact ⟨c', (hsub x c' e hc').1, rfl, by simp [E', e], by simp [E', e]⟩
 have hx := h.inv.chunk b c hEb
 refine ⟨E', ⟨h.inv.below, h.inv.cell, h.inv.old, fun x c' hc' => ?_⟩, rfl, fun x => ?_, h.size, h.defers, fun x g k => ?_, h.ext.trans ⟨hle, Nat.le_refl _, fun a u hu => .inl hu, fun _ _ _ => rfl, fun x c' hc' => ?_⟩⟩
 ·by_cases e : x = B
  ·subst e
   have hc2 : s'.H x = some c' := hc'
   rw [hB] at hc2
   cases hc2
   obtain ⟨cs, k1, k2, k3, k4⟩ := hx.cells
   have hβ : E'.β x = E.β b := by simp [E']
   refine ⟨.inr ⟨rfl, rfl⟩, fun g hg hk => ?_, by rw [hβ]; exact hx.own, fun b' c'' hb' he => ?_, fun a ha => hx.free a (by rw [hβ] at ha; exact ha), ⟨cs, by rw [hβ]; exact k1, k2, fun i hi => by have := k3 i hi; simpa [E'] using this, k4.mono hle⟩, hx.flat⟩
   ·rcases hk with hk | ⟨_, hk⟩
    ·have := hused _ _ hk; have : n < g := hg; omega
    ·have : n < g := hg; omega
   ·by_cases e' : b' = x
    ·exact e'
    ·obtain ⟨h1, h2⟩ := hsub b' c'' e' hb'
     rw [hβ] at he
     have he' : E.β b' = E.β b := by simpa [E', e'] using he
     exact absurd (hx.apart b' c'' h1 he') h2
  ·obtain ⟨h1, h2⟩ := hsub x c' e hc'
   have hy := h.inv.chunk x c' h1
   obtain ⟨cs, k1, k2, k3, k4⟩ := hy.cells
   have hβ : E'.β x = E.β x := by simp [E', e]
   refine ⟨.inl hy.used, fun g hg hk => ?_, by rw [hβ]; exact hy.own, fun b' c'' hb' he => ?_, fun a ha => hy.free a (by rw [hβ] at ha; exact ha), ⟨cs, by rw [hβ]; exact k1, k2, fun i hi => by have := k3 i hi; simpa [E', e] using this, k4.mono hle⟩, hy.flat⟩
   ·rcases hk with hk | ⟨hk, _⟩
    ·exact hy.last g hg hk
    ·exact e hk
   ·by_cases e' : b' = B
    ·subst e'
     rw [hβ] at he
     have he' : E.β b = E.β x := by simpa [E'] using he
     exact absurd (hy.apart b c hEb he').symm h2
    ·obtain ⟨h3, _⟩ := hsub b' c'' e' hb'
     rw [hβ] at he
     exact hy.apart b' c'' h3 (by simpa [E', e'] using he)
 ·rcases ht x with e | ⟨off, e1, e2⟩
  ·rw [e]; exact (h.slots x).mono hle
  ·have hs := h.slots x
   rw [e1] at hs
   obtain ⟨hv, _, hp⟩ := hs.ptr_inv
   rw [e2]
   refine .ptr B n off _ hv (.inr ⟨rfl, rfl⟩) fun c' hc' _ => ?_
   have := hp c hEb rfl
   simpa [E'] using this
 ·rcases k with k | ⟨_, k⟩
  ·have := hused x g k; show g < n + 1 + 0; omega
  ·show g < n + 1 + 0; omega
 ·by_cases e : x = B
  ·subst e; exact .inr ⟨b, c, hEb, by simp [E']⟩
  ·exact .inr ⟨x, c', (hsub x c' e hc').1, by simp [E', e]⟩
theorem W.weak {c : Code} {s s' : St} {Q : Ex → St → Prop} (hH : ∀ b, s'.H b = s.H b ∨ s'.H b = none) (ht : ∀ x, s'.t x = s.t x ∨ s'.t x = .undef) (hn : s.n ≤ s'.n) (h : W P w₀ N E0 wi c s' Q) : W P w₀ N E0 wi c s Q :=
 fun a w K hr hK => h a w K (hr.weak hH ht fun b g (k : g < s.n + 0) => show g < s'.n + 0 by omega) hK
theorem ops_pre {callF : CallF} (hS : SimCall P w₀ callF) {G : Nat → PV} (hG : Gok w₀ G) {ops : Array Oper} {rid r : Nat} {Q : Exit → Act → World → Prop} : ∀ (m i : Nat) (xs : List XO), i + m ≤ ops.size →
  compileXOs P N ops rid i ((ops.toList.drop i).take m) = some xs → ∀ {s s' : St} {a : Act} {w : World}, Rel P w₀ N E0 wi (UB s.n i) s a w → runOps callF G i xs s = some s' →
  (∀ a' w', s'.n = s.n → Rel P w₀ N E0 wi (UB s.n (i + m)) s' a' w' → wpOps P ops Q (List.range' (i + m) r) a' w') → wpOps P ops Q (List.range' i (m + r)) a w := by
 intro m
 induction m with
 |zero =>
  intro i xs hi hc s s' a w hr hrun hQ
  simp only [List.take_zero, compileXOs, Option.some.injEq] at hc
  subst hc
  simp only [runOps, Option.some.injEq] at hrun
  subst hrun
  rw [Nat.zero_add]
  exact hQ _ _ rfl hr
 |succ m ih =>
  intro i xs hi hc s s' a w hr hrun hQ
  have hlt : i < ops.toList.length := by simp; omega
  rw [List.drop_eq_getElem_cons hlt, List.take_succ_cons] at hc
  simp only [compileXOs, bind, Option.bind_eq_some_iff, Option.some.injEq] at hc
  obtain ⟨x, hx, ys, hys, rfl⟩ := hc
  simp only [runOps, Option.bind_eq_some_iff] at hrun
  obtain ⟨s1, h1, h2⟩ := hrun
  have hn := runOp_n h1
  have ho : ops[i]? = some ops.toList[i] := by simp [Array.getElem?_eq_getElem (show i < ops.size by simpa using hlt)]
  rw [show m + 1 + r = (m + r) + 1 by omega, List.range'_succ, wpOps_cons]
  refine op_sim hS hG hx ho hr (fun b _ g hg hu => by have : g < s.n + i := hu; omega) h1 ?_
  intro a' w' hr'
  refine ih (i + 1) ys (by omega) hys (s := s1) (s' := s') ?_ h2 ?_
  ·obtain ⟨E, hr'⟩ := hr'
   refine ⟨E, hr'.inv, hr'.heap, hr'.slots, hr'.size, hr'.defers, fun b g h => ?_, hr'.ext⟩
   have := hr'.used b g h
   show g < s1.n + (i + 1)
   rcases this with h | ⟨h, _⟩
   ·have : g < s.n + i := h; omega
   ·omega
  ·intro a'' w'' hn' hr''
   rw [show i + 1 + m = i + (m + 1) by omega]
   exact hQ a'' w'' (hn'.trans hn) (by rw [← hn, show i + (m + 1) = i + 1 + m by omega]; exact hr'')
def NmS (H : Heap) (gb : Nat) (l : List Int) : Prop := ∃ v s, H 900000 = some ⟨23, gb, [v], s⟩ ∧ Grow [1009] H 3 1 v (l.map fun n => [.int .i64 n])
def NmH (H : Heap) (gb : Nat) (l : List Int) : Prop := (∀ b, b ≠ 900000 → b ≠ 1009 → H b = none) ∧ NmS H gb l
def keep2 (H : Heap) : Heap := fun b => if b = 900000 ∨ b = 1009 then H b else none
theorem NmS.keep {H : Heap} {gb : Nat} {l : List Int} (h : NmS H gb l) : NmH (keep2 H) gb l := by
 obtain ⟨v, s, h1, h2⟩ := h
 exact ⟨fun b h1 h2 => by simp [keep2, h1, h2], v, s, by simpa [keep2] using h1, h2.frame fun b hb => by simp only [List.mem_singleton] at hb; subst hb; simp [keep2]⟩
theorem NmS.frame {H H' : Heap} {gb : Nat} {l : List Int} (h : NmS H gb l) (h1 : H' 900000 = H 900000) (h2 : H' 1009 = H 1009) : NmS H' gb l := by
 obtain ⟨v, s, h3, h4⟩ := h
 exact ⟨v, s, h1.trans h3, h4.frame fun b hb => by simp only [List.mem_singleton] at hb; subst hb; exact h2⟩
def Shc (P : Program) (w₀ : World) (f : Nat) (args : List PV) (gb : Nat) (l : List Int) : Prop :=
 ∀ (E : Env) (w : World) (vs : List Value) (n : Nat) (l0 : List Int), Inv P w₀ E w → NmH E.H gb l0 → (∀ b g, E.K b g → g < n) → Reps E args vs → (l0 ++ l).length ≤ 1048576 →
  Calls P f vs.toArray w fun e w' => ∃ E' n', e = .returned (.tuple #[]) ∧ Inv P w₀ E' w' ∧ Ext E w E' w' ∧ n ≤ n' ∧ (∀ b g, E'.K b g → g < n') ∧ NmH E'.H gb (l0 ++ l)
theorem Shc.of_W {f : Nat} {fn : Func} {c : Code} {args : List PV} {gb : Nat} {l : List Int} (hfn : P.funcs[f]? = some fn) (hb : fn.body = some c) (hres : fn.results = #[]) (hlen : args.length ≤ fn.ntmps)
  (h : ∀ (E : Env) (w : World) (H : Heap) (n : Nat) (l0 : List Int), NmH H gb l0 → (l0 ++ l).length ≤ 1048576 → W P w₀ fn.ntmps E w c ⟨fun i => args.getD i .undef, H, n⟩ (fun e s' => (∀ id, e ≠ .exit id) ∧ n ≤ s'.n ∧ NmS s'.H gb (l0 ++ l))) : Shc P w₀ f args gb l := by
 intro E w vs n l0 hI hN hK hR hl
 have hlv : vs.length ≤ fn.ntmps := by rw [← hR.1]; exact hlen
 have hrel : Rel P w₀ fn.ntmps E w (UB n 0) ⟨fun i => args.getD i .undef, E.H, n⟩ { tmps := vs.toArray ++ Array.replicate (fn.ntmps - vs.toArray.size) undef, defers := [] } w := by
  refine ⟨E, hI, rfl, fun x => ?_, by simp; omega, rfl, fun b g h => by show g < n + 0; have := hK b g h; omega, Ext.refl E w⟩
  show Rep E (args.getD x .undef) _
  by_cases hx : x < args.length
  ·have h1 := hR.get x hx
   have e1 : args.getD x .undef = args[x] := by simp [List.getD_eq_getElem?_getD, hx]
   have hxv : x < vs.length := hR.1 ▸ hx
   have e2 : (vs.toArray ++ Array.replicate (fn.ntmps - vs.toArray.size) undef).getD x undef = vs[x] := by
    simp [Array.getD_eq_getD_getElem?, Array.getElem?_append, hxv]
   rw [e1, e2]; exact h1
  ·have e1 : args.getD x .undef = .undef := by simp [List.getD_eq_getElem?_getD]; rw [List.getElem?_eq_none (by omega)]; rfl
   rw [e1]; exact .undef _
 refine calls_of_wp hfn hb (h E w E.H n l0 hN hl _ w _ hrel ?_)
 rintro e s' a' w' ⟨he, hn', hN'⟩ hr'
 obtain ⟨E1, h1⟩ := hr'.weak (U' := UB s'.n 0) (s' := ⟨s'.t, keep2 s'.H, s'.n⟩) (fun b => by by_cases hb : b = 900000 ∨ b = 1009 <;> simp [keep2, hb]) (fun x => .inl rfl) (fun _ _ h => h)
 have hfin : ∃ v, (results fn a'.tmps).run P w' = .ok v w' ∧ ∃ E' n', Ending.returned v = .returned (.tuple #[]) ∧ Inv P w₀ E' w' ∧ Ext E w E' w' ∧ n ≤ n' ∧ (∀ b g, E'.K b g → g < n') ∧ NmH E'.H gb (l0 ++ l) := by
  obtain ⟨v, hv1, hv2⟩ := run_results h1.inv h1.slots (fn := fn) (xs := []) (vs := []) (by rw [hres]; rfl) rfl
  have hv3 : v = .tuple #[] := by
   obtain ⟨us, rfl, hus⟩ := hv2.tup_inv
   have := hus.1
   match us, this with
   |[], _ => rfl
  refine ⟨v, hv1, E1, s'.n, by rw [hv3], h1.inv, h1.ext, hn', fun b g k => ?_, ?_⟩
  ·have : g < s'.n + 0 := h1.used b g k
   simpa using this
  ·rw [h1.heap]; exact hN'.keep
 cases e with
 |normal => exact ⟨h1.defers, hfin⟩
 |exit id => exact absurd rfl (he id)
 |ret => exact ⟨h1.defers, hfin⟩
section
variable {callF : CallF} {G : Nat → PV}
theorem W.call (hS : SimCall P w₀ callF) (hG : Gok w₀ G) {id m f gb ty : Nat} {ops : Array Oper} {xs : List XO} {s s1 : St} {Q : Ex → St → Prop} {dst : Option Nat} {ar : Array Operand} {ts : Array TypeId} {pos : String} {af : Array Edge} {l : List Opd} {l0 l1 : List Int}
  (hsz : ops.size = m + 1) (hpre : compileXOs P N ops id 0 ((ops.toList.drop 0).take m) = some xs) (hrun : runOps callF G 0 xs s = some s1)
  (hop : ops[m]? = some ⟨dst, .call ⟨.value (.func f), ar, ts⟩, ty, pos, af, none⟩) (hd : ∀ d, dst = some d → d < N) (hf : FnOk P f) (hl : compileOpds ar.toList = some l)
  (hsh : Shc P w₀ f (l.map (ev G s1.t)) gb l1) (hN : NmS s1.H gb l0) (hlen : (l0 ++ l1).length ≤ 1048576)
  (next : ∀ H' n', NmH H' gb (l0 ++ l1) → s.n ≤ n' → Q .normal ⟨put s1.t dst (.tup []), H', n'⟩) : W P w₀ N E0 wi (.region id ops false) s Q := by
 intro a w K hr hK
 refine wp_region ?_
 rw [List.range_eq_range', hsz]
 refine ops_pre hS hG m 0 xs (by omega) hpre hr hrun ?_
 intro a1 w1 hn1 hr1
 rw [Nat.zero_add] at hr1 ⊢
 rw [show List.range' m 1 = [m] from rfl, wpOps_cons]
 unfold wpOp
 simp only [hop]
 rw [if_pos (by simp [Region.wanted])]
 left
 obtain ⟨E, h⟩ := hr1.weak (U' := UB s.n m) (s' := ⟨s1.t, keep2 s1.H, s1.n⟩) (fun b => by by_cases hb : b = 900000 ∨ b = 1009 <;> simp [keep2, hb]) (fun x => .inl rfl) (fun _ _ h => h)
 have hR := compileOpds_rep (ev_rep hG h.inv h.slots) _ _ hl
 obtain ⟨fn, hfn, hb, hname⟩ := hf
 have hrun2 : (execOp a1.eval ⟨dst, .call ⟨.value (.func f), ar, ts⟩, ty, pos, af, none⟩).run P w1 = .ok (.enter f (ar.toList.map a1.eval).toArray) w1 := by
  have e1 : ar.map a1.eval = (ar.toList.map a1.eval).toArray := by apply Array.ext'; simp
  simp only [execOp, resolve, Deferred.ofValue, Act.eval, Sem.run_bind, Sem.run_pure, Result.andThen_ok, invoke, callFunc, run_program, hfn, hb, hname, e1]
  simp [hfn, hb, hname, e1]
 unfold Oper.wp
 rw [hrun2, Oper.upon_enter]
 refine (hsh E w1 _ (s.n + m) l0 h.inv (by rw [h.heap]; exact hN.keep) (fun b g k => h.used b g k) hR hlen).mono ?_
 rintro e w' ⟨E', n', rfl, hI', hX', hn', hK', hN'⟩
 obtain ⟨h3, h4, h5⟩ := getD_put (E := E') (v := .tup []) (z := .tuple #[]) (d := dst) h.size hd (fun y => (h.slots y).mono hX'.le) (.tup [] [] rfl fun i hi => absurd hi (by simp))
 exact hK .normal ⟨put s1.t dst (.tup []), E'.H, n'⟩ _ _ (next E'.H n' hN' (by omega)) ⟨E', hI', rfl, h3, h4, h5.trans h.defers, fun b g k => by show g < n' + 0; have := hK' b g k; omega, h.ext.trans hX'⟩
theorem W.callv (hS : SimCall P w₀ callF) (hG : Gok w₀ G) {id m f gb ty fo : Nat} {ops : Array Oper} {xs : List XO} {s s1 : St} {Q : Ex → St → Prop} {dst : Option Nat} {ar : Array Operand} {ts : Array TypeId} {pos : String} {af : Array Edge} {l : List Opd} {caps : List PV} {l0 l1 : List Int}
  (hsz : ops.size = m + 1) (hpre : compileXOs P N ops id 0 ((ops.toList.drop 0).take m) = some xs) (hrun : runOps callF G 0 xs s = some s1)
  (hop : ops[m]? = some ⟨dst, .call ⟨.value (.tmp fo), ar, ts⟩, ty, pos, af, none⟩) (hd : ∀ d, dst = some d → d < N) (hf : FnOk P f) (hl : compileOpds ar.toList = some l) (hclo : s1.t fo = .clo (.func f) [] caps)
  (hsh : Shc P w₀ f (l.map (ev G s1.t) ++ caps) gb l1) (hN : NmS s1.H gb l0) (hlen : (l0 ++ l1).length ≤ 1048576)
  (next : ∀ H' n', NmH H' gb (l0 ++ l1) → s.n ≤ n' → Q .normal ⟨put s1.t dst (.tup []), H', n'⟩) : W P w₀ N E0 wi (.region id ops false) s Q := by
 intro a w K hr hK
 refine wp_region ?_
 rw [List.range_eq_range', hsz]
 refine ops_pre hS hG m 0 xs (by omega) hpre hr hrun ?_
 intro a1 w1 hn1 hr1
 rw [Nat.zero_add] at hr1 ⊢
 rw [show List.range' m 1 = [m] from rfl, wpOps_cons]
 unfold wpOp
 simp only [hop]
 rw [if_pos (by simp [Region.wanted])]
 left
 obtain ⟨E, h⟩ := hr1.weak (U' := UB s.n m) (s' := ⟨s1.t, keep2 s1.H, s1.n⟩) (fun b => by by_cases hb : b = 900000 ∨ b = 1009 <;> simp [keep2, hb]) (fun x => .inl rfl) (fun _ _ h => h)
 have hev := ev_rep hG h.inv h.slots
 have hR := compileOpds_rep hev _ _ hl
 have hfo := hev (.tmp fo) (.t fo) rfl
 rw [show ev G s1.t (.t fo) = s1.t fo from rfl, hclo] at hfo
 generalize hz : a1.eval (.tmp fo) = z at hfo
 cases hfo with
 |clo _ _ _ vs us hl1 h1 hl2 h2 =>
  have hvs : vs = [] := by match vs, hl1 with | [], _ => rfl
  subst hvs
  have hRa : Reps E (l.map (ev G s1.t) ++ caps) (ar.toList.map a1.eval ++ us) := hR.append (Reps.mk hl2 h2)
  obtain ⟨fn, hfn, hb, hname⟩ := hf
  have hrun2 : (execOp a1.eval ⟨dst, .call ⟨.value (.tmp fo), ar, ts⟩, ty, pos, af, none⟩).run P w1 = .ok (.enter f (ar.toList.map a1.eval ++ us).toArray) w1 := by
   have e1 : (#[] : Array Value) ++ ar.map a1.eval ++ us.toArray = (ar.toList.map a1.eval ++ us).toArray := by apply Array.ext'; simp
   simp only [execOp, resolve, hz, Deferred.ofValue, Sem.run_bind, Sem.run_pure, Result.andThen_ok, invoke, callFunc, run_program, hfn, hb, hname, e1]
   simp
  unfold Oper.wp
  rw [hrun2, Oper.upon_enter]
  refine (hsh E w1 _ (s.n + m) l0 h.inv (by rw [h.heap]; exact hN.keep) (fun b g k => h.used b g k) hRa hlen).mono ?_
  rintro e w' ⟨E', n', rfl, hI', hX', hn', hK', hN'⟩
  obtain ⟨h3, h4, h5⟩ := getD_put (E := E') (v := .tup []) (z := .tuple #[]) (d := dst) h.size hd (fun y => (h.slots y).mono hX'.le) (.tup [] [] rfl fun i hi => absurd hi (by simp))
  exact hK .normal ⟨put s1.t dst (.tup []), E'.H, n'⟩ _ _ (next E'.H n' hN' (by omega)) ⟨E', hI', rfl, h3, h4, h5.trans h.defers, fun b g k => by show g < n' + 0; have := hK' b g k; omega, h.ext.trans hX'⟩
theorem W.callM {T : Nat → Option FX} {X : CallF} (hS : ∀ n, SimCall P w₀ (callX T X G n)) (hG : Gok w₀ G) {id m f ty : Nat} {ops : Array Oper} {xs : List XO} {s : St} {Q : Ex → St → Prop} {dst : Option Nat} {ar : Array Operand} {ts : Array TypeId} {pos : String} {af : Array Edge} {l : List Opd}
  (hsz : ops.size = m + 1) (hpre : compileXOs P N ops id 0 ((ops.toList.drop 0).take m) = some xs)
  (hop : ops[m]? = some ⟨dst, .call ⟨.value (.func f), ar, ts⟩, ty, pos, af, none⟩) (hd : ∀ d, dst = some d → d < N) (hf : FnOk P f) (hl : compileOpds ar.toList = some l)
  (h : M T X G [.ops 0 xs 0 none] s fun _ s1 => ∃ gb l0 l1, Shc P w₀ f (l.map (ev G s1.t)) gb l1 ∧ NmS s1.H gb l0 ∧ (l0 ++ l1).length ≤ 1048576 ∧ ∀ H' n', NmH H' gb (l0 ++ l1) → s.n ≤ n' → Q .normal ⟨put s1.t dst (.tup []), H', n'⟩) : W P w₀ N E0 wi (.region id ops false) s Q := by
 obtain ⟨n, s1, ft, hrun, _, gb, l0, l1, h1, h2, h3, h4⟩ := h
 have hr : runOps (callX T X G n) G 0 xs s = some s1 := by rw [← feet_ops, hrun]; rfl
 exact W.call (hS n) hG hsz hpre hr hop hd hf hl h1 h2 h3 h4
theorem W.callvM {T : Nat → Option FX} {X : CallF} (hS : ∀ n, SimCall P w₀ (callX T X G n)) (hG : Gok w₀ G) {id m f ty fo : Nat} {ops : Array Oper} {xs : List XO} {s : St} {Q : Ex → St → Prop} {dst : Option Nat} {ar : Array Operand} {ts : Array TypeId} {pos : String} {af : Array Edge} {l : List Opd}
  (hsz : ops.size = m + 1) (hpre : compileXOs P N ops id 0 ((ops.toList.drop 0).take m) = some xs)
  (hop : ops[m]? = some ⟨dst, .call ⟨.value (.tmp fo), ar, ts⟩, ty, pos, af, none⟩) (hd : ∀ d, dst = some d → d < N) (hf : FnOk P f) (hl : compileOpds ar.toList = some l)
  (h : M T X G [.ops 0 xs 0 none] s fun _ s1 => ∃ caps gb l0 l1, s1.t fo = .clo (.func f) [] caps ∧ Shc P w₀ f (l.map (ev G s1.t) ++ caps) gb l1 ∧ NmS s1.H gb l0 ∧ (l0 ++ l1).length ≤ 1048576 ∧ ∀ H' n', NmH H' gb (l0 ++ l1) → s.n ≤ n' → Q .normal ⟨put s1.t dst (.tup []), H', n'⟩) : W P w₀ N E0 wi (.region id ops false) s Q := by
 obtain ⟨n, s1, ft, hrun, _, caps, gb, l0, l1, h0, h1, h2, h3, h4⟩ := h
 have hr : runOps (callX T X G n) G 0 xs s = some s1 := by rw [← feet_ops, hrun]; rfl
 exact W.callv (hS n) hG hsz hpre hr hop hd hf hl h0 h1 h2 h3 h4
end
end
end Go.Pi
end
