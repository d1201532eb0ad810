import Derived.Below
import Derived.Laws.Append
import Derived.Laws.Entries
import Derived.Orders
/- Part of the proof. -/
set_option linter.all false
section
namespace Go.Pi
open Go.RowKit
inductive PV where
 |undef
 |bool (b : Bool)
 |int (k : IntKind) (n : Int)
 |flt (k : FloatKind) (bits : Nat)
 |nan (k : FloatKind)
 |str (s : ByteArray)
 |nilp | nilf | nili | nils
 |agg (cs : List PV)
 |tup (vs : List PV)
 |ifc (t : TypeId) (v : PV)
 |clo (f : Fn) (first captured : List PV)
 |sl (xs : List (List PV))
 |fp (cs : List PV)
 |ptr (b g off : Nat)
 |row (b g len : Nat)
 deriving Inhabited
structure Chunk where
 e : TypeId
 gen : Nat
 cells : List PV
 s : Nat
abbrev Heap := Nat → Option Chunk
structure Env where
 K : Nat → Nat → Prop
 F : Addr → Option Value
 β : Nat → Nat
 κ : Nat → Nat
 H : Heap
def PV.flat : PV → Bool
 |.agg _ | .tup _ | .undef => false
 |_ => true
inductive Rep (E : Env) : PV → Value → Prop where
 |undef (v : Value) : Rep E .undef v
 |bool (b : Bool) : Rep E (.bool b) (.bool b)
 |int (k : IntKind) (n : Int) : Rep E (.int k n) (.int k n)
 |flt (k : FloatKind) (n : Nat) : Rep E (.flt k n) (.float k n)
 |nan (k : FloatKind) (n : Nat) (h : ∀ m, k.format.order n m = none ∧ k.format.order m n = none) : Rep E (.nan k) (.float k n)
 |str (s : ByteArray) : Rep E (.str s) (.string s)
 |nilp : Rep E .nilp (.pointer none)
 |nilf : Rep E .nilf .nilFunc
 |nili : Rep E .nili .nilIface
 |nils : Rep E .nils (.slice none 0 0)
 |agg (cs : List PV) (vs : List Value) (hf : ∀ c, c ∈ cs → c.flat = true) (hl : cs.length = vs.length) (h : ∀ (i : Nat) (hi : i < cs.length), Rep E cs[i] (vs[i]'(hl ▸ hi))) : Rep E (.agg cs) (.agg vs.toArray)
 |tup (cs : List PV) (vs : List Value) (hl : cs.length = vs.length) (h : ∀ (i : Nat) (hi : i < cs.length), Rep E cs[i] (vs[i]'(hl ▸ hi))) : Rep E (.tup cs) (.tuple vs.toArray)
 |ifc (t : TypeId) (x : PV) (v : Value) (h : Rep E x v) : Rep E (.ifc t x) (.iface t v)
 |clo (f : Fn) (cs ds : List PV) (vs us : List Value) (hl : cs.length = vs.length) (h : ∀ (i : Nat) (hi : i < cs.length), Rep E cs[i] (vs[i]'(hl ▸ hi)))
   (hl' : ds.length = us.length) (h' : ∀ (i : Nat) (hi : i < ds.length), Rep E ds[i] (us[i]'(hl' ▸ hi))) : Rep E (.clo f cs ds) (.func f vs.toArray us.toArray)
 |sl0 (A : Option Addr) (c : Nat) : Rep E (.sl []) (.slice A 0 c)
 |sl (xs : List (List PV)) (a : Addr) (c s : Nat) (U : Nat → Nat → Value) (hc : xs.length ≤ c) (hs : ∀ (i : Nat) (hi : i < xs.length), xs[i].length = s) (hf : ∀ x, x ∈ xs → ∀ c, c ∈ x → c.flat = true)
   (hF : ∀ (i j : Nat), i < xs.length → j < s → E.F (a.add (i * s + j)) = some (U i j))
   (h : ∀ (i : Nat) (hi : i < xs.length) (j : Nat) (hj : j < xs[i].length), Rep E xs[i][j] (U i j)) : Rep E (.sl xs) (.slice (some a) xs.length c)
 |fp (cs : List PV) (a : Addr) (U : Nat → Value) (hf : ∀ c, c ∈ cs → c.flat = true) (hF : ∀ j, j < cs.length → E.F (a.add j) = some (U j))
   (h : ∀ (j : Nat) (hj : j < cs.length), Rep E cs[j] (U j)) : Rep E (.fp cs) (.pointer (some a))
 |ptr (b g off : Nat) (v : Value) (hv : ∃ a, v = .pointer (some a)) (hk : E.K b g) (h : ∀ c, E.H b = some c → c.gen = g → v = .pointer (some ⟨E.β b, off, none⟩)) : Rep E (.ptr b g off) v
 |row (b g len : Nat) (v : Value) (hv : ∃ a c, v = .slice (some a) len c ∧ len ≤ c) (hk : E.K b g) (h : ∀ c, E.H b = some c → c.gen = g → len ≤ E.κ b ∧ v = .slice (some ⟨E.β b, 0, none⟩) len (E.κ b)) : Rep E (.row b g len) v
structure Le (E E' : Env) : Prop where
 K : ∀ b g, E.K b g → E'.K b g
 F : ∀ a u, E.F a = some u → E'.F a = some u
 H : ∀ b c', E'.H b = some c' → E.K b c'.gen → ∃ c, E.H b = some c ∧ c.gen = c'.gen ∧ E'.β b = E.β b ∧ E'.κ b = E.κ b
theorem Le.refl (E : Env) : Le E E := ⟨fun _ _ h => h, fun _ _ h => h, fun _ c' h _ => ⟨c', h, rfl, rfl, rfl⟩⟩
theorem Le.trans {E E' E'' : Env} (h : Le E E') (k : Le E' E'') : Le E E'' :=
 ⟨fun b g x => k.K b g (h.K b g x), fun a u x => k.F a u (h.F a u x), fun b c'' hc hk => by
  obtain ⟨c', h1, h2, h3, h4⟩ := k.H b c'' hc (h.K _ _ hk)
  obtain ⟨c, g1, g2, g3, g4⟩ := h.H b c' h1 (h2 ▸ hk)
  exact ⟨c, g1, g2.trans h2, h3.trans g3, h4.trans g4⟩⟩
theorem Rep.mono {E E' : Env} (hE : Le E E') {x : PV} {v : Value} (h : Rep E x v) : Rep E' x v := by
 induction h with
 |undef v => exact .undef v
 |bool b => exact .bool b
 |int k n => exact .int k n
 |flt k n => exact .flt k n
 |nan k n h => exact .nan k n h
 |str s => exact .str s
 |nilp => exact .nilp
 |nilf => exact .nilf
 |nili => exact .nili
 |nils => exact .nils
 |agg cs vs hf hl _ ih => exact .agg cs vs hf hl ih
 |tup cs vs hl _ ih => exact .tup cs vs hl ih
 |ifc t x v _ ih => exact .ifc t x v ih
 |clo f cs ds vs us hl _ hl' _ ih ih' => exact .clo f cs ds vs us hl ih hl' ih'
 |sl0 A c => exact .sl0 A c
 |sl xs a c s U hc hs hf hF _ ih => exact .sl xs a c s U hc hs hf (fun i j hi hj => hE.F _ _ (hF i j hi hj)) ih
 |fp cs a U hf hF _ ih => exact .fp cs a U hf (fun j hj => hE.F _ _ (hF j hj)) ih
 |ptr b g off v hv hk h =>
  refine .ptr b g off v hv (hE.K _ _ hk) fun c' hc hg => ?_
  obtain ⟨c, h1, h2, h3, _⟩ := hE.H b c' hc (hg ▸ hk)
  rw [h c h1 (h2.trans hg), h3]
 |row b g len v hv hk h =>
  refine .row b g len v hv (hE.K _ _ hk) fun c' hc hg => ?_
  obtain ⟨c, h1, h2, h3, h4⟩ := hE.H b c' hc (hg ▸ hk)
  rw [h3, h4]
  exact h c h1 (h2.trans hg)
def Reps (E : Env) (cs : List PV) (vs : List Value) : Prop := cs.length = vs.length ∧ ∀ (i : Nat) (c : PV) (v : Value), cs[i]? = some c → vs[i]? = some v → Rep E c v
theorem Reps.mono {E E' : Env} (hE : Le E E') {cs : List PV} {vs : List Value} (h : Reps E cs vs) : Reps E' cs vs := ⟨h.1, fun i c v hc hv => (h.2 i c v hc hv).mono hE⟩
theorem Reps.nil (E : Env) : Reps E [] [] := ⟨rfl, fun i c v h => by simp at h⟩
theorem Reps.cons {E : Env} {c : PV} {v : Value} {cs : List PV} {vs : List Value} (h : Rep E c v) (hs : Reps E cs vs) : Reps E (c :: cs) (v :: vs) := by
 refine ⟨by simp [hs.1], fun i d u hd hu => ?_⟩
 cases i with
 |zero => simp at hd hu; subst hd; subst hu; exact h
 |succ i => simp at hd hu; exact hs.2 i d u hd hu
theorem Reps.head {E : Env} {c : PV} {cs : List PV} {vs : List Value} (h : Reps E (c :: cs) vs) : ∃ v us, vs = v :: us ∧ Rep E c v ∧ Reps E cs us := by
 obtain ⟨hl, h⟩ := h
 cases vs with
 |nil => simp at hl
 |cons v us => exact ⟨v, us, rfl, h 0 c v (by simp) (by simp), by simpa using hl, fun i d u hd hu => h (i + 1) d u (by simpa using hd) (by simpa using hu)⟩
theorem Reps.append {E : Env} {cs ds : List PV} {vs us : List Value} (h : Reps E cs vs) (k : Reps E ds us) : Reps E (cs ++ ds) (vs ++ us) := by
 induction cs generalizing vs with
 |nil => have := h.1; cases vs with | nil => exact k | cons => simp at this
 |cons c cs ih => obtain ⟨v, ws, rfl, h1, h2⟩ := h.head; exact .cons h1 (ih h2)
theorem Reps.get {E : Env} {cs : List PV} {vs : List Value} (h : Reps E cs vs) (i : Nat) (hi : i < cs.length) : Rep E cs[i] (vs[i]'(h.1 ▸ hi)) :=
 h.2 i _ _ (by simp [hi]) (by simp [h.1 ▸ hi])
theorem Reps.agg {E : Env} {cs : List PV} {vs : List Value} (h : Reps E cs vs) (hf : ∀ c, c ∈ cs → c.flat = true) : Rep E (.agg cs) (.agg vs.toArray) := .agg cs vs hf h.1 fun i hi => h.get i hi
theorem Reps.tup {E : Env} {cs : List PV} {vs : List Value} (h : Reps E cs vs) : Rep E (.tup cs) (.tuple vs.toArray) := .tup cs vs h.1 fun i hi => h.get i hi
theorem Reps.mk {E : Env} {cs : List PV} {vs : List Value} (hl : cs.length = vs.length) (h : ∀ (i : Nat) (hi : i < cs.length), Rep E cs[i] (vs[i]'(hl ▸ hi))) : Reps E cs vs :=
 ⟨hl, fun i c v hc hv => by
  obtain ⟨h1, rfl⟩ := List.getElem?_eq_some_iff.1 hc
  obtain ⟨h2, rfl⟩ := List.getElem?_eq_some_iff.1 hv
  exact h i h1⟩
theorem Rep.agg_inv {E : Env} {cs : List PV} {v : Value} (h : Rep E (.agg cs) v) : ∃ vs, v = .agg vs.toArray ∧ Reps E cs vs ∧ ∀ c, c ∈ cs → c.flat = true := by cases h with | agg _ vs hf hl h => exact ⟨vs, rfl, .mk hl h, hf⟩
theorem Rep.tup_inv {E : Env} {cs : List PV} {v : Value} (h : Rep E (.tup cs) v) : ∃ vs, v = .tuple vs.toArray ∧ Reps E cs vs := by cases h with | tup _ vs hl h => exact ⟨vs, rfl, .mk hl h⟩
theorem Reps.take {E : Env} {cs : List PV} {vs : List Value} (h : Reps E cs vs) (n : Nat) : Reps E (cs.take n) (vs.take n) :=
 ⟨by simp [h.1], fun i c v hc hv => by
  rw [List.getElem?_take] at hc hv
  split at hc
  ·rename_i hi; rw [if_pos hi] at hv; exact h.2 i c v hc hv
  ·cases hc⟩
theorem Reps.drop {E : Env} {cs : List PV} {vs : List Value} (h : Reps E cs vs) (n : Nat) : Reps E (cs.drop n) (vs.drop n) :=
 ⟨by simp [h.1], fun i c v hc hv => by
  rw [List.getElem?_drop] at hc hv
  exact h.2 _ c v hc hv⟩
theorem Reps.set {E : Env} {cs : List PV} {vs : List Value} (h : Reps E cs vs) (i : Nat) {c : PV} {v : Value} (hv : Rep E c v) : Reps E (cs.set i c) (vs.set i v) :=
 ⟨by simp [h.1], fun j d u hd hu => by
  rw [List.getElem?_set] at hd hu
  split at hd
  ·rename_i e; rw [if_pos e] at hu
   split at hd
   ·rename_i e2; rw [if_pos (h.1 ▸ e2)] at hu; cases hd; cases hu; exact hv
   ·cases hd
  ·rename_i e; rw [if_neg e] at hu; exact h.2 j d u hd hu⟩
theorem Rep.oneCell {E : Env} {x : PV} {v : Value} (h : Rep E x v) (hf : x.flat = true) : v.oneCell' = true := by
 cases h with
 |ptr b g off v hv hk h => obtain ⟨a, rfl⟩ := hv; rfl
 |row b g len v hv hk h => obtain ⟨a, c, rfl, _⟩ := hv; rfl
 |undef => simp [PV.flat] at hf
 |agg => simp [PV.flat] at hf
 |tup => simp [PV.flat] at hf
 |_ => rfl
structure Holds (P : Program) (E : Env) (w : World) (base b : Nat) (c : Chunk) : Prop where
 used : E.K b c.gen
 last : ∀ g, c.gen < g → ¬ E.K b g
 own : base ≤ E.β b
 apart : ∀ b' c', E.H b' = some c' → E.β b' = E.β b → b' = b
 free : ∀ a, a.block = E.β b → E.F a = none
 cells : ∃ cs : Array Value, w.heap[E.β b]? = some (.cells cs c.e (0, 0)) ∧ c.cells.length ≤ cs.size ∧ (∀ i, P.info? c.e = some i → E.κ b * i.size ≤ cs.size) ∧ Reps E c.cells (cs.toList.take c.cells.length)
 flat : ∀ x, x ∈ c.cells → x.flat = true
structure Inv (P : Program) (w₀ : World) (E : Env) (w : World) : Prop where
 below : Below w₀.heap.size w₀ w
 cell : ∀ a u, E.F a = some u → w.cell? a = some u
 old : ∀ a u, w₀.cell? a = some u → E.F a = some u
 chunk : ∀ b c, E.H b = some c → Holds P E w w₀.heap.size b c
end Go.Pi
end
section
namespace Go.Pi
open Go.RowKit
def Heap.put (H : Heap) (b : Nat) (c : Option Chunk) : Heap := fun x => if x = b then c else H x
theorem Heap.put_same (H : Heap) (b : Nat) (c : Option Chunk) : H.put b c b = c := by simp [Heap.put]
theorem Heap.put_ne (H : Heap) {b x : Nat} (c : Option Chunk) (h : x ≠ b) : H.put b c x = H x := by simp [Heap.put, h]
def Alike (w w' : World) : Prop := w'.heap = w.heap ∧ w'.os = w.os ∧ w'.tape = w.tape ∧ w'.output = w.output
theorem Alike.refl (w : World) : Alike w w := ⟨rfl, rfl, rfl, rfl⟩
theorem Alike.drew (w : World) : Alike w w.drew := ⟨rfl, rfl, rfl, rfl⟩
theorem cell?_heap {w w' : World} {a : Addr} (h : w'.heap[a.block]? = w.heap[a.block]?) : w'.cell? a = w.cell? a := by simp [World.cell?, h]
theorem Inv.alike {P : Program} {w₀ : World} {E : Env} {w w' : World} (h : Inv P w₀ E w) (ha : Alike w w') : Inv P w₀ E w' := by
 obtain ⟨h1, h2, h3, h4⟩ := ha
 refine ⟨⟨h2.trans h.below.os, h3.trans h.below.tape, h4.trans h.below.output, by rw [h1]; exact h.below.size, fun k hk => by rw [h1]; exact h.below.block k hk⟩,
  fun a u hu => by rw [cell?_heap (w := w) (by rw [h1])]; exact h.cell a u hu, h.old, fun b c hc => ?_⟩
 obtain ⟨u, l, o, ap, f, ⟨cs, hcs, r⟩, fl⟩ := h.chunk b c hc
 exact ⟨u, l, o, ap, f, ⟨cs, by rw [h1]; exact hcs, r⟩, fl⟩
theorem Inv.block_lt {P : Program} {w₀ : World} {E : Env} {w : World} (h : Inv P w₀ E w) {b : Nat} {c : Chunk} (hc : E.H b = some c) : E.β b < w.heap.size := by
 obtain ⟨cs, hcs, _⟩ := (h.chunk b c hc).cells
 exact (Array.getElem?_eq_some_iff.1 hcs).1
def Env.new (E : Env) (n b cap : Nat) (c : Chunk) : Env :=
 ⟨fun x y => E.K x y ∨ (x = b ∧ y = c.gen), E.F, fun x => if x = b then n else E.β x, fun x => if x = b then cap else E.κ x, E.H.put b (some c)⟩
theorem le_new {E : Env} {n b cap : Nat} {c : Chunk} (hg : ∀ g', c.gen ≤ g' → ¬ E.K b g') : Le E (E.new n b cap c) := by
 refine ⟨fun _ _ h => .inl h, fun _ _ h => h, fun x c' hx hk => ?_⟩
 by_cases e : x = b
 ·subst e
  simp [Env.new, Heap.put_same] at hx
  subst hx
  exact absurd hk (hg _ (Nat.le_refl _))
 ·simp only [Env.new, Heap.put_ne _ _ e] at hx
  exact ⟨c', hx, rfl, by simp [Env.new, e], by simp [Env.new, e]⟩
theorem inv_new {P : Program} {w₀ : World} {E : Env} {w : World} (hI : Inv P w₀ E w) (b cap : Nat) (c : Chunk) (hg : ∀ g', c.gen ≤ g' → ¬ E.K b g')
  (hf : ∀ x, x ∈ c.cells → x.flat = true) (cs : Array Value) (hl : c.cells.length ≤ cs.size) (hcap : ∀ i, P.info? c.e = some i → cap * i.size ≤ cs.size)
  (hR : Reps E c.cells (cs.toList.take c.cells.length)) : Inv P w₀ (E.new w.heap.size b cap c) (w.alloc (.cells cs c.e)) := by
 have hle := le_new (n := w.heap.size) (cap := cap) hg
 have hlt : ∀ a u, E.F a = some u → a.block < w.heap.size := fun a u hu => World.block_lt_of_cell? w a (hI.cell a u hu)
 have hold : ∀ k, k < w.heap.size → (w.alloc (.cells cs c.e)).heap[k]? = w.heap[k]? := fun k hk => Below.heap_alloc _ _ _ hk
 refine ⟨hI.below.alloc hI.below.size _, fun a u hu => ?_, hI.old, fun x c' hx => ?_⟩
 ·rw [cell?_heap (w := w) (hold _ (hlt a u hu))]; exact hI.cell a u hu
 ·by_cases e : x = b
  ·subst e
   simp only [Env.new, Heap.put_same, Option.some.injEq] at hx
   subst hx
   refine ⟨.inr ⟨rfl, rfl⟩, fun g hgt hk => ?_, ?_, fun b' c' hb' he => ?_, fun a ha => ?_, ⟨cs, ?_, hl, ?_, hR.mono hle⟩, hf⟩
   ·rcases hk with hk | ⟨_, hk⟩
    ·exact hg g (by omega) hk
    ·omega
   ·simp only [Env.new, if_pos]; exact hI.below.size
   ·by_cases e' : b' = x
    ·exact e'
    ·simp only [Env.new, Heap.put_ne _ _ e', if_neg e', if_pos] at hb' he
     have := hI.block_lt hb'; omega
   ·simp only [Env.new, if_pos] at ha ⊢
    cases hF : E.F a with
    |none => rfl
    |some u => have := hlt a u hF; omega
   ·show (w.heap.push (.cells cs c.e))[(if x = x then w.heap.size else E.β x)]? = _
    rw [if_pos rfl]; simp
   ·simpa [Env.new] using hcap
  ·simp only [Env.new, Heap.put_ne _ _ e] at hx
   have hb := hI.block_lt hx
   obtain ⟨u, l, o, ap, f, ⟨cs', hcs, r1, r2, r3⟩, fl⟩ := hI.chunk x c' hx
   refine ⟨.inl u, fun g hgt hk => ?_, by simpa [Env.new, e] using o, fun b' c'' hb' he => ?_, by simpa [Env.new, e] using f, ⟨cs', ?_, r1, by simpa [Env.new, e] using r2, r3.mono hle⟩, fl⟩
   ·rcases hk with hk | ⟨hk, _⟩
    ·exact l g hgt hk
    ·exact e hk
   ·by_cases e' : b' = b
    ·subst e'
     simp only [Env.new, if_pos, if_neg e] at he
     omega
    ·simp only [Env.new, Heap.put_ne _ _ e', if_neg e', if_neg e] at hb' he
     exact ap b' c'' hb' he
   ·simp only [Env.new, if_neg e]; rw [hold _ hb]; exact hcs
def Env.set (E : Env) (b : Nat) (c : Chunk) : Env := ⟨fun x y => E.K x y ∨ (x = b ∧ y = c.gen), E.F, E.β, E.κ, E.H.put b (some c)⟩
theorem le_set {E : Env} {b : Nat} {c c' : Chunk} (hb : E.H b = some c) (hl : ∀ g, c.gen < g → ¬ E.K b g) (hg : c.gen ≤ c'.gen) : Le E (E.set b c') := by
 refine ⟨fun _ _ h => .inl h, fun _ _ h => h, fun x c'' hx hk => ?_⟩
 by_cases e : x = b
 ·subst e
  simp [Env.set, Heap.put_same] at hx
  subst hx
  refine ⟨c, hb, ?_, rfl, rfl⟩
  by_cases h : c.gen < c'.gen
  ·exact absurd hk (hl _ h)
  ·omega
 ·simp only [Env.set, Heap.put_ne _ _ e] at hx
  exact ⟨c'', hx, rfl, rfl, rfl⟩
def World.setBlock (w : World) (k : Nat) (o : Obj) : World := { w with heap := w.heap.setIfInBounds k o }
theorem heap_setBlock (w : World) (k i : Nat) (o : Obj) (h : i ≠ k) : (World.setBlock w k o).heap[i]? = w.heap[i]? := by
 simp [World.setBlock, Array.getElem?_setIfInBounds]; intro e; exact absurd e.symm h
theorem heap_setBlock_same (w : World) (k : Nat) (o : Obj) (h : k < w.heap.size) : (World.setBlock w k o).heap[k]? = some o := by
 simp [World.setBlock, h]
theorem inv_set {P : Program} {w₀ : World} {E : Env} {w : World} (hI : Inv P w₀ E w) {b : Nat} {c c' : Chunk} (hb : E.H b = some c) (he : c'.e = c.e) (hg : c.gen ≤ c'.gen)
  (hf : ∀ x, x ∈ c'.cells → x.flat = true) (cs' : Array Value) (hl : c'.cells.length ≤ cs'.size)
  (hcap : ∀ i, P.info? c.e = some i → E.κ b * i.size ≤ cs'.size) (hR : Reps E c'.cells (cs'.toList.take c'.cells.length)) :
  Inv P w₀ (E.set b c') (World.setBlock w (E.β b) (.cells cs' c.e (0, 0))) := by
 have hh := hI.chunk b c hb
 have hle := le_set hb hh.last hg
 have hlt := hI.block_lt hb
 refine ⟨?_, fun a u hu => ?_, hI.old, fun x c'' hx => ?_⟩
 ·refine hI.below.trans ⟨rfl, rfl, rfl, by simp [World.setBlock], fun k hk => heap_setBlock _ _ _ _ ?_⟩
  have := hh.own; omega
 ·have hne : a.block ≠ E.β b := fun e => by have := hh.free a e; simp only [Env.set] at hu; rw [this] at hu; cases hu
  rw [cell?_heap (w := w) (heap_setBlock _ _ _ _ hne)]; exact hI.cell a u hu
 ·by_cases e : x = b
  ·subst e
   simp only [Env.set, Heap.put_same, Option.some.injEq] at hx
   subst hx
   refine ⟨.inr ⟨rfl, rfl⟩, fun g hgt hk => ?_, hh.own, fun b' c'' hb' he' => ?_, hh.free, ⟨cs', ?_, hl, by rw [he]; exact hcap, hR.mono hle⟩, hf⟩
   ·rcases hk with hk | ⟨_, hk⟩
    ·exact hh.last g (by omega) hk
    ·omega
   ·by_cases e' : b' = x
    ·exact e'
    ·simp only [Env.set, Heap.put_ne _ _ e'] at hb'
     exact hh.apart b' c'' hb' he'
   ·rw [he]; exact heap_setBlock_same _ _ _ hlt
  ·simp only [Env.set, Heap.put_ne _ _ e] at hx
   obtain ⟨u, l, o, ap, f, ⟨cs, hcs, r1, r2, r3⟩, fl⟩ := hI.chunk x c'' hx
   refine ⟨.inl u, fun g hgt hk => ?_, o, fun b' c3 hb' he' => ?_, f, ⟨cs, ?_, r1, r2, r3.mono hle⟩, fl⟩
   ·rcases hk with hk | ⟨hk, _⟩
    ·exact l g hgt hk
    ·exact e hk
   ·by_cases e' : b' = b
    ·subst e'
     exact (hh.apart x c'' hx he'.symm).symm
    ·simp only [Env.set, Heap.put_ne _ _ e'] at hb'
     exact ap b' c3 hb' he'
   ·have hne : E.β x ≠ E.β b := fun h => e (hh.apart x c'' hx h)
    show (World.setBlock w (E.β b) _).heap[E.β x]? = _
    rw [heap_setBlock _ _ _ _ hne]; exact hcs
end Go.Pi
end
section
namespace Go.Pi
open Go.RowKit
inductive Opd where
 |t (n : Nat)
 |c (v : PV)
 |g (n : Nat)
def ofConst : Value → Option PV
 |.bool b => some (.bool b)
 |.int k n => some (.int k n)
 |.float k n => some (.flt k n)
 |.string s => some (.str s)
 |.pointer none => some .nilp
 |.nilFunc => some .nilf
 |.nilIface => some .nili
 |.slice none 0 0 => some .nils
 |_ => none
theorem ofConst_rep {v : Value} {x : PV} (h : ofConst v = some x) (E : Env) : Rep E x v ∧ x.flat = true := by
 unfold ofConst at h
 split at h <;> first
  |(injection h with h; subst h; first
    |exact ⟨.bool _, rfl⟩ | exact ⟨.int _ _, rfl⟩ | exact ⟨.flt _ _, rfl⟩ | exact ⟨.str _, rfl⟩ | exact ⟨.nilp, rfl⟩ | exact ⟨.nilf, rfl⟩ | exact ⟨.nili, rfl⟩ | exact ⟨.nils, rfl⟩)
  |cases h
def compileOpd : Operand → Option Opd
 |.tmp n => some (.t n)
 |.const v => (ofConst v).map .c
 |.global n => some (.g n)
 |.func f => some (.c (.clo (.func f) [] []))
def compileOpt : Option Operand → Option (Option Opd)
 |none => some none
 |some y => (compileOpd y).map some
def compileOpds : List Operand → Option (List Opd)
 |[] => some []
 |x :: xs => do some ((← compileOpd x) :: (← compileOpds xs))
inductive K where
 |mv (x : Opd)
 |pick (c a b : Opd)
 |new (e : Nat) (z : List PV)
 |box (e n : Nat) (x : Opd)
 |build (z : List PV) (ps : List (Nat × Nat × Opd))
 |bsl (e s len : Nat) (z : List PV) (ps : List (Nat × Nat × Opd))
 |ld (ag : Bool) (n : Nat) (x : Opd)
 |st (n : Nat) (x v : Opd)
 |nilc (x : Opd)
 |bin (op : BinOp) (x y : Opd)
 |binp (op : BinOp) (x y : Opd)
 |binb (op : BinOp) (x y : Opd)
 |un (op : UnOp) (x : Opd)
 |conv (k : IntKind) (x : Opd)
 |cstr (x : Opd)
 |cid (x : Opd)
 |mkif (t : Nat) (x : Opd)
 |mkfn (f : Fn) (as bs : List Opd)
 |mksl (e s b : Nat) (z : List PV) (l c : Opd)
 |sstr (x : Opd) (lo hi : Option Opd)
 |ssl (s : Nat) (x : Opd) (lo hi : Option Opd)
 |fa (off : Nat) (x : Opd)
 |ix (s : Nat) (x i : Opd)
 |sx (x i : Opd)
 |ta (t : Nat) (z : PV) (x : Opd)
 |ext (x : Opd) (i : Nat)
 |len (x : Opd)
 |slen (x : Opd)
 |app (e s b : Nat) (d x : Opd)
 |mx (x y : Opd)
 |mn (x y : Opd)
 |fbits (x : Opd)
 |ffrom (x : Opd)
 |call (f : Nat) (as : List Opd)
 |callv (f : Opd) (as : List Opd)
def aggP (P : Program) (t : TypeId) : Option Bool :=
 match P.underlying t with
 |some (.struct _) | some (.array _ _) => some true
 |some _ => some false
 |none => none
def sizeP (P : Program) (t : TypeId) : Option Nat := (P.info? t).map (·.size)
def bytesP (P : Program) (t : TypeId) : Option Nat := (P.info? t).map (·.bytes)
def consts : List Value → Option (List PV)
 |[] => some []
 |v :: vs => do some ((← ofConst v) :: (← consts vs))
def zeroP (P : Program) (t : TypeId) : Option (List PV) := do
 let i ← P.info? t
 let z ← i.zero
 consts z.cells.toList
def elemP (P : Program) (t : TypeId) : Option TypeId := match P.underlying t with | some (.slice e) => some e | _ => none
def sizesP (P : Program) : List Field → Option (List (Nat × Nat))
 |[] => some []
 |f :: fs => do
  let s ← sizeP P f.type
  let r ← sizesP P fs
  some ((f.offset, s) :: r)
def placesP (P : Program) (t : TypeId) : Option (List (Nat × Nat)) :=
 match P.underlying t with
 |some (.struct fs) => sizesP P fs.toList
 |_ => none
def partsP (place : Nat → Option (Nat × Nat)) : List (Nat × Operand) → Option (List (Nat × Nat × Opd))
 |[] => some []
 |(i, x) :: ps => do
  let (o, s) ← place i
  some ((o, s, ← compileOpd x) :: (← partsP place ps))
def compileCall (P : Program) (c : Call) : Option K :=
 match c.callee, c.args.toList, c.argTypes.toList with
 |.builtin .len, [x], [t] => do
  match ← P.underlying t with
  |.string => some (.slen (← compileOpd x))
  |.slice _ => some (.len (← compileOpd x))
  |_ => none
 |.builtin .append, [d, x], [t, u] => do
  let e ← elemP P t
  let s ← sizeP P e
  let b ← bytesP P e
  let z ← zeroP P e
  if s = 0 ∨ b = 0 ∨ z.length ≠ s then none
  match ← P.underlying u with
  |.slice _ | .string => some (.app e s b (← compileOpd d) (← compileOpd x))
  |_ => none
 |.builtin .max, [x, y], _ => do some (.mx (← compileOpd x) (← compileOpd y))
 |.builtin .min, [x, y], _ => do some (.mn (← compileOpd x) (← compileOpd y))
 |.value (.func f), as, _ => do
  let fn ← P.funcs[f]?
  match fn.body with
  |some _ => if fn.name == "runtime.NumGoroutine" then none else some (.call f (← compileOpds as))
  |none =>
   match as with
   |[x] => if fn.origin ≠ "" then none else if fn.name = "math.Float64bits" then some (.fbits (← compileOpd x)) else if fn.name = "math.Float64frombits" then some (.ffrom (← compileOpd x)) else none
   |_ => none
 |.value (.tmp n), as, _ => do some (.callv (.t n) (← compileOpds as))
 |_, _, _ => none
def compileOp (P : Program) (o : Oper) : Option K :=
 match o.op with
 |.move x | .assign x => do some (.mv (← compileOpd x))
 |.pick c a b => do some (.pick (← compileOpd c) (← compileOpd a) (← compileOpd b))
 |.alloc e => do some (.new e (← zeroP P e))
 |.box e x => do some (.box e (← sizeP P e) (← compileOpd x))
 |.build t ps => do
  let l ← placesP P t
  some (.build (← zeroP P t) (← partsP (fun i => l[i]?) ps.toList))
 |.buildSlice t len ps => do
  let e ← elemP P t
  let s ← sizeP P e
  if s = 0 ∨ 2 ^ 24 < len * s then none
  let z ← zeroP P e
  if z.length ≠ s then none
  some (.bsl e s len ((List.replicate len z).flatten) (← partsP (fun i => some (i * s, s)) ps.toList))
 |.load t x => do
  let ag ← aggP P t
  let s ← sizeP P t
  some (.ld ag (if ag then s else 1) (← compileOpd x))
 |.store t x v => do some (.st (← sizeP P t) (← compileOpd x) (← compileOpd v))
 |.nilCheck x => do some (.nilc (← compileOpd x))
 |.binOp op t x y _ => do
  match ← P.underlying t with
  |.pointer _ => some (.binp op (← compileOpd x) (← compileOpd y))
  |.int _ | .string | .float _ => some (.bin op (← compileOpd x) (← compileOpd y))
  |.bool => some (.binb op (← compileOpd x) (← compileOpd y))
  |_ => none
 |.unOp op _ x => do some (.un op (← compileOpd x))
 |.convert src dst x => do
  match ← P.underlying src, ← P.underlying dst with
  |.int _, .int k => some (.conv k (← compileOpd x))
  |.slice e, .string => match P.underlying e with | some (.int .u8) => (compileOpd x).map .cstr | _ => none
  |.string, .string => some (.cid (← compileOpd x))
  |_, _ => none
 |.makeInterface t x => do
  match ← P.underlying t with
  |.interface _ => none
  |_ => some (.mkif t (← compileOpd x))
 |.makeFunc fn a b => do some (.mkfn fn (← compileOpds a.toList) (← compileOpds b.toList))
 |.makeSlice t l c => do
  let e ← elemP P t
  let z ← zeroP P e
  let s ← sizeP P e
  let b ← bytesP P e
  if s = 0 ∨ b = 0 ∨ z.length ≠ s then none
  some (.mksl e s b z (← compileOpd l) (← compileOpd c))
 |.slice t x lo hi none => do
  let lo ← compileOpt lo
  let hi ← compileOpt hi
  match ← P.underlying t with
  |.string => some (.sstr (← compileOpd x) lo hi)
  |.slice e => some (.ssl (← sizeP P e) (← compileOpd x) lo hi)
  |_ => none
 |.fieldAddr t x f =>
  match P.underlying t with
  |some (.struct fs) => do
   let fd ← fs[f]?
   if (← sizeP P fd.type) = 0 then none
   some (.fa fd.offset (← compileOpd x))
  |_ => none
 |.indexAddr t x i => do some (.ix (← sizeP P (← elemP P t)) (← compileOpd x) (← compileOpd i))
 |.index t x i => do
  match ← P.underlying t with
  |.string => some (.sx (← compileOpd x) (← compileOpd i))
  |_ => none
 |.typeAssert x _ t true => do
  match ← P.underlying t, ← P.info? t with
  |.interface _, _ => none
  |.invalid, _ => none
  |_, i => match i.zero with
   |some z => some (.ta t (← ofConst z) (← compileOpd x))
   |none => none
 |.extract x i => do some (.ext (← compileOpd x) i)
 |.call c => compileCall P c
 |_ => none
end Go.Pi
end
section
namespace Go.Pi
open Go.RowKit
def cellsOf : PV → Option (List PV)
 |.agg cs => some cs
 |.tup _ => none
 |.undef => none
 |x => some [x]
def cellsAt (H : Heap) (n : Nat) : PV → Option (List PV)
 |.ptr b g off => match H b with
  |some c => if c.gen = g ∧ off + n ≤ c.cells.length then some ((c.cells.drop off).take n) else none
  |none => none
 |.fp cs => if n ≤ cs.length then some (cs.take n) else none
 |_ => none
def splice (cells : List PV) (off : Nat) (vs : List PV) : List PV := cells.take off ++ vs ++ cells.drop (off + vs.length)
def fillP : List PV → List (Nat × Nat × PV) → Option (List PV)
 |z, [] => some z
 |z, (o, s, x) :: ps =>
  match cellsOf x with
  |some vs => if vs.length = s ∧ o + s ≤ z.length then fillP (splice z o vs) ps else none
  |none => none
def elemsOf (H : Heap) (s : Nat) : PV → Option (Nat × List PV)
 |.nils => some (0, [])
 |.sl xs => if xs.all (fun c => c.length == s) then some (xs.length, xs.flatten) else none
 |.row b g len => match H b with
  |some c => if c.gen = g ∧ len * s ≤ c.cells.length then some (len, c.cells.take (len * s)) else none
  |none => none
 |.str x => if s = 1 then some (x.size, x.data.toList.map fun b => .int .u8 b.toNat) else none
 |_ => none
def bytesOfP : List PV → Option (List UInt8)
 |[] => some []
 |.int .u8 n :: r => (bytesOfP r).map (UInt8.ofNat n.toNat :: ·)
 |_ :: _ => none
def binRun (op : BinOp) : PV → PV → Option PV
 |.int k a, .int k' b =>
  match op with
  |.shl => if 0 ≤ b then some (.int k (k.wrap (a * 2 ^ (min b.toNat k.bits)))) else none
  |.shr => if 0 ≤ b then some (.int k (a.fdiv (2 ^ (min b.toNat k.bits)))) else none
  |op => if k = k' then match op with
   |.add => some (.int k (k.wrap (a + b)))
   |.sub => some (.int k (k.wrap (a - b)))
   |.mul => some (.int k (k.wrap (a * b)))
   |.quo => if b = 0 then none else some (.int k (k.wrap (a.tdiv b)))
   |.rem => if b = 0 then none else some (.int k (a.tmod b))
   |.and => some (.int k (bits .and k a b))
   |.or => some (.int k (bits .or k a b))
   |.xor => some (.int k (bits .xor k a b))
   |.andNot => some (.int k (bits .andNot k a b))
   |.eql => some (.bool (a == b))
   |.neq => some (.bool (a != b))
   |.lss => some (.bool (decide (a < b)))
   |.leq => some (.bool (decide (a ≤ b)))
   |.gtr => some (.bool (decide (a > b)))
   |.geq => some (.bool (decide (a ≥ b)))
   |_ => none
   else none
 |.str a, .str b =>
  match op with
  |.add => if a.size + b.size ≤ 9223372036854775807 then some (.str (a ++ b)) else none
  |.eql => some (.bool (a.toList == b.toList))
  |.neq => some (.bool (!(a.toList == b.toList)))
  |.lss => some (.bool (Op.bytesLess a.toList b.toList))
  |.leq => some (.bool (Op.bytesLess a.toList b.toList || a.toList == b.toList))
  |.gtr => some (.bool (!(Op.bytesLess a.toList b.toList || a.toList == b.toList)))
  |.geq => some (.bool (!Op.bytesLess a.toList b.toList))
  |_ => none
 |.flt k a, .flt k' b =>
  if k = k' then
   match op with
   |.eql => some (.bool (k.format.order a b == some .eq))
   |.neq => some (.bool (k.format.order a b != some .eq))
   |.sub => some (match k.format.sub a b with | some r => .flt k r | none => .nan k)
   |_ => none
  else none
 |.nan k, .flt k' _ => if k = k' then (match op with | .eql => some (.bool false) | .neq => some (.bool true) | _ => none) else none
 |_, _ => none
def binpRun (op : BinOp) (x y : PV) : Option PV :=
 match op, x, y with
 |.eql, .nilp, .nilp => some (.bool true)
 |.eql, .fp _, .nilp | .eql, .ptr _ _ _, .nilp | .eql, .nilp, .fp _ | .eql, .nilp, .ptr _ _ _ => some (.bool false)
 |.neq, .nilp, .nilp => some (.bool false)
 |.neq, .fp _, .nilp | .neq, .ptr _ _ _, .nilp | .neq, .nilp, .fp _ | .neq, .nilp, .ptr _ _ _ => some (.bool true)
 |_, _, _ => none
def binbRun (op : BinOp) (x y : PV) : Option PV :=
 match op, x, y with
 |.eql, .bool a, .bool b => some (.bool (a == b))
 |.neq, .bool a, .bool b => some (.bool (!(a == b)))
 |_, _, _ => none
def unRun : UnOp → PV → Option PV
 |.neg, .int k n => some (.int k (k.wrap (0 - n)))
 |.neg, .flt k n => some (.flt k (Op.negFloat k n))
 |.not, .bool b => some (.bool (!b))
 |_, _ => none
def boundP (d : Nat) (ev : Opd → PV) : Option Opd → Option Nat
 |none => some d
 |some x => match ev x with
  |.int _ n => if 0 ≤ n then some n.toNat else none
  |_ => none
def asNat (m : Nat) : PV → Option Nat
 |.int _ n => if 0 ≤ n ∧ n < (m : Int) then some n.toNat else none
 |_ => none
abbrev Upd := Option (Nat × Chunk)
def appRun (H : Heap) (fresh st e s b : Nat) (d x : PV) : Option (PV × Upd) :=
 match elemsOf H s x with
 |some (n, cs) => if n = 0 then (match d with
   |.nils => some (.nils, none)
   |.row c g len => match H c with
    |some ch => if ch.gen = g then some (.row c g len, none) else none
    |none => none
   |_ => none) else
  match d with
  |.nils => if n * b ≤ 140737488355328 then some (.row fresh st n, some (fresh, ⟨e, st, cs, s⟩)) else none
  |.row c g len => match H c with
   |some ch => if ch.gen = g ∧ ch.e = e ∧ len * s ≤ ch.cells.length ∧ (len + n) * b ≤ 140737488355328 then
     some (.row c st (len + n), some (c, ⟨e, st, ch.cells.take (len * s) ++ cs, s⟩)) else none
   |none => none
  |_ => none
 |none => none
def ixRun (s : Nat) (x i : PV) : Option (PV × Upd) :=
 match x with
 |.sl xs => match asNat xs.length i with
  |some n => match xs[n]? with
   |some c => if c.length = s then some (.fp c, none) else none
   |none => none
  |none => none
 |.row b g len => match asNat len i with
  |some n => some (.ptr b g (n * s), none)
  |none => none
 |_ => none
def stRun (H : Heap) (n : Nat) (x v : PV) : Option (PV × Upd) :=
 match x, cellsOf v with
 |.ptr b g off, some vs => match H b with
  |some c => if c.gen = g ∧ vs.length = n ∧ off + n ≤ c.cells.length then some (.undef, some (b, ⟨c.e, c.gen, splice c.cells off vs, c.s⟩)) else none
  |none => none
 |_, _ => none
def opRun (ev : Opd → PV) (H : Heap) (fresh st : Nat) : K → Option (PV × Upd)
 |.mv x => some (ev x, none)
 |.pick c a b => match ev c with
  |.bool t => some (if t then ev a else ev b, none)
  |_ => none
 |.new e z => some (.ptr fresh st 0, some (fresh, ⟨e, st, z, 0⟩))
 |.box e n x => match cellsOf (ev x) with
  |some cs => if cs.length = n then some (.ptr fresh st 0, some (fresh, ⟨e, st, cs, 0⟩)) else none
  |none => none
 |.build z ps => (fillP z (ps.map fun p => (p.1, p.2.1, ev p.2.2))).map fun cs => (.agg cs, none)
 |.bsl e s len z ps => (fillP z (ps.map fun p => (p.1, p.2.1, ev p.2.2))).map fun cs => (.row fresh st len, some (fresh, ⟨e, st, cs, s⟩))
 |.ld ag n x => match cellsAt H n (ev x) with
  |some cs => if ag then some (.agg cs, none) else match cs with
   |[c] => some (c, none)
   |_ => none
  |none => none
 |.st n x v => stRun H n (ev x) (ev v)
 |.nilc x => match ev x with
  |.ptr b g o => some (.ptr b g o, none)
  |.fp cs => some (.fp cs, none)
  |.ifc t v => some (.ifc t v, none)
  |.clo (.func f) as bs => some (.clo (.func f) as bs, none)
  |_ => none
 |.bin op x y => (binRun op (ev x) (ev y)).map fun v => (v, none)
 |.binp op x y => (binpRun op (ev x) (ev y)).map fun v => (v, none)
 |.binb op x y => (binbRun op (ev x) (ev y)).map fun v => (v, none)
 |.un op x => (unRun op (ev x)).map fun v => (v, none)
 |.conv k x => match ev x with
  |.int _ n => some (.int k (k.wrap n), none)
  |_ => none
 |.cstr x => match ev x with
  |.str _ => none
  |y => match elemsOf H 1 y with
   |some (_, cs) => (bytesOfP cs).map fun l => (.str ⟨l.toArray⟩, none)
   |none => none
 |.cid x => match ev x with
  |.str s => some (.str s, none)
  |_ => none
 |.mkif t x => some (.ifc t (ev x), none)
 |.mkfn f as bs => some (.clo f (as.map ev) (bs.map ev), none)
 |.mksl e s b z l c => match ev l, ev c with
  |.int _ l, .int _ c => if 0 ≤ l ∧ l ≤ c ∧ c * b ≤ 140737488355328 then some (.row fresh st l.toNat, some (fresh, ⟨e, st, (List.replicate l.toNat z).flatten, s⟩)) else none
  |_, _ => none
 |.sstr x lo hi => match ev x with
  |.str s => match boundP 0 ev lo, boundP s.size ev hi with
   |some l, some h => if l ≤ h ∧ h ≤ s.size then some (.str (s.extract l h), none) else none
   |_, _ => none
  |_ => none
 |.ssl s x lo hi => match ev x with
  |.sl xs => match boundP 0 ev lo, boundP xs.length ev hi with
   |some l, some h => if l ≤ h ∧ h ≤ xs.length ∧ xs.all (fun c => c.length == s) then some (.sl ((xs.take h).drop l), none) else none
   |_, _ => none
  |.nils => match boundP 0 ev lo, boundP 0 ev hi with
   |some 0, some 0 => some (.nils, none)
   |_, _ => none
  |.row b g len => match boundP 0 ev lo, boundP len ev hi with
   |some 0, some h => if h ≤ len then some (.row b g h, none) else none
   |_, _ => none
  |_ => none
 |.fa off x => match ev x with
  |.ptr b g o => some (.ptr b g (o + off), none)
  |.fp cs => some (.fp (cs.drop off), none)
  |_ => none
 |.ix s x i => ixRun s (ev x) (ev i)
 |.sx x i => match ev x with
  |.str s => match asNat s.size (ev i) with
   |some n => some (.int .u8 (s.data.toList.getD n 0).toNat, none)
   |none => none
  |_ => none
 |.ta t z x => match ev x with
  |.nili => some (.tup [z, .bool false], none)
  |.ifc u v => if u = t then some (.tup [v, .bool true], none) else some (.tup [z, .bool false], none)
  |_ => none
 |.ext x i => match ev x with
  |.tup vs => vs[i]?.map fun v => (v, none)
  |_ => none
 |.slen x => match ev x with
  |.str s => some (.int .i64 s.size, none)
  |_ => none
 |.len x => match ev x with
  |.sl xs => some (.int .i64 xs.length, none)
  |.nils => some (.int .i64 0, none)
  |.row _ _ len => some (.int .i64 len, none)
  |_ => none
 |.app e s b d x => appRun H fresh st e s b (ev d) (ev x)
 |.mx x y => match ev x, ev y with
  |.int k a, .int _ b => some (.int k (if b > a then b else a), none)
  |_, _ => none
 |.mn x y => match ev x, ev y with
  |.int k a, .int _ b => some (.int k (if b < a then b else a), none)
  |_, _ => none
 |.fbits x => match ev x with
  |.flt .f64 n => some (.int .u64 n, none)
  |_ => none
 |.ffrom x => match ev x with
  |.int .u64 n => some (.flt .f64 n.toNat, none)
  |_ => none
 |.call _ _ => none
 |.callv _ _ => none
def Heap.upd (H : Heap) : Upd → Heap
 |none => H
 |some (b, c) => H.put b (some c)
structure Post (P : Program) (w₀ : World) (E E' : Env) (w w' : World) (u : Upd) : Prop where
 le : Le E E'
 inv : Inv P w₀ E' w'
 heap : E'.H = E.H.upd u
 used : ∀ b g, E'.K b g → E.K b g ∨ ∃ c, u = some (b, c) ∧ g = c.gen
 moved : ∀ b c, u = some (b, c) → w.heap.size ≤ E'.β b ∨ ∃ c', E.H b = some c' ∧ E.β b = E'.β b
 known : E'.F = E.F
 place : ∀ b, (∀ c, u ≠ some (b, c)) → E'.β b = E.β b ∧ E'.κ b = E.κ b
 size : w.heap.size ≤ w'.heap.size
 frame : ∀ i, i < w.heap.size → (∀ b c, u = some (b, c) → E.H b ≠ none → E.β b ≠ i) → w'.heap[i]? = w.heap[i]?
section
variable {P : Program} {w₀ : World} {E : Env} {w : World}
theorem Post.same (hI : Inv P w₀ E w) {w' : World} (ha : Alike w w') : Post P w₀ E E w w' none :=
 ⟨Le.refl E, hI.alike ha, rfl, fun _ _ h => .inl h, (by intro b c h; cases h), rfl, fun _ _ => ⟨rfl, rfl⟩, by rw [ha.1]; exact Nat.le_refl _, fun i _ _ => by rw [ha.1]⟩
theorem Post.new (hI : Inv P w₀ E w) (b cap : Nat) (c : Chunk) (hg : ∀ g', c.gen ≤ g' → ¬ E.K b g')
  (hf : ∀ x, x ∈ c.cells → x.flat = true) (cs : Array Value) (hl : c.cells.length ≤ cs.size) (hcap : ∀ i, P.info? c.e = some i → cap * i.size ≤ cs.size)
  (hR : Reps E c.cells (cs.toList.take c.cells.length)) : Post P w₀ E (E.new w.heap.size b cap c) w (w.alloc (.cells cs c.e)) (some (b, c)) :=
 ⟨le_new hg, inv_new hI b cap c hg hf cs hl hcap hR, rfl, fun x g h => by
  rcases h with h | ⟨rfl, hgg⟩
  ·exact .inl h
  ·exact .inr ⟨c, rfl, hgg⟩, (by intro b' c' h; cases h; exact .inl (by simp [Env.new])), rfl, fun x hx => by
   have e : x ≠ b := fun e => hx c (by rw [e])
   simp [Env.new, e], by simp, fun i hi _ => Below.heap_alloc _ _ _ hi⟩
theorem Post.set (hI : Inv P w₀ E w) {b : Nat} {c c' : Chunk} (hb : E.H b = some c) (he : c'.e = c.e) (hg : c.gen ≤ c'.gen)
  (hf : ∀ x, x ∈ c'.cells → x.flat = true) (cs' : Array Value) (hl : c'.cells.length ≤ cs'.size)
  (hcap : ∀ i, P.info? c.e = some i → E.κ b * i.size ≤ cs'.size) (hR : Reps E c'.cells (cs'.toList.take c'.cells.length)) :
  Post P w₀ E (E.set b c') w (World.setBlock w (E.β b) (.cells cs' c.e (0, 0))) (some (b, c')) :=
 ⟨le_set hb (hI.chunk b c hb).last hg, inv_set hI hb he hg hf cs' hl hcap hR, rfl, fun x g h => by
  rcases h with h | ⟨rfl, hgg⟩
  ·exact .inl h
  ·exact .inr ⟨c', rfl, hgg⟩, (by intro b' c'' h; cases h; exact .inr ⟨c, hb, rfl⟩), rfl, fun _ _ => ⟨rfl, rfl⟩, by simp [World.setBlock], fun i _ hn => heap_setBlock _ _ _ _ (fun e => hn b c' rfl (by rw [hb]; simp) e.symm)⟩
end
end Go.Pi
end
section
namespace Go.Pi
open Go.RowKit
section
variable {P : Program}
theorem run_typeInfo' {t : TypeId} {i : TypeInfo} (h : P.info? t = some i) (w : World) : (typeInfo t).run P w = .ok i w := by simp [typeInfo, h]
theorem run_sizeOf' {t : TypeId} {n : Nat} (h : sizeP P t = some n) (w : World) : (sizeOf t).run P w = .ok n w := by
 unfold sizeP at h
 cases hi : P.info? t with
 |none => simp [hi] at h
 |some i => simp [hi] at h; simp [sizeOf, run_typeInfo' hi, h]
theorem run_isAgg' {t : TypeId} {b : Bool} (h : aggP P t = some b) (w : World) : (isAgg t).run P w = .ok b w := by
 unfold aggP at h
 split at h
 ·rename_i hu; injection h with h; subst h; simp [isAgg, run_underlying hu]
 ·rename_i hu; injection h with h; subst h; simp [isAgg, run_underlying hu]
 ·rename_i d hn1 hn2 hu
  injection h with h; subst h
  simp only [isAgg, Sem.run_bind, run_underlying hu, Result.andThen_ok]
  cases d <;> first | rfl | (exact absurd hu (hn1 _)) | (exact absurd hu (hn2 _ _))
 ·cases h
theorem consts_rep {vs : List Value} : ∀ {xs : List PV}, consts vs = some xs → ∀ E, Reps E xs vs ∧ ∀ x, x ∈ xs → x.flat = true := by
 induction vs with
 |nil => intro xs h E; simp [consts] at h; subst h; exact ⟨.nil E, by simp⟩
 |cons v vs ih =>
  intro xs h E
  simp only [consts, bind, Option.bind] at h
  cases hv : ofConst v with
  |none => simp [hv] at h
  |some x =>
   cases hr : consts vs with
   |none => simp [hv, hr] at h
   |some r =>
    simp [hv, hr] at h
    subst h
    obtain ⟨h1, h2⟩ := ofConst_rep hv E
    obtain ⟨h3, h4⟩ := ih hr E
    exact ⟨.cons h1 h3, by intro y hy; rcases List.mem_cons.1 hy with rfl | hy; exact h2; exact h4 y hy⟩
theorem zeroP_run {t : TypeId} {z : List PV} (h : zeroP P t = some z) : ∃ (i : TypeInfo) (v : Value), P.info? t = some i ∧ i.zero = some v ∧ (∀ w, (zeroValue t).run P w = .ok v w) ∧ ∀ E, Reps E z v.cells.toList ∧ ∀ x, x ∈ z → x.flat = true := by
 unfold zeroP at h
 cases hi : P.info? t with
 |none => simp [hi] at h
 |some i =>
  cases hz : i.zero with
  |none => simp [hi, hz] at h
  |some v =>
   simp [hi, hz] at h
   exact ⟨i, v, rfl, hz, fun w => by simp [zeroValue, run_typeInfo' hi, hz], fun E => consts_rep h E⟩
theorem cellsOf_rep {E : Env} {x : PV} {v : Value} {cs : List PV} (h : Rep E x v) (hc : cellsOf x = some cs) : Reps E cs v.cells.toList ∧ ∀ c, c ∈ cs → c.flat = true := by
 have one : ∀ (y : PV) (u : Value), Rep E y u → y.flat = true → u.oneCell' = true → Reps E [y] u.cells.toList ∧ ∀ c, c ∈ [y] → c.flat = true := fun y u hy hf ho => by
  refine ⟨?_, by simpa using hf⟩
  have : u.cells = #[u] := by cases u <;> first | rfl | simp [Value.oneCell'] at ho
  rw [this]
  exact .cons hy (.nil E)
 cases x with
 |agg l =>
  simp only [cellsOf, Option.some.injEq] at hc
  subst hc
  obtain ⟨vs, rfl, hr, hf⟩ := h.agg_inv
  exact ⟨by simpa [Value.cells] using hr, hf⟩
 |tup l => simp [cellsOf] at hc
 |undef => simp [cellsOf] at hc
 |_ => simp only [cellsOf, Option.some.injEq] at hc; subst hc; exact one _ _ h rfl (h.oneCell rfl)
theorem addr_add (a : Addr) (m n : Nat) : (a.add m).add n = a.add (m + n) := by
 unfold Addr.add
 by_cases h1 : m = 0 <;> by_cases h2 : n = 0 <;> simp [h1, h2, Nat.add_assoc]
theorem run_loadCellsFrom (w : World) (a : Addr) : ∀ (n i : Nat) (acc : Array Value) (U : List Value), U.length = n → (∀ j u, U[j]? = some u → w.cell? (a.add (i + j)) = some u) →
  (loadCellsFrom a i n acc).run P w = .ok (acc ++ U.toArray) w := by
 intro n
 induction n with
 |zero => intro i acc U hl _; cases U with | nil => simp [loadCellsFrom] | cons => simp at hl
 |succ n ih =>
  intro i acc U hl h
  cases U with
  |nil => simp at hl
  |cons u U =>
   have h0 := h 0 u rfl
   rw [Nat.add_zero] at h0
   simp only [loadCellsFrom, Sem.run_bind, run_load, h0, Result.andThen_ok]
   rw [ih (i + 1) (acc.push u) U (by simpa using hl) (fun j v hv => by have := h (j + 1) v (by simpa using hv); rwa [show i + 1 + j = i + (j + 1) by omega])]
   congr 1
   apply Array.ext'
   simp
theorem run_loadCells (w : World) (a : Addr) (U : List Value) (h : ∀ j u, U[j]? = some u → w.cell? (a.add j) = some u) : (loadCells a U.length).run P w = .ok U.toArray w := by
 unfold loadCells
 rw [run_loadCellsFrom w a U.length 0 #[] U rfl (fun j u hu => by rw [Nat.zero_add]; exact h j u hu)]
 simp
def putRow (cs : Array Value) (i : Nat) (vs : List Value) : Array Value := (cs.toList.take i ++ vs ++ cs.toList.drop (i + vs.length)).toArray
theorem putRow_size (cs : Array Value) (i : Nat) (vs : List Value) (h : i + vs.length ≤ cs.size) : (putRow cs i vs).size = cs.size := by
 simp [putRow]; omega
theorem setCell_block (w : World) (k i : Nat) (cs : Array Value) (e : TypeId) (v : Value) (h : w.heap[k]? = some (.cells cs e (0, 0))) :
  w.setCell ⟨k, i, none⟩ v = World.setBlock w k (.cells (cs.setIfInBounds i v) e (0, 0)) := by
 unfold World.setCell World.setBlock
 congr 1
 apply Array.ext_getElem?
 intro j
 rw [Array.getElem?_modify, Array.getElem?_setIfInBounds]
 have hk := (Array.getElem?_eq_some_iff.1 h).1
 by_cases e1 : k = j
 ·subst e1; have hg := (Array.getElem?_eq_some_iff.1 h).2; simp [hk, hg]
 ·simp [e1]
theorem setBlock_self (w : World) (k : Nat) (o : Obj) (h : w.heap[k]? = some o) : World.setBlock w k o = w := by
 have : w.heap.setIfInBounds k o = w.heap := by
  apply Array.ext_getElem?
  intro j
  rw [Array.getElem?_setIfInBounds]
  have hk := (Array.getElem?_eq_some_iff.1 h).1
  by_cases e1 : k = j
  ·subst e1; have hg := (Array.getElem?_eq_some_iff.1 h).2; simp [hk, hg]
  ·simp [e1]
 unfold World.setBlock
 rw [this]
theorem putRow_cons (cs : Array Value) (o : Nat) (v : Value) (vs : List Value) (hle : o < cs.size) : putRow (cs.setIfInBounds o v) (o + 1) vs = putRow cs o (v :: vs) := by
 unfold putRow
 congr 1
 apply List.ext_getElem?
 intro j
 simp only [Array.toList_setIfInBounds, List.length_cons]
 have hlen : o < cs.toList.length := by simp; omega
 rw [List.append_assoc, List.append_assoc, List.getElem?_append, List.getElem?_append, List.getElem?_append, List.getElem?_append]
 simp only [List.length_take, List.length_set]
 have m1 : min (o + 1) cs.toList.length = o + 1 := by omega
 have m2 : min o cs.toList.length = o := by omega
 rw [m1, m2]
 by_cases h1 : j < o
 ·rw [if_pos (by omega), if_pos h1]
  simp only [List.getElem?_take, if_pos h1, if_pos (show j < o + 1 by omega)]
  rw [List.getElem?_set_ne (by omega)]
 ·by_cases h2 : j = o
  ·subst h2
   rw [if_pos (by omega), if_neg (by omega), if_pos (by simp)]
   simp only [List.getElem?_take, if_pos (show j < j + 1 by omega)]
   rw [List.getElem?_set_self hlen]; simp
  ·rw [if_neg (by omega), if_neg h1]
   obtain ⟨d, rfl⟩ : ∃ d, j = o + 1 + d := ⟨j - (o + 1), by omega⟩
   have s1 : o + 1 + d - (o + 1) = d := by omega
   have s2 : o + 1 + d - o = d + 1 := by omega
   rw [s1, s2]
   simp only [List.length_cons, List.getElem?_cons_succ, Nat.add_lt_add_iff_right]
   by_cases h3 : d < vs.length
   ·rw [if_pos h3, if_pos h3]
   ·rw [if_neg h3, if_neg h3]
    rw [List.getElem?_drop, List.getElem?_drop, List.getElem?_set_ne (by omega)]
    congr 1
    omega
theorem run_storeCells (k : Nat) (e : TypeId) : ∀ (vs : List Value) (w : World) (o i : Nat) (cs : Array Value), (∀ v, v ∈ vs → v.oneCell' = true) → w.heap[k]? = some (.cells cs e (0, 0)) → o + i + vs.length ≤ cs.size →
  (storeCells ⟨k, o, none⟩ vs i).run P w = .ok () (World.setBlock w k (.cells (putRow cs (o + i) vs) e (0, 0))) := by
 intro vs
 induction vs with
 |nil =>
  intro w o i cs _ hb _
  simp only [storeCells, Sem.run_pure]
  congr 1
  have : putRow cs (o + i) [] = cs := by unfold putRow; simp
  rw [this, setBlock_self w k _ hb]
 |cons v vs ih =>
  intro w o i cs hone hb hle
  simp only [List.length_cons] at hle
  have hk := (Array.getElem?_eq_some_iff.1 hb).1
  have ha : (⟨k, o, none⟩ : Addr).add i = ⟨k, o + i, none⟩ := by unfold Addr.add; split <;> simp_all
  have hc : w.cell? ⟨k, o + i, none⟩ = some cs[o + i] := by simp [World.cell?, hb]
  have hf : w.frozen? ⟨k, o + i, none⟩ = false := by simp [World.frozen?, hb]
  simp only [storeCells, Sem.run_bind, ha, run_store P w _ v .plain (hone v (by simp)), hc, hf, Bool.false_eq_true, if_false, Result.andThen_ok]
  rw [setCell_block w k (o + i) cs e v hb]
  rw [ih (World.setBlock w k (.cells (cs.setIfInBounds (o + i) v) e (0, 0))) o (i + 1) (cs.setIfInBounds (o + i) v) (fun u hu => hone u (by simp [hu])) (heap_setBlock_same _ _ _ hk) (by simp; omega)]
  congr 1
  have e1 := putRow_cons cs (o + i) v vs (by omega)
  rw [show o + (i + 1) = o + i + 1 from rfl]
  rw [e1]
  unfold World.setBlock
  congr 1
  apply Array.ext_getElem?
  intro j
  simp only [Array.getElem?_setIfInBounds]
  by_cases e2 : k = j
  ·subst e2; simp [hk]
  ·simp [e2]
end
end Go.Pi
end
section
namespace Go.Pi
open Go.RowKit
section
variable {P : Program} {w₀ : World} {E : Env} {w : World}
def Done (P : Program) (w₀ : World) (E : Env) (w : World) (r : Result Next) (v : PV) (u : Upd) : Prop :=
 ∃ n w' E' z, r = .ok n w' ∧ (n = .value z ∨ (n = .skip ∧ z = undef)) ∧ Rep E' v z ∧ Post P w₀ E E' w w' u
theorem Done.here (hI : Inv P w₀ E w) {r : Result Next} {v : PV} {z : Value} (hr : r = .ok (.value z) w) (h : Rep E v z) : Done P w₀ E w r v none :=
 ⟨_, w, E, z, hr, .inl rfl, h, .same hI (Alike.refl w)⟩
theorem Rep.bool_inv {b : Bool} {v : Value} (h : Rep E (.bool b) v) : v = .bool b := by cases h; rfl
theorem Rep.int_inv {k : IntKind} {n : Int} {v : Value} (h : Rep E (.int k n) v) : v = .int k n := by cases h; rfl
theorem Rep.str_inv {s : ByteArray} {v : Value} (h : Rep E (.str s) v) : v = .string s := by cases h; rfl
theorem Rep.flt_inv {k : FloatKind} {n : Nat} {v : Value} (h : Rep E (.flt k n) v) : v = .float k n := by cases h; rfl
theorem Rep.nilp_inv {v : Value} (h : Rep E .nilp v) : v = .pointer none := by cases h; rfl
theorem Rep.nili_inv {v : Value} (h : Rep E .nili v) : v = .nilIface := by cases h; rfl
theorem Rep.nils_inv {v : Value} (h : Rep E .nils v) : v = .slice none 0 0 := by cases h; rfl
theorem Rep.ifc_inv {t : TypeId} {x : PV} {v : Value} (h : Rep E (.ifc t x) v) : ∃ u, v = .iface t u ∧ Rep E x u := by cases h with | ifc t x v h => exact ⟨v, rfl, h⟩
theorem Rep.fp_inv {cs : List PV} {v : Value} (h : Rep E (.fp cs) v) : ∃ (a : Addr) (U : Nat → Value), v = .pointer (some a) ∧ (∀ c, c ∈ cs → c.flat = true) ∧ (∀ j, j < cs.length → E.F (a.add j) = some (U j)) ∧ ∀ (j : Nat) (hj : j < cs.length), Rep E cs[j] (U j) := by
 cases h with | fp _ a U hf hF h => exact ⟨a, U, rfl, hf, hF, h⟩
theorem Rep.ptr_inv {b g o : Nat} {v : Value} (h : Rep E (.ptr b g o) v) : (∃ a, v = .pointer (some a)) ∧ E.K b g ∧ ∀ c, E.H b = some c → c.gen = g → v = .pointer (some ⟨E.β b, o, none⟩) := by
 cases h with | ptr _ _ _ _ hv hk h => exact ⟨hv, hk, h⟩
theorem Rep.row_inv {b g l : Nat} {v : Value} (h : Rep E (.row b g l) v) : (∃ a c, v = .slice (some a) l c ∧ l ≤ c) ∧ E.K b g ∧ ∀ c, E.H b = some c → c.gen = g → l ≤ E.κ b ∧ v = .slice (some ⟨E.β b, 0, none⟩) l (E.κ b) := by
 cases h with | row _ _ _ _ hv hk h => exact ⟨hv, hk, h⟩
theorem cells_chunk (hI : Inv P w₀ E w) {b : Nat} {c : Chunk} (hc : E.H b = some c) (off n : Nat) (hn : off + n ≤ c.cells.length) :
  ∃ U : List Value, U.length = n ∧ Reps E ((c.cells.drop off).take n) U ∧ ∀ j u, U[j]? = some u → w.cell? ⟨E.β b, off + j, none⟩ = some u := by
 obtain ⟨cs, hcs, h1, _, h2⟩ := (hI.chunk b c hc).cells
 refine ⟨((cs.toList.take c.cells.length).drop off).take n, by simp; omega, (h2.drop off).take n, fun j u hu => ?_⟩
 rw [List.getElem?_take] at hu
 split at hu
 ·rw [List.getElem?_drop, List.getElem?_take] at hu
  split at hu
  ·simp [World.cell?, hcs]; simpa using hu
  ·cases hu
 ·cases hu
theorem cellsAt_rep (hI : Inv P w₀ E w) {n : Nat} {x : PV} {v : Value} {cs : List PV} (hx : Rep E x v) (h : cellsAt E.H n x = some cs) :
  ∃ (a : Addr) (U : List Value), v = .pointer (some a) ∧ U.length = n ∧ Reps E cs U ∧ (∀ c, c ∈ cs → c.flat = true) ∧ ∀ j u, U[j]? = some u → w.cell? (a.add j) = some u := by
 cases x with
 |ptr b g off =>
  obtain ⟨_, _, hp⟩ := hx.ptr_inv
  simp only [cellsAt] at h
  cases hb : E.H b with
  |none => simp [hb] at h
  |some c =>
   simp only [hb] at h
   split at h
   ·rename_i hg
    injection h with h
    subst h
    obtain ⟨U, h1, h2, h3⟩ := cells_chunk hI hb off n hg.2
    refine ⟨_, U, hp c hb hg.1, h1, h2, fun x hx => (hI.chunk b c hb).flat x (List.mem_of_mem_drop (List.mem_of_mem_take hx)), fun j u hu => ?_⟩
    have : (⟨E.β b, off, none⟩ : Addr).add j = ⟨E.β b, off + j, none⟩ := by unfold Addr.add; split <;> simp_all
    rw [this]; exact h3 j u hu
   ·cases h
 |fp l =>
  obtain ⟨a, U, rfl, hf, hF, hr⟩ := hx.fp_inv
  simp only [cellsAt] at h
  split at h
  ·rename_i hn
   injection h with h
   subst h
   refine ⟨a, (List.range n).map U, rfl, by simp, .mk (by simp; omega) (fun i hi => by simp at hi ⊢; exact hr i (by omega)), fun c hc => hf c (List.mem_of_mem_take hc), fun j u hu => ?_⟩
   simp only [List.getElem?_map, Option.map_eq_some_iff] at hu
   obtain ⟨i, hi, rfl⟩ := hu
   rw [List.getElem?_eq_some_iff] at hi
   obtain ⟨hi, rfl⟩ := hi
   simp at hi ⊢
   exact hI.cell _ _ (hF j (by omega))
  ·cases h
 |_ => simp [cellsAt] at h
theorem done_ld (hI : Inv P w₀ E w) {t : TypeId} {ag : Bool} {s : Nat} {x : PV} {v : Value} {r : PV} {u : Upd} (hag : aggP P t = some ag) (hs : sizeP P t = some s) (hx : Rep E x v)
  (h : (match cellsAt E.H (if ag then s else 1) x with
   |some cs => if ag then some (PV.agg cs, (none : Upd)) else match cs with
    |[c] => some (c, none)
    |_ => none
   |none => none) = some (r, u)) : Done P w₀ E w ((do pure (Next.value (← Instr.loadAt t v)) : Sem Next).run P w) r u := by
 cases hc : cellsAt E.H (if ag then s else 1) x with
 |none => simp [hc] at h
 |some cs =>
  obtain ⟨a, U, rfl, hl, hr, hf, hm⟩ := cellsAt_rep hI hx hc
  simp only [hc] at h
  cases ag with
  |true =>
   simp at h
   obtain ⟨rfl, rfl⟩ := h
   refine .here hI (z := .agg U.toArray) ?_ (hr.agg hf)
   have hU : U.length = s := by simpa using hl
   simp only [Instr.loadAt, Instr.sureAddr, loadVar, Sem.run_bind, Sem.run_pure, Result.andThen_ok, run_isAgg' hag, if_true, run_sizeOf' hs, ← hU, run_loadCells w a U hm]
  |false =>
   simp only [Bool.false_eq_true, if_false] at h hl
   match U, hl with
   |[z], _ =>
    obtain ⟨hl2, hr⟩ := hr
    match cs, hl2, h with
    |[c], _, h =>
     simp at h
     obtain ⟨rfl, rfl⟩ := h
     refine .here hI (z := z) ?_ (hr 0 c z rfl rfl)
     have h0 := hm 0 z rfl
     have ha0 : a.add 0 = a := by simp [Addr.add]
     rw [ha0] at h0
     simp [Instr.loadAt, Instr.sureAddr, loadVar, run_isAgg' hag, h0]
theorem take_putRow (cs : Array Value) (i n : Nat) (vs : List Value) (h : i + vs.length ≤ n) (hn : n ≤ cs.size) : (putRow cs i vs).toList.take n = (cs.toList.take n).take i ++ vs ++ (cs.toList.take n).drop (i + vs.length) := by
 have e1 : (putRow cs i vs).toList = cs.toList.take i ++ vs ++ cs.toList.drop (i + vs.length) := by simp [putRow]
 rw [e1, List.take_append, List.take_append]
 have l1 : (List.take i cs.toList).length = i := by simp; omega
 rw [List.take_take, l1]
 congr 1
 ·congr 1
  ·rw [List.take_take]; congr 1; omega
  ·rw [List.take_of_length_le (by omega)]
 ·simp only [List.length_append, l1]
  rw [List.drop_take]
theorem done_st (hI : Inv P w₀ E w) {t : TypeId} {s : Nat} {x y : PV} {v z : Value} {r : PV} {u : Upd} (hs : sizeP P t = some s) (hx : Rep E x v) (hy : Rep E y z)
  (h : stRun E.H s x y = some (r, u)) : Done P w₀ E w ((do Instr.storeAt t v z; pure Next.skip : Sem Next).run P w) r u := by
 unfold stRun at h
 cases x with
 |ptr b g off =>
  cases hvs : cellsOf y with
  |none => simp [hvs] at h
  |some vs =>
   simp only [hvs] at h
   cases hb : E.H b with
   |none => simp [hb] at h
   |some c =>
    simp only [hb] at h
    split at h
    ·rename_i hg
     obtain ⟨hg1, hg2, hg3⟩ := hg
     injection h with h
     injection h with h1 h2
     subst h1; subst h2
     obtain ⟨_, _, hp⟩ := hx.ptr_inv
     have hv := hp c hb hg1
     subst hv
     obtain ⟨hr, hf⟩ := cellsOf_rep hy hvs
     have hh := hI.chunk b c hb
     obtain ⟨cs, hcs, k1, k2, k3⟩ := hh.cells
     have hlen : z.cells.toList.length = s := by rw [← hr.1]; exact hg2
     have hone : ∀ q, q ∈ z.cells.toList → q.oneCell' = true := by
      intro q hq
      obtain ⟨i, hi, rfl⟩ := List.getElem_of_mem hq
      exact (hr.get i (by rw [hr.1]; exact hi)).oneCell (hf _ (List.getElem_mem _))
     have hrun := run_storeCells (P := P) (E.β b) c.e z.cells.toList w off 0 cs hone hcs (by omega)
     have hlen2 : (splice c.cells off vs).length = c.cells.length := by simp [splice]; omega
     refine ⟨.skip, _, _, undef, ?_, .inr ⟨rfl, rfl⟩, .undef _, Post.set (c' := ⟨c.e, c.gen, splice c.cells off vs, c.s⟩) hI hb rfl (Nat.le_refl _) ?_ (putRow cs off z.cells.toList) ?_ ?_ ?_⟩
     ·have hsz : z.cells.size = s := by rw [← Array.length_toList]; exact hlen
      simp only [Instr.storeAt, Instr.sureAddr, storeVar, Sem.run_bind, Sem.run_pure, Result.andThen_ok, run_sizeOf' hs, hsz, ne_eq, not_true, if_false, Sem.run_ite]
      rw [hrun]
      simp
     ·intro x hx
      simp only [splice, List.mem_append] at hx
      rcases hx with (hx | hx) | hx
      ·exact hh.flat x (List.mem_of_mem_take hx)
      ·exact hf x hx
      ·exact hh.flat x (List.mem_of_mem_drop hx)
     ·rw [putRow_size _ _ _ (by omega)]; show (splice c.cells off vs).length ≤ _; omega
     ·intro i hi; rw [putRow_size _ _ _ (by omega)]; exact k2 i hi
     ·show Reps E (splice c.cells off vs) (List.take (splice c.cells off vs).length _)
      rw [hlen2, take_putRow cs off _ _ (by omega) k1]
      unfold splice
      have hvl : vs.length = z.cells.toList.length := hr.1
      rw [hvl]
      exact ((k3.take off).append hr).append (k3.drop _)
    ·cases h
 |_ => simp at h
theorem done_new (hI : Inv P w₀ E w) {fresh st e : Nat} (hfr : ∀ g, st ≤ g → ¬ E.K fresh g) {cs : List PV} {vs : Array Value} (hr : Reps E cs vs.toList) (hf : ∀ c, c ∈ cs → c.flat = true)
  {r : Result Next} (hrun : r = .ok (.value (.pointer (some ⟨w.heap.size, 0, none⟩))) (w.alloc (.cells vs e))) : Done P w₀ E w r (.ptr fresh st 0) (some (fresh, ⟨e, st, cs, 0⟩)) := by
 have hl : cs.length = vs.size := by rw [← Array.length_toList]; exact hr.1
 have hp := Post.new (P := P) hI fresh 0 ⟨e, st, cs, 0⟩ (fun g hg => hfr g hg) hf vs (by show cs.length ≤ _; omega) (fun i _ => by omega) (by
  show Reps E cs (List.take cs.length _)
  rw [List.take_of_length_le (by rw [← hr.1]; exact Nat.le_refl _)]; exact hr)
 refine ⟨_, _, _, _, hrun, .inl rfl, .ptr fresh st 0 _ ⟨_, rfl⟩ (Or.inr ⟨rfl, rfl⟩ : (E.new w.heap.size fresh 0 ⟨e, st, cs, 0⟩).K fresh st) fun c _ _ => ?_, hp⟩
 simp [Env.new]
theorem done_row (hI : Inv P w₀ E w) {fresh st e s len cap : Nat} (hfr : ∀ g, st ≤ g → ¬ E.K fresh g) {cs : List PV} {vs : Array Value} (hle : cs.length ≤ vs.size) (hcap : ∀ i, P.info? e = some i → cap * i.size ≤ vs.size) (hlc : len ≤ cap)
  (hr : Reps E cs (vs.toList.take cs.length)) (hf : ∀ c, c ∈ cs → c.flat = true) {w1 : World} (ha : Alike w w1)
  {r : Result Next} (hrun : r = .ok (.value (.slice (some ⟨w1.heap.size, 0, none⟩) len cap)) (w1.alloc (.cells vs e))) : Done P w₀ E w r (.row fresh st len) (some (fresh, ⟨e, st, cs, s⟩)) := by
 have hp := Post.new (P := P) (hI.alike ha) fresh cap ⟨e, st, cs, s⟩ (fun g hg => hfr g hg) hf vs hle hcap hr
 refine ⟨_, _, _, _, hrun, .inl rfl, .row fresh st len _ ⟨_, _, rfl, hlc⟩ (Or.inr ⟨rfl, rfl⟩ : (E.new w1.heap.size fresh cap ⟨e, st, cs, s⟩).K fresh st) fun c _ _ => ?_, ⟨hp.le, hp.inv, hp.heap, hp.used, (by rw [← ha.1]; exact hp.moved), hp.known, hp.place, by have := hp.size; rw [ha.1] at this; exact this, fun i hi hn => ?_⟩⟩
 ·simp [Env.new, hlc]
 ·rw [hp.frame i (by rw [ha.1]; exact hi) hn, ha.1]
end
end Go.Pi
end
section
namespace Go.Pi
open Go.RowKit
section
variable {P : Program} {w₀ : World} {E : Env} {w : World}
theorem foldl_putRow : ∀ (vs : List Value) (k off : Nat) (cs : Array Value), off + k + vs.length ≤ cs.size →
  (vs.zipIdx k).foldl (fun a p => a.setIfInBounds (off + p.2) p.1) cs = putRow cs (off + k) vs := by
 intro vs
 induction vs with
 |nil => intro k off cs _; simp [putRow]
 |cons v vs ih =>
  intro k off cs h
  simp only [List.length_cons] at h
  rw [List.zipIdx_cons, List.foldl_cons, ih (k + 1) off _ (by simp; omega), show off + (k + 1) = off + k + 1 from rfl, putRow_cons cs (off + k) v vs (by omega)]
theorem splice_rep {cells vs : List PV} {cs : Array Value} {us : List Value} (h : Reps E cells cs.toList) (hf : ∀ c, c ∈ cells → c.flat = true) (k : Reps E vs us) (kf : ∀ c, c ∈ vs → c.flat = true) (o : Nat) (ho : o + vs.length ≤ cells.length) :
  Reps E (splice cells o vs) (putRow cs o us).toList ∧ (∀ c, c ∈ splice cells o vs → c.flat = true) ∧ (splice cells o vs).length = cells.length ∧ (putRow cs o us).size = cs.size := by
 have hl : cells.length = cs.toList.length := h.1
 have kl : vs.length = us.length := k.1
 refine ⟨?_, ?_, by simp [splice]; omega, putRow_size _ _ _ (by have : cs.toList.length = cs.size := by simp
                                                                omega)⟩
 ·unfold splice putRow
  rw [kl]
  exact ((h.take o).append k).append (h.drop _)
 ·intro x hx
  simp only [splice, List.mem_append] at hx
  rcases hx with (hx | hx) | hx
  ·exact hf x (List.mem_of_mem_take hx)
  ·exact kf x hx
  ·exact hf x (List.mem_of_mem_drop hx)
theorem fill_ok {place : Nat → Option (Nat × Nat)} {ρ : Operand → Value} {ev : Opd → PV} (hev : ∀ x y, compileOpd x = some y → Rep E (ev y) (ρ x)) :
  ∀ (ps : List (Nat × Operand)) (qs : List (Nat × Nat × Opd)) (z : List PV) (cells : Array Value) (cs : List PV), partsP place ps = some qs → Reps E z cells.toList → (∀ c, c ∈ z → c.flat = true) →
   fillP z (qs.map fun p => (p.1, p.2.1, ev p.2.2)) = some cs → ∃ cells' : Array Value, Instr.fill place cells (ps.map fun p => (p.1, ρ p.2)) = some cells' ∧ Reps E cs cells'.toList ∧ (∀ c, c ∈ cs → c.flat = true) ∧ cs.length = z.length := by
 intro ps
 induction ps with
 |nil =>
  intro qs z cells cs hq hz hf h
  simp only [partsP, Option.some.injEq] at hq
  subst hq
  simp only [List.map_nil, fillP, Option.some.injEq] at h
  subst h
  exact ⟨cells, rfl, hz, hf, rfl⟩
 |cons p ps ih =>
  obtain ⟨i, x⟩ := p
  intro qs z cells cs hq hz hf h
  simp only [partsP, bind, Option.bind] at hq
  cases hp : place i with
  |none => simp [hp] at hq
  |some os =>
   obtain ⟨o, s⟩ := os
   cases hx : compileOpd x with
   |none => simp [hp, hx] at hq
   |some y =>
    cases hr : partsP place ps with
    |none => simp [hp, hx, hr] at hq
    |some r =>
     simp [hp, hx, hr] at hq
     subst hq
     simp only [List.map_cons, fillP] at h
     cases hc : cellsOf (ev y) with
     |none => simp [hc] at h
     |some vs =>
      simp only [hc] at h
      split at h
      ·rename_i hcond
       obtain ⟨k1, k2⟩ := cellsOf_rep (hev x y hx) hc
       obtain ⟨s1, s2, s3, s4⟩ := splice_rep hz hf k1 k2 o (by omega)
       obtain ⟨cells', f1, f2, f3, f4⟩ := ih r _ (putRow cells o (ρ x).cells.toList) cs hr s1 s2 h
       refine ⟨cells', ?_, f2, f3, f4.trans s3⟩
       have hsz : (ρ x).cells.size = s := by rw [← Array.length_toList, ← k1.1]; exact hcond.1
       have hcl : cells.size = z.length := by rw [← Array.length_toList]; exact hz.1.symm
       simp only [List.map_cons, Instr.fill, hp]
       rw [if_neg (by simp [hsz]; omega)]
       have hfold : (ρ x).cells.zipIdx.foldl (fun cs q => cs.setIfInBounds (o + q.2) q.1) cells = putRow cells o (ρ x).cells.toList := by
        rw [← Array.foldl_toList, Array.toList_zipIdx]
        rw [foldl_putRow _ 0 o cells (by simp; omega)]
        simp
       rw [hfold]
       exact f1
      ·cases h
theorem run_sizes (w : World) : ∀ (fs : List Field) (l : List (Nat × Nat)), sizesP P fs = some l → (fs.mapM fun f => (do pure (f.offset, ← sizeOf f.type) : Sem (Nat × Nat))).run P w = .ok l w := by
 intro fs
 induction fs with
 |nil => intro l h; simp [sizesP] at h; subst h; simp
 |cons f fs ih =>
  intro l h
  simp only [sizesP, bind, Option.bind] at h
  cases hs : sizeP P f.type with
  |none => simp [hs] at h
  |some s =>
   cases hr : sizesP P fs with
   |none => simp [hs, hr] at h
   |some r =>
    simp [hs, hr] at h
    subst h
    rw [List.mapM_cons]
    simp only [Sem.run_bind, run_sizeOf' hs, Result.andThen_ok, Sem.run_pure, ih r hr]
theorem done_build (hI : Inv P w₀ E w) {ρ : Operand → Value} {ev : Opd → PV} (hev : ∀ x y, compileOpd x = some y → Rep E (ev y) (ρ x)) {t : TypeId} {ps : Array (Nat × Operand)} {z cs : List PV} {l : List (Nat × Nat)} {qs : List (Nat × Nat × Opd)}
  (hz : zeroP P t = some z) (hl : placesP P t = some l) (hq : partsP (fun i => l[i]?) ps.toList = some qs) (h : fillP z (qs.map fun p => (p.1, p.2.1, ev p.2.2)) = some cs) :
  Done P w₀ E w ((do pure (Next.value (← Instr.build t (ps.map fun p => (p.1, ρ p.2)))) : Sem Next).run P w) (.agg cs) none := by
 obtain ⟨i, v, _, _, hzr, hzE⟩ := zeroP_run hz
 obtain ⟨hzR, hzF⟩ := hzE E
 obtain ⟨cells', f1, f2, f3, _⟩ := fill_ok hev ps.toList qs z v.cells cs hq hzR hzF h
 refine .here hI (z := .agg cells') ?_ (by have := f2.agg f3; simpa using this)
 unfold placesP at hl
 cases hu : P.underlying t with
 |none => simp [hu] at hl
 |some d =>
  cases d with
  |struct fs =>
   simp only [hu] at hl
   have hm := run_sizes (P := P) w fs.toList l hl
   simp only [Instr.build, Sem.run_bind, hzr, Result.andThen_ok, run_underlying hu]
   rw [Array.mapM_eq_mapM_toList]
   simp only [Sem.run_map, hm, Result.andThen_ok]
   have hfun : (fun x : Nat => l.toArray[x]?) = fun i : Nat => l[i]? := by funext j; simp
   have hpl : (ps.map fun p => (p.1, ρ p.2)).toList = ps.toList.map fun p => (p.1, ρ p.2) := by simp
   rw [hpl]
   simp only [hfun, f1, Sem.run_pure, Result.andThen_ok]
  |_ => simp [hu] at hl
theorem flatten_get {α : Type} (z : List α) (n i : Nat) (h : i < n * z.length) : ((List.replicate n z).flatten)[i]? = z[i % z.length]? := by
 induction n generalizing i with
 |zero => simp at h
 |succ n ih =>
  rw [List.replicate_succ, List.flatten_cons, List.getElem?_append]
  split
  ·rename_i hi; rw [Nat.mod_eq_of_lt hi]
  ·rename_i hi
   have hz : 0 < z.length := by
    rcases Nat.eq_zero_or_pos z.length with h0 | h0
    ·rw [h0] at h; simp at h
    ·exact h0
   rw [Nat.succ_mul] at h
   rw [ih (i - z.length) (by omega), Nat.mod_eq_sub_mod (by omega : i ≥ z.length)]
theorem zeros_rep {z : List PV} {v : Value} (hR : Reps E z v.cells.toList) (hs : 0 < z.length) (m : Nat) :
  Reps E ((List.replicate m z).flatten) ((Array.range (m * z.length)).map (v.cells[· % v.cells.size]!)).toList := by
 have hsz : v.cells.size = z.length := by rw [← Array.length_toList]; exact hR.1.symm
 refine ⟨by simp, fun i c u hc hu => ?_⟩
 have hi : i < m * z.length := by
  have := (List.getElem?_eq_some_iff.1 hc).1
  simpa using this
 rw [flatten_get z m i hi] at hc
 have hm : i % z.length < z.length := Nat.mod_lt _ hs
 refine hR.2 (i % z.length) c u hc ?_
 simp only [Array.toList_map, Array.toList_range, List.getElem?_map, List.getElem?_range hi, Option.map_some, Option.some.injEq] at hu
 rw [← hu, hsz]
 simp [hsz, hm]
theorem flat_replicate {z : List PV} (hf : ∀ c, c ∈ z → c.flat = true) (m : Nat) : ∀ c, c ∈ (List.replicate m z).flatten → c.flat = true := by
 intro c hc
 simp only [List.mem_flatten, List.mem_replicate] at hc
 obtain ⟨l, ⟨_, rfl⟩, hc⟩ := hc
 exact hf c hc
theorem done_bsl (hI : Inv P w₀ E w) {ρ : Operand → Value} {ev : Opd → PV} (hev : ∀ x y, compileOpd x = some y → Rep E (ev y) (ρ x)) {fresh st : Nat} (hfr : ∀ g, st ≤ g → ¬ E.K fresh g) {t e s len : Nat} {ps : Array (Nat × Operand)} {z cs : List PV} {qs : List (Nat × Nat × Opd)}
  (he : P.underlying t = some (.slice e)) (hs : sizeP P e = some s) (hs0 : s ≠ 0) (hlim : len * s ≤ 2 ^ 24) (hz : zeroP P e = some z) (hzl : z.length = s)
  (hq : partsP (fun i => some (i * s, s)) ps.toList = some qs) (h : fillP ((List.replicate len z).flatten) (qs.map fun p => (p.1, p.2.1, ev p.2.2)) = some cs) :
  Done P w₀ E w ((do pure (Next.value (← Instr.buildSlice t len (ps.map fun p => (p.1, ρ p.2)))) : Sem Next).run P w) (.row fresh st len) (some (fresh, ⟨e, st, cs, s⟩)) := by
 obtain ⟨i, v, hi, _, hzr, hzE⟩ := zeroP_run hz
 obtain ⟨hzR, hzF⟩ := hzE E
 have hinfo : ∀ i, P.info? e = some i → i.size = s := by intro i hi; unfold sizeP at hs; simpa [hi] using hs
 have hsv : v.cells.size = s := by rw [← Array.length_toList, ← hzR.1]; exact hzl
 have hR0 := zeros_rep hzR (by omega) len
 rw [hzl] at hR0
 have key : ∀ cells : Array Value, Reps E ((List.replicate len z).flatten) cells.toList → cells.size = len * s → ∃ cells' : Array Value, Instr.fill (fun i => some (i * s, s)) cells (ps.toList.map fun p => (p.1, ρ p.2)) = some cells' ∧ Reps E cs cells'.toList ∧ (∀ c, c ∈ cs → c.flat = true) ∧ cs.length = len * s := by
  intro cells hc hl
  obtain ⟨cells', f1, f2, f3, f4⟩ := fill_ok hev ps.toList qs _ cells cs hq hc (flat_replicate hzF len) h
  exact ⟨cells', f1, f2, f3, by rw [f4]; simp [hzl]⟩
 have hpl : (ps.map fun p => (p.1, ρ p.2)).toList = ps.toList.map fun p => (p.1, ρ p.2) := by simp
 have fin : ∀ cells' : Array Value, Reps E cs cells'.toList → (∀ c, c ∈ cs → c.flat = true) → cs.length = len * s → ∀ r, r = .ok (.value (.slice (some ⟨w.heap.size, 0, none⟩) len len)) (w.alloc (.cells cells' e)) → Done P w₀ E w r (.row fresh st len) (some (fresh, ⟨e, st, cs, s⟩)) := by
  intro cells' f2 f3 f4 r hr
  have hsz : cells'.size = len * s := by rw [← Array.length_toList, ← f2.1]; exact f4
  refine done_row hI hfr (by omega) (fun i hi => by rw [hinfo i hi, hsz]; exact Nat.le_refl _) (Nat.le_refl _) ?_ f3 (Alike.refl w) hr
  rw [List.take_of_length_le (by rw [f2.1]; exact Nat.le_refl _)]; exact f2
 by_cases hn : len * s = 0
 ·obtain ⟨cells', f1, f2, f3, f4⟩ := key #[] (by
   have : (List.replicate len z).flatten = [] := by
    apply List.eq_nil_of_length_eq_zero; simp [hzl, hn]
   rw [this]; exact .nil E) (by simp [hn])
  refine fin cells' f2 f3 f4 _ ?_
  simp only [Instr.buildSlice, Sem.run_bind, run_underlying he, Result.andThen_ok, run_sizeOf' hs, hn]
  rw [hpl]
  simp only [Nat.not_lt_zero, gt_iff_lt, Sem.run_bind, if_false, if_true, Sem.run_pure, Result.andThen_ok, Array.range_zero', Array.map_empty, f1]
  simp [newRow]
 ·obtain ⟨cells', f1, f2, f3, f4⟩ := key _ hR0 (by simp)
  refine fin cells' f2 f3 f4 _ ?_
  simp only [Instr.buildSlice, Sem.run_bind, run_underlying he, Result.andThen_ok, run_sizeOf' hs]
  rw [hpl]
  rw [if_neg (by omega)]
  simp only [hn, if_false, Sem.run_bind, hzr, Sem.run_pure, Result.andThen_ok, f1]
  simp [newRow]
end
end Go.Pi
end
