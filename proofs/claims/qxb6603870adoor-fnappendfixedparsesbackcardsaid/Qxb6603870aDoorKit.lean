import Derived.WalkKit
import Derived.Below
import Derived.Deep.Draws
import Derived.Deep.QuietTactic
import Derived.BigQuiet
import Derived.WalkSpells
import Derived.WalkLawsBesides
import Derived.Deep.OwnRows
namespace Go.Proofs.Qxb6603870aDoor
open Go.RowKit

/-- the i-th number of a list (0 beyond its end) -/
def nth (xs : List Int) (i : Nat) : Int := xs.getD i 0

/-- blocks in U are as they were; the streams are as they were; no block has gone -/
structure Fix (U : Nat → Prop) (w w' : World) : Prop where
  os : w'.os = w.os
  tape : w'.tape = w.tape
  output : w'.output = w.output
  size : w.heap.size ≤ w'.heap.size
  block : ∀ k, U k → w'.heap[k]? = w.heap[k]?

theorem Fix.refl (U : Nat → Prop) (w : World) : Fix U w w := ⟨rfl, rfl, rfl, Nat.le_refl _, fun _ _ => rfl⟩
theorem Fix.trans {U : Nat → Prop} {a b c : World} (h : Fix U a b) (k : Fix U b c) : Fix U a c :=
  ⟨k.os.trans h.os, k.tape.trans h.tape, k.output.trans h.output, Nat.le_trans h.size k.size, fun i hi => (k.block i hi).trans (h.block i hi)⟩
theorem Fix.mono {U V : Nat → Prop} {w w' : World} (h : Fix U w w') (hU : ∀ k, V k → U k) : Fix V w w' :=
  ⟨h.os, h.tape, h.output, h.size, fun k hk => h.block k (hU k hk)⟩
theorem Fix.drew {U : Nat → Prop} {a w : World} (h : Fix U a w) : Fix U a w.drew := ⟨h.os, h.tape, h.output, h.size, h.block⟩
theorem Fix.drewN {U : Nat → Prop} {a w : World} (h : Fix U a w) (n : Nat) : Fix U a (w.drewN n) := ⟨h.os, h.tape, h.output, h.size, h.block⟩
theorem Fix.alloc {U : Nat → Prop} {a w : World} (h : Fix U a w) (hU : ∀ k, U k → k < w.heap.size) (o : Obj) : Fix U a (w.alloc o) :=
  h.trans ⟨rfl, rfl, rfl, by simp, fun k hk => Below.heap_alloc _ _ _ (hU k hk)⟩
theorem Fix.setCell {U : Nat → Prop} {a w : World} (h : Fix U a w) {p : Addr} (hp : ¬ U p.block) (u : Value) : Fix U a (w.setCell p u) :=
  h.trans ⟨rfl, rfl, rfl, by simp [World.setCell], fun k hk => Below.heap_setCell _ _ _ _ (fun e => hp (e ▸ hk))⟩
theorem Fix.below {w w' : World} {B : Nat} (h : Fix (fun b => b < B) w w') : Below B w w' := ⟨h.os, h.tape, h.output, h.size, h.block⟩
theorem Fix.cell {U : Nat → Prop} {w w' : World} (h : Fix U w w') {p : Addr} (hp : U p.block) : w'.cell? p = w.cell? p := World.cell?_of_block (w := w) (h.block p.block hp)
theorem Fix.frozen {U : Nat → Prop} {w w' : World} (h : Fix U w w') {p : Addr} (hp : U p.block) : w'.frozen? p = w.frozen? p := World.frozen?_of_block (w := w) (h.block p.block hp)

/-- the slice at address a shows the numbers xs of kind k; its cells lie in a block of U -/
def View (U : Nat → Prop) (w : World) (k : IntKind) (a : Option Addr) (xs : List Int) : Prop :=
  xs = [] ∨ ∃ b off, U b ∧ a = some ⟨b, off, none⟩ ∧ ∀ i, i < xs.length → w.cell? ⟨b, off + i, none⟩ = some (.int k (nth xs i))

theorem View.fix {U : Nat → Prop} {w w' : World} {k : IntKind} {a : Option Addr} {xs : List Int} (h : View U w k a xs) (hf : Fix U w w') : View U w' k a xs := by
  rcases h with h | ⟨b, off, hb, ha, hc⟩
  · exact .inl h
  · exact .inr ⟨b, off, hb, ha, fun i hi => (hf.cell (p := ⟨b, off + i, none⟩) hb).trans (hc i hi)⟩

theorem View.at {U : Nat → Prop} {w : World} {k : IntKind} {a : Option Addr} {xs : List Int} (h : View U w k a xs) (h0 : 0 < xs.length) :
    ∃ b off, U b ∧ a = some ⟨b, off, none⟩ ∧ ∀ i, i < xs.length → w.cell? ⟨b, off + i, none⟩ = some (.int k (nth xs i)) := by
  rcases h with h | h
  · subst h; simp at h0
  · exact h

theorem nth_set (xs : List Int) (i : Nat) (v : Int) (j : Nat) (hi : i < xs.length) : nth (xs.set i v) j = if j = i then v else nth xs j := by
  unfold nth
  rw [List.getD_eq_getElem?_getD, List.getD_eq_getElem?_getD, List.getElem?_set]
  by_cases h : i = j
  · subst h; simp [hi]
  · rw [if_neg h, if_neg (fun e => h e.symm)]

theorem nth_ext {xs ys : List Int} (hl : xs.length = ys.length) (h : ∀ i, i < xs.length → nth xs i = nth ys i) : xs = ys := by
  apply List.ext_getElem hl
  intro i h1 h2
  have := h i h1
  simpa [nth, h1, h2] using this

/-- block b is a row of the cells vs, of type t, none frozen -/
def Row (w : World) (b : Nat) (t : TypeId) (vs : List Value) : Prop := w.heap[b]? = some (.cells vs.toArray t (0, 0))

theorem Row.lt {w : World} {b : Nat} {t : TypeId} {vs : List Value} (h : Row w b t vs) : b < w.heap.size := (Array.getElem?_eq_some_iff.1 h).1
theorem Row.fix {U : Nat → Prop} {w w' : World} {b : Nat} {t : TypeId} {vs : List Value} (h : Row w b t vs) (hf : Fix U w w') (hb : U b) : Row w' b t vs := (hf.block b hb).trans h
theorem Row.cell {w : World} {b : Nat} {t : TypeId} {vs : List Value} (h : Row w b t vs) (i : Nat) : w.cell? ⟨b, i, none⟩ = vs[i]? := by
  unfold Row at h
  simp [World.cell?, h]
theorem Row.frozen {w : World} {b : Nat} {t : TypeId} {vs : List Value} (h : Row w b t vs) (i : Nat) : w.frozen? ⟨b, i, none⟩ = false := by
  unfold Row at h
  simp [World.frozen?, h]
theorem Row.set {w : World} {b : Nat} {t : TypeId} {vs : List Value} (h : Row w b t vs) (i : Nat) (v : Value) : Row (w.setCell ⟨b, i, none⟩ v) b t (vs.set i v) := by
  unfold Row at h ⊢
  simp [World.setCell, Array.getElem?_modify, h]
theorem Row.drew {w : World} {b : Nat} {t : TypeId} {vs : List Value} (h : Row w b t vs) : Row w.drew b t vs := h
theorem Row.drewN {w : World} {b : Nat} {t : TypeId} {vs : List Value} (h : Row w b t vs) (n : Nat) : Row (w.drewN n) b t vs := h
theorem Row.alloc {w : World} {b : Nat} {t : TypeId} {vs : List Value} (h : Row w b t vs) (o : Obj) : Row (w.alloc o) b t vs := (Below.heap_alloc w o b h.lt).trans h
theorem Row.setOther {w : World} {b : Nat} {t : TypeId} {vs : List Value} (h : Row w b t vs) {p : Addr} (hp : b ≠ p.block) (v : Value) : Row (w.setCell p v) b t vs := (Below.heap_setCell w p v b hp).trans h

/-- a row of integers -/
def IRow (w : World) (b : Nat) (t : TypeId) (k : IntKind) (xs : List Int) : Prop := Row w b t (xs.map (Value.int k))
theorem IRow.cell {w : World} {b : Nat} {t : TypeId} {k : IntKind} {xs : List Int} (h : IRow w b t k xs) (i : Nat) (hi : i < xs.length) : w.cell? ⟨b, i, none⟩ = some (.int k (nth xs i)) := by
  rw [Row.cell h i]
  simp [nth, hi]
theorem IRow.frozen {w : World} {b : Nat} {t : TypeId} {k : IntKind} {xs : List Int} (h : IRow w b t k xs) (i : Nat) : w.frozen? ⟨b, i, none⟩ = false := Row.frozen h i
theorem IRow.set {w : World} {b : Nat} {t : TypeId} {k : IntKind} {xs : List Int} (h : IRow w b t k xs) (i : Nat) (v : Int) : IRow (w.setCell ⟨b, i, none⟩ (.int k v)) b t k (xs.set i v) := by
  have := Row.set h i (.int k v)
  unfold IRow
  rwa [List.map_set]
theorem IRow.made (w : World) (n : Nat) (t : TypeId) (k : IntKind) : IRow (w.alloc (.cells (madeCells #[.int k 0] n) t)) w.heap.size t k (List.replicate n 0) := by
  unfold IRow Row
  rw [heap_alloc_new]
  simp [madeCells, Nat.mod_one]
  apply Array.ext <;> simp
theorem IRow.view {U : Nat → Prop} {w : World} {b : Nat} {t : TypeId} {k : IntKind} {xs : List Int} (h : IRow w b t k xs) (hb : U b) : View U w k (some ⟨b, 0, none⟩) xs :=
  .inr ⟨b, 0, hb, rfl, fun i hi => by rw [Nat.zero_add]; exact h.cell i hi⟩

theorem View.weaken {U V : Nat → Prop} {w : World} {k : IntKind} {a : Option Addr} {xs : List Int} (h : View U w k a xs) (hUV : ∀ b, U b → V b) : View V w k a xs := by
  rcases h with h | ⟨b, off, hb, ha, hc⟩
  · exact .inl h
  · exact .inr ⟨b, off, hUV b hb, ha, hc⟩

/-- a slice over a new row (block B or above) that holds the numbers xs; or there are none -/
def OwnI (B : Nat) (w : World) (t : TypeId) (k : IntKind) (a : Option Addr) (xs : List Int) : Prop :=
  xs = [] ∨ ∃ nb, B ≤ nb ∧ a = some ⟨nb, 0, none⟩ ∧ IRow w nb t k xs

theorem OwnI.view {B : Nat} {w : World} {t : TypeId} {k : IntKind} {a : Option Addr} {xs : List Int} (h : OwnI B w t k a xs) (U : Nat → Prop) (hU : ∀ b, B ≤ b → b < w.heap.size → U b) : View U w k a xs := by
  rcases h with h | ⟨nb, hb, rfl, hr⟩
  · exact .inl h
  · exact hr.view (hU nb hb hr.lt)

/-! ### Bools -/
/-- the i-th bool of a list (false beyond its end) -/
def nthB (xs : List Bool) (i : Nat) : Bool := xs.getD i false

theorem nthB_set (xs : List Bool) (i : Nat) (v : Bool) (j : Nat) (hi : i < xs.length) : nthB (xs.set i v) j = if j = i then v else nthB xs j := by
  unfold nthB
  rw [List.getD_eq_getElem?_getD, List.getD_eq_getElem?_getD, List.getElem?_set]
  by_cases h : i = j
  · subst h; simp [hi]
  · rw [if_neg h, if_neg (fun e => h e.symm)]

theorem nthB_ext {xs ys : List Bool} (hl : xs.length = ys.length) (h : ∀ i, i < xs.length → nthB xs i = nthB ys i) : xs = ys := by
  apply List.ext_getElem hl
  intro i h1 h2
  have := h i h1
  simpa [nthB, h1, h2] using this

def ViewB (U : Nat → Prop) (w : World) (a : Option Addr) (xs : List Bool) : Prop :=
  xs = [] ∨ ∃ b off, U b ∧ a = some ⟨b, off, none⟩ ∧ ∀ i, i < xs.length → w.cell? ⟨b, off + i, none⟩ = some (.bool (nthB xs i))

theorem ViewB.fix {U : Nat → Prop} {w w' : World} {a : Option Addr} {xs : List Bool} (h : ViewB U w a xs) (hf : Fix U w w') : ViewB U w' a xs := by
  rcases h with h | ⟨b, off, hb, ha, hc⟩
  · exact .inl h
  · exact .inr ⟨b, off, hb, ha, fun i hi => (hf.cell (p := ⟨b, off + i, none⟩) hb).trans (hc i hi)⟩

theorem ViewB.at {U : Nat → Prop} {w : World} {a : Option Addr} {xs : List Bool} (h : ViewB U w a xs) (h0 : 0 < xs.length) :
    ∃ b off, U b ∧ a = some ⟨b, off, none⟩ ∧ ∀ i, i < xs.length → w.cell? ⟨b, off + i, none⟩ = some (.bool (nthB xs i)) := by
  rcases h with h | h
  · subst h; simp at h0
  · exact h

/-- a row of bools (type 4) -/
def BRow (w : World) (b : Nat) (xs : List Bool) : Prop := Row w b 4 (xs.map Value.bool)
theorem BRow.cell {w : World} {b : Nat} {xs : List Bool} (h : BRow w b xs) (i : Nat) (hi : i < xs.length) : w.cell? ⟨b, i, none⟩ = some (.bool (nthB xs i)) := by
  rw [Row.cell h i]
  simp [nthB, hi]
theorem BRow.frozen {w : World} {b : Nat} {xs : List Bool} (h : BRow w b xs) (i : Nat) : w.frozen? ⟨b, i, none⟩ = false := Row.frozen h i
theorem BRow.set {w : World} {b : Nat} {xs : List Bool} (h : BRow w b xs) (i : Nat) (v : Bool) : BRow (w.setCell ⟨b, i, none⟩ (.bool v)) b (xs.set i v) := by
  have := Row.set h i (.bool v)
  unfold BRow
  rwa [List.map_set]
theorem BRow.made (w : World) (n : Nat) : BRow (w.alloc (.cells (madeCells #[.bool false] n) 4)) w.heap.size (List.replicate n false) := by
  unfold BRow Row
  rw [heap_alloc_new]
  simp [madeCells, Nat.mod_one]
  apply Array.ext <;> simp
theorem BRow.view {U : Nat → Prop} {w : World} {b : Nat} {xs : List Bool} (h : BRow w b xs) (hb : U b) : ViewB U w (some ⟨b, 0, none⟩) xs :=
  .inr ⟨b, 0, hb, rfl, fun i hi => by rw [Nat.zero_add]; exact h.cell i hi⟩

def OwnB (B : Nat) (w : World) (a : Option Addr) (xs : List Bool) : Prop :=
  xs = [] ∨ ∃ nb, B ≤ nb ∧ a = some ⟨nb, 0, none⟩ ∧ BRow w nb xs
theorem OwnB.view {B : Nat} {w : World} {a : Option Addr} {xs : List Bool} (h : OwnB B w a xs) (U : Nat → Prop) (hU : ∀ b, B ≤ b → b < w.heap.size → U b) : ViewB U w a xs := by
  rcases h with h | ⟨nb, hb, rfl, hr⟩
  · exact .inl h
  · exact hr.view (hU nb hb hr.lt)

/-- a test answers b; 'true' says P; the blocks of U are as they were -/
def Ans (P : Prop) (U : Nat → Prop) (w : World) (e : Ending) (w' : World) : Prop := ∃ b : Bool, e = .returned (.bool b) ∧ (b = true → P) ∧ Fix U w w'
theorem Ans.no {P : Prop} {U : Nat → Prop} {w w' : World} (h : Fix U w w') : Ans P U w (.returned (.bool false)) w' := ⟨false, rfl, (fun h => by cases h), h⟩
theorem Ans.yes {P : Prop} {U : Nat → Prop} {w w' : World} (p : P) (h : Fix U w w') : Ans P U w (.returned (.bool true)) w' := ⟨true, rfl, fun _ => p, h⟩

/-- each number fits an int32 -/
def Wf32 (xs : List Int) : Prop := ∀ i, -2147483648 ≤ nth xs i ∧ nth xs i ≤ 2147483647

end Go.Proofs.Qxb6603870aDoor
