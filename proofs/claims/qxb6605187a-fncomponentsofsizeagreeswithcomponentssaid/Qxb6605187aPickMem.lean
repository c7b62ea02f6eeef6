import Derived.Test.Qxb6605187aPick
import Derived.Deep.AppendLies
namespace Go.Proofs.Qxb6605187a
open Go.RowKit
set_option linter.unusedVariables false

def bvAt (bvs : List Value) (j : Nat) : Value := bvs.getD j (.slice none 0 0)
theorem bvAt_set (bvs : List Value) (h : Nat) (v : Value) (j : Nat) (hh : h < bvs.length) : bvAt (bvs.set h v) j = if j = h then v else bvAt bvs j := by
  unfold bvAt
  rw [List.getD_eq_getElem?_getD, List.getD_eq_getElem?_getD, List.getElem?_set]
  by_cases e : h = j
  · subst e; simp [hh]
  · rw [if_neg e, if_neg (fun e' => e e'.symm)]

/-- the buckets in memory: block bb holds their headers bvs; bucket j owns the numbers of the j-th list; no two share a block; none lies in X -/
structure Bk (base : Nat) (w : World) (bb : Nat) (bvs : List Value) (bs : List (List Int)) (X : Nat → Prop) : Prop where
  row : Row w bb 23 bvs
  len : bvs.length = bs.length
  own : ∀ j, j < bs.length → w.ownsRow base 21 1 (bvAt bvs j) (bAt bs j).length ((bAt bs j).map (Value.int .i32))
  apart : ∀ i j, i < bs.length → j < bs.length → i ≠ j → ∀ g, (bvAt bvs i).ownBlock = some g → (bvAt bvs j).ownBlock ≠ some g
  off : ∀ j, j < bs.length → ∀ g, (bvAt bvs j).ownBlock = some g → ¬ X g

theorem ownsRow_block {w w' : World} {base : Nat} {e : TypeId} {size : Nat} {v : Value} {n : Nat} {xs : List Value} (h : w.ownsRow base e size v n xs) (hs : ∀ g, v.ownBlock = some g → w'.heap[g]? = w.heap[g]?) : w'.ownsRow base e size v n xs := by
  refine ⟨h.1, ?_⟩
  rcases h.2 with hn | ⟨g, cap, cur, rfl, hb, hgg, rest⟩
  · exact .inl hn
  · exact .inr ⟨g, cap, cur, rfl, hb, (hs g rfl).trans hgg, rest⟩

theorem Bk.keep {base : Nat} {w w' : World} {bb : Nat} {bvs : List Value} {bs : List (List Int)} {X : Nat → Prop} (h : Bk base w bb bvs bs X)
    (hs : ∀ g, (g = bb ∨ (base ≤ g ∧ ¬ X g)) → g < w.heap.size → w'.heap[g]? = w.heap[g]?) : Bk base w' bb bvs bs X := by
  refine ⟨(hs bb (.inl rfl) h.row.lt).trans h.row, h.len, fun j hj => ?_, h.apart, h.off⟩
  refine ownsRow_block (h.own j hj) fun g hg => ?_
  have := (h.own j hj).lt g hg
  exact hs g (.inr ⟨this.1, h.off j hj g hg⟩) this.2

theorem Bk.cell {base : Nat} {w : World} {bb : Nat} {bvs : List Value} {bs : List (List Int)} {X : Nat → Prop} (h : Bk base w bb bvs bs X) (j : Nat) (hj : j < bs.length) : w.cell? ⟨bb, j, none⟩ = some (bvAt bvs j) := by
  have := h.len
  rw [h.row.cell j]
  simp [bvAt, this ▸ hj]

theorem owns_form {w : World} {base : Nat} {e : TypeId} {v : Value} {xs : List Int} {k : IntKind} (h : w.ownsRow base e 1 v xs.length (xs.map (Value.int k))) :
    ∃ a cap, v = .slice a xs.length cap ∧ (xs = [] ∨ ∃ g, a = some ⟨g, 0, none⟩ ∧ base ≤ g ∧ ∀ i, i < xs.length → w.cell? ⟨g, i, none⟩ = some (.int k (nth xs i))) := by
  rcases h.2 with ⟨rfl, hn⟩ | ⟨g, cap, cur, rfl, hb, hg, _, _, _, ht⟩
  · exact ⟨none, 0, by rw [hn], .inl (List.length_eq_zero_iff.1 hn)⟩
  · refine ⟨_, _, rfl, .inr ⟨g, rfl, hb, fun i hi => ?_⟩⟩
    have h1 : (cur.toList.take (xs.length * 1))[i]? = (xs.map (Value.int k))[i]? := by rw [ht]
    rw [List.getElem?_take, if_pos (by omega)] at h1
    simp only [World.cell?, hg, Option.isSome]
    simp [nth, hi] at h1 ⊢
    exact h1

theorem Bk.push {base : Nat} {w w1 : World} {bb : Nat} {bvs : List Value} {bs : List (List Int)} {X : Nat → Prop} (hB : Bk base w bb bvs bs X) (h : Nat) (hh : h < bs.length) (x : Int) (g cap : Nat)
    (hbb : bb < base) (hbase : base ≤ w.heap.size) (hX : ¬ X w.heap.size)
    (hown : w1.ownsRow base 21 1 (.slice (some ⟨g, 0, none⟩) ((bAt bs h).length + 1) cap) ((bAt bs h).length + 1) ((bAt bs h).map (Value.int .i32) ++ [.int .i32 x]))
    (hgrow : w.grownBy w1 (bvAt bvs h).ownBlock) (hat : (bvAt bvs h).ownBlock = some g ∨ g = w.heap.size) :
    Bk base (w1.setCell ⟨bb, h, none⟩ (.slice (some ⟨g, 0, none⟩) ((bAt bs h).length + 1) cap)) bb (bvs.set h (.slice (some ⟨g, 0, none⟩) ((bAt bs h).length + 1) cap)) (bput bs h x) X := by
  have hlen := hB.len
  have hhv : h < bvs.length := by omega
  have hbbo : (bvAt bvs h).ownBlock ≠ some bb := fun e => by have := (hB.own h hh).lt bb e; omega
  have hrow1 : Row w1 bb 23 bvs := (hgrow.block bb hB.row.lt (fun e => hbbo e.symm)).trans hB.row
  have hg1 : ∀ j, j < bs.length → j ≠ h → (bvAt bvs j).ownBlock ≠ some g := by
    intro j hj hne e
    rcases hat with e' | e'
    · exact hB.apart j h hj hh hne g e e'
    · have := (hB.own j hj).lt g e; omega
  have hkeep : ∀ j, j < bs.length → j ≠ h → w1.ownsRow base 21 1 (bvAt bvs j) (bAt bs j).length ((bAt bs j).map (Value.int .i32)) := by
    intro j hj hne
    refine (hB.own j hj).kept hgrow ?_
    cases e : (bvAt bvs j).ownBlock with
    | none => exact .inl rfl
    | some g' => exact .inr fun e' => hB.apart j h hj hh hne g' e e'.symm
  refine ⟨hrow1.set h _, by simp [bput_len, hlen], ?_, ?_, ?_⟩
  · intro j hj
    rw [bput_len] at hj
    rw [bvAt_set _ _ _ _ hhv]
    by_cases e : j = h
    · subst e
      rw [if_pos rfl, bput_same _ _ _ hh, List.length_append, List.map_append]
      exact ownsRow_setCell_below hown hbb _
    · rw [if_neg e, bput_other _ _ _ _ e]
      exact ownsRow_setCell_below (hkeep j hj e) hbb _
  · intro i j hi hj hne g' e
    rw [bput_len] at hi hj
    rw [bvAt_set _ _ _ _ hhv] at e ⊢
    by_cases e1 : i = h
    · subst e1
      rw [if_pos rfl] at e
      rw [if_neg (fun e => hne e.symm)]
      simp [Value.ownBlock] at e
      subst e
      exact hg1 j hj (fun e => hne e.symm)
    · rw [if_neg e1] at e
      by_cases e2 : j = h
      · subst e2
        rw [if_pos rfl]
        intro e3
        simp [Value.ownBlock] at e3
        subst e3
        exact hg1 i hi e1 e
      · rw [if_neg e2]
        exact hB.apart i j hi hj hne g' e
  · intro j hj g' e
    rw [bput_len] at hj
    rw [bvAt_set _ _ _ _ hhv] at e
    by_cases e1 : j = h
    · subst e1
      rw [if_pos rfl] at e
      simp [Value.ownBlock] at e
      subst e
      rcases hat with e' | e'
      · exact hB.off j hj g e'
      · rw [e']; exact hX
    · rw [if_neg e1] at e
      exact hB.off j hj g' e

theorem Bk.made (w : World) (n : Nat) (X : Nat → Prop) (base : Nat) : Bk base (w.alloc (.cells (madeCells #[.slice none 0 0] n) 23)) w.heap.size (List.replicate n (.slice none 0 0)) (List.replicate n []) X := by
  have hbv : ∀ j, bvAt (List.replicate n (Value.slice none 0 0)) j = .slice none 0 0 := by
    intro j
    unfold bvAt
    rw [List.getD_eq_getElem?_getD, List.getElem?_replicate]
    split <;> rfl
  have hbs : ∀ j, bAt (List.replicate n ([] : List Int)) j = [] := by
    intro j
    unfold bAt
    rw [List.getD_eq_getElem?_getD, List.getElem?_replicate]
    split <;> rfl
  refine ⟨?_, by simp, ?_, ?_, ?_⟩
  · unfold Row
    rw [heap_alloc_new]
    simp [madeCells, Nat.mod_one]
    apply Array.ext <;> simp
  · intro j hj
    rw [hbv, hbs]
    exact World.ownsRow_nil _ _ _ _
  · intro i j _ _ _ g e
    rw [hbv] at e
    simp [Value.ownBlock] at e
  · intro j _ g e
    rw [hbv] at e
    simp [Value.ownBlock] at e

end Go.Proofs.Qxb6605187a
