import Derived.Test.Qxb6605187aPickMem
import Derived.Test.Qxb6605187aPickInv
namespace Go.Proofs.Qxb6605187a
open Go.RowKit
set_option linter.unusedVariables false

theorem Bk.reX {base : Nat} {w : World} {bb : Nat} {bvs : List Value} {bs : List (List Int)} {X : Nat → Prop} (h : Bk base w bb bvs bs X) (Y : Nat → Prop) (hY : ∀ g, g < w.heap.size → ¬ Y g) : Bk base w bb bvs bs Y :=
  ⟨h.row, h.len, h.own, h.apart, fun j hj g e => hY g ((h.own j hj).lt g e).2⟩

/-- the header's cell is still there behind an append to bucket h -/
theorem Bk.grown {base : Nat} {w w1 : World} {bb : Nat} {bvs : List Value} {bs : List (List Int)} {X : Nat → Prop} (hB : Bk base w bb bvs bs X) (h : Nat) (hh : h < bs.length) (hbb : bb < base)
    (hgrow : w.grownBy w1 (bvAt bvs h).ownBlock) : w1.cell? ⟨bb, h, none⟩ = some (bvAt bvs h) ∧ w1.frozen? ⟨bb, h, none⟩ = false := by
  have hbbo : (bvAt bvs h).ownBlock ≠ some bb := fun e => by have := (hB.own h hh).lt bb e; omega
  have e := hgrow.block bb hB.row.lt (fun e => hbbo e.symm)
  exact ⟨(World.cell?_of_block (a := ⟨bb, h, none⟩) e).trans (hB.cell h hh), (World.frozen?_of_block (a := ⟨bb, h, none⟩) e).trans (hB.row.frozen h)⟩

theorem grown_fix {U : Nat → Prop} {w wr w1 : World} {row : Option Nat} (hf : Fix U w wr) (hg : wr.grownBy w1 row) (hU : ∀ k, U k → k < wr.heap.size ∧ some k ≠ row) : Fix U w w1 :=
  hf.trans ⟨hg.os, hg.tape, hg.output, hg.size, fun k hk => hg.block k (hU k hk).1 (hU k hk).2⟩

/-- the memory of pickSources in the state s -/
structure PMem (U : Nat → Prop) (w : World) (ub bb base pb count : Nat) (bvs : List Value) (s : PS) (wr : World) : Prop where
  bk : Bk base wr bb bvs s.B (fun g => g = pb)
  cov : BRow wr ub s.cov
  pick : wr.ownsRow base 21 1 (.slice (some ⟨pb, 0, none⟩) s.picked.length count) s.picked.length (s.picked.map (Value.int .i32))
  fix : Fix U w wr
  h1 : ub < w.heap.size
  h2 : w.heap.size ≤ bb
  h3 : bb < base
  h4 : base ≤ pb
  h5 : pb < wr.heap.size
  h6 : ∀ b, U b → b < w.heap.size ∧ b ≠ ub

theorem PMem.drewN {U : Nat → Prop} {w : World} {ub bb base pb count : Nat} {bvs : List Value} {s : PS} {wr : World} (h : PMem U w ub bb base pb count bvs s wr) (n : Nat) : PMem U w ub bb base pb count bvs s (wr.drewN n) :=
  ⟨h.bk.keep (fun _ _ _ => rfl), h.cov.drewN n, ownsRow_block h.pick (fun _ _ => rfl), h.fix.drewN n, h.h1, h.h2, h.h3, h.h4, h.h5, h.h6⟩

theorem PMem.clear {U : Nat → Prop} {w : World} {ub bb base pb count : Nat} {bvs : List Value} {s : PS} {wr : World} (h : PMem U w ub bb base pb count bvs s wr) (i : Nat) :
    PMem U w ub bb base pb count bvs { s with cov := s.cov.set i false } (wr.setCell ⟨ub, i, none⟩ (.bool false)) := by
  have := h.h1
  have := h.h2
  have := h.h3
  have hs : ∀ g, g ≠ ub → (wr.setCell ⟨ub, i, none⟩ (.bool false)).heap[g]? = wr.heap[g]? := fun g hg => Below.heap_setCell _ _ _ _ hg
  refine ⟨h.bk.keep (fun g hg _ => hs g (by omega)), h.cov.set i false, ?_, h.fix.setCell (fun hu => (h.h6 _ hu).2 rfl) _, h.h1, h.h2, h.h3, h.h4, by simpa [World.setCell] using h.h5, h.h6⟩
  exact ownsRow_block h.pick (fun g hg => hs g (by have := (h.pick.lt g hg).1; omega))

theorem PMem.alloc {U : Nat → Prop} {w : World} {ub bb base pb count : Nat} {bvs : List Value} {s : PS} {wr : World} (h : PMem U w ub bb base pb count bvs s wr) (o : Obj) : PMem U w ub bb base pb count bvs s (wr.alloc o) := by
  have hs : ∀ g, g < wr.heap.size → (wr.alloc o).heap[g]? = wr.heap[g]? := fun g hg => Below.heap_alloc _ _ _ hg
  have := h.h5
  refine ⟨h.bk.keep (fun g _ hg => hs g hg), Row.alloc h.cov o, h.pick.alloc o, h.fix.alloc (fun k hk => by have := h.h6 k hk; have := h.fix.size; omega) o, h.h1, h.h2, h.h3, h.h4, ?_, h.h6⟩
  simp; omega

/-- a peer is moved to bucket h -/
theorem PMem.move {U : Nat → Prop} {w : World} {ub bb base pb count : Nat} {bvs : List Value} {s : PS} {wr w1 : World} (hM : PMem U w ub bb base pb count bvs s wr) (h : Nat) (hh : h < s.B.length) (x : Int) (g cap : Nat)
    (hown : w1.ownsRow base 21 1 (.slice (some ⟨g, 0, none⟩) ((bAt s.B h).length + 1) cap) ((bAt s.B h).length + 1) ((bAt s.B h).map (Value.int .i32) ++ [.int .i32 x]))
    (hgrow : wr.grownBy w1 (bvAt bvs h).ownBlock) (hat : (bvAt bvs h).ownBlock = some g ∨ g = wr.heap.size) :
    PMem U w ub bb base pb count (bvs.set h (.slice (some ⟨g, 0, none⟩) ((bAt s.B h).length + 1) cap)) { s with B := bput s.B h x } (w1.setCell ⟨bb, h, none⟩ (.slice (some ⟨g, 0, none⟩) ((bAt s.B h).length + 1) cap)) := by
  have h1 := hM.h1
  have h2 := hM.h2
  have h3 := hM.h3
  have h4 := hM.h4
  have h5 := hM.h5
  have hlt : ∀ k, (bvAt bvs h).ownBlock = some k → base ≤ k ∧ k ≠ pb := fun k e => ⟨((hM.bk.own h hh).lt k e).1, hM.bk.off h hh k e⟩
  have hs : ∀ k, k < wr.heap.size → (∀ k', (bvAt bvs h).ownBlock = some k' → k ≠ k') → k ≠ bb → (w1.setCell ⟨bb, h, none⟩ (.slice (some ⟨g, 0, none⟩) ((bAt s.B h).length + 1) cap)).heap[k]? = wr.heap[k]? := by
    intro k hk hne hbb
    rw [Below.heap_setCell _ _ _ _ hbb]
    exact hgrow.block k hk (fun e => hne k e.symm rfl)
  refine ⟨hM.bk.push h hh x g cap h3 (by omega) (by omega) hown hgrow hat, ?_, ?_, ?_, h1, h2, h3, h4, ?_, hM.h6⟩
  · refine (hs ub (by have := hM.fix.size; omega) (fun k' e => by have := hlt k' e; omega) (by omega)).trans hM.cov
  · refine ownsRow_block hM.pick (fun k hk => ?_)
    have hkp : k = pb := by simpa [Value.ownBlock] using hk.symm
    subst hkp
    exact hs k h5 (fun k' e => by have := hlt k' e; omega) (by omega)
  · refine ⟨?_, ?_, ?_, ?_, ?_⟩
    · exact hgrow.os.trans hM.fix.os
    · exact hgrow.tape.trans hM.fix.tape
    · exact hgrow.output.trans hM.fix.output
    · have := hgrow.size
      have := hM.fix.size
      simp only [World.setCell, Array.size_modify]
      omega
    · intro k hk
      have := hM.h6 k hk
      have := hM.fix.size
      exact (hs k (by omega) (fun k' e => by have := hlt k' e; omega) (by omega)).trans (hM.fix.block k hk)
  · have := hgrow.size
    simp only [World.setCell, Array.size_modify]
    omega

/-- a peer is picked -/
theorem PMem.picks {U : Nat → Prop} {w : World} {ub bb base pb count : Nat} {bvs : List Value} {s : PS} {wr w1 : World} (hM : PMem U w ub bb base pb count bvs s wr) (x : Int) (d : Bool)
    (hown : w1.ownsRow base 21 1 (.slice (some ⟨pb, 0, none⟩) (s.picked.length + 1) count) (s.picked.length + 1) (s.picked.map (Value.int .i32) ++ [.int .i32 x]))
    (hgrow : wr.grownBy w1 (some pb)) :
    PMem U w ub bb base pb count bvs { s with picked := s.picked ++ [x], done := d } w1 := by
  have h1 := hM.h1
  have h2 := hM.h2
  have h3 := hM.h3
  have h4 := hM.h4
  have h5 := hM.h5
  have hs : ∀ k, k < wr.heap.size → k ≠ pb → w1.heap[k]? = wr.heap[k]? := fun k hk hne => hgrow.block k hk (fun e => hne (Option.some.inj e))
  refine ⟨hM.bk.keep (fun g hg hlt => hs g hlt (by omega)), (hs ub (by have := hM.fix.size; omega) (by omega)).trans hM.cov, ?_, ?_, h1, h2, h3, h4, by have := hgrow.size; omega, hM.h6⟩
  · simpa [List.length_append, List.map_append] using hown
  · refine ⟨hgrow.os.trans hM.fix.os, hgrow.tape.trans hM.fix.tape, hgrow.output.trans hM.fix.output, by have := hgrow.size; have := hM.fix.size; omega, fun k hk => ?_⟩
    have := hM.h6 k hk
    have := hM.fix.size
    exact (hs k (by omega) (by omega)).trans (hM.fix.block k hk)

end Go.Proofs.Qxb6605187a
