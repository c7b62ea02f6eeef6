import Derived.Test.Qxb6605187aPickMem2
namespace Go.Proofs.Qxb6605187a
open Go.RowKit
set_option linter.unusedVariables false

/-- the state at the head of level k -/
structure Lvl (S A : List Int) (R : PS) (n K : Nat) (U : Nat → Prop) (w : World) (ub bb base pb count k : Nat) (bvs : List Value) (s : PS) (wr : World) : Prop where
  mem : PMem U w ub bb base pb count bvs s wr
  res : plevels S A count k s = R
  nd : s.done = false
  short : s.picked.length < count
  inv : PInv n K (k + 1) 0 s

/-- the state inside level k, j entries of its list L looked at -/
structure Inn (S A : List Int) (R : PS) (n K : Nat) (U : Nat → Prop) (w : World) (ub bb base pb count k : Nat) (L : List Int) (hv : Value) (j : Nat) (bvs : List Value) (s : PS) (wr : World) : Prop where
  mem : PMem U w ub bb base pb count bvs s wr
  res : plevels S A count (k - 1) (plist S A count k (L.drop j) s) = R
  nd : s.done = false
  short : s.picked.length < count
  inv : PInv n K k (L.length - j) s
  lst : bAt s.B k = L
  hdr : bvAt bvs k = hv

theorem Lvl.inn {S A : List Int} {R : PS} {n K : Nat} {U : Nat → Prop} {w : World} {ub bb base pb count k : Nat} {bvs : List Value} {s : PS} {wr : World} (h : Lvl S A R n K U w ub bb base pb count k bvs s wr) (hk : 0 < k) :
    Inn S A R n K U w ub bb base pb count k (bAt s.B k) (bvAt bvs k) 0 bvs s wr := by
  obtain ⟨k, rfl⟩ : ∃ k', k = k' + 1 := ⟨k - 1, by omega⟩
  refine ⟨h.mem, h.res, h.nd, h.short, ⟨h.inv.cl, h.inv.bl, ?_, h.inv.rng⟩, rfl, rfl⟩
  have := h.inv.sum
  simp only [lowSum] at this
  simp only [lowSum]
  omega

theorem Inn.lvl {S A : List Int} {R : PS} {n K : Nat} {U : Nat → Prop} {w : World} {ub bb base pb count k : Nat} {L : List Int} {hv : Value} {j : Nat} {bvs : List Value} {s : PS} {wr : World} (h : Inn S A R n K U w ub bb base pb count k L hv j bvs s wr) (hk : 0 < k) (hj : L.length ≤ j) :
    Lvl S A R n K U w ub bb base pb count (k - 1) bvs s wr := by
  have hr := h.res
  rw [List.drop_of_length_le hj] at hr
  have e : k - 1 + 1 = k := by omega
  refine ⟨h.mem, hr, h.nd, h.short, ⟨h.inv.cl, h.inv.bl, ?_, h.inv.rng⟩⟩
  have := h.inv.sum
  rw [e]
  omega

/-- the next state inside the level -/
theorem Inn.next {S A : List Int} {R : PS} {n K : Nat} {U : Nat → Prop} {w : World} {ub bb base pb count k : Nat} {L : List Int} {hv : Value} {j : Nat} {bvs bvs' : List Value} {s s' : PS} {wr wr' : World}
    (h : Inn S A R n K U w ub bb base pb count k L hv j bvs s wr) (hj : j < L.length) (hkK : k ≤ K) (hx : 0 ≤ nth L j ∧ nth L j < n) (hs' : pstep S A count k s (nth L j) = s') (hm : PMem U w ub bb base pb count bvs' s' wr') (hnd : s'.done = false) (hh : bvAt bvs' k = hv) :
    Inn S A R n K U w ub bb base pb count k L hv (j + 1) bvs' s' wr' := by
  have hd : L.drop j = nth L j :: L.drop (j + 1) := by
    rw [List.drop_eq_getElem_cons hj]
    simp [nth, hj]
  have hr := h.res
  rw [hd] at hr
  have e2 : plist S A count k (nth L j :: L.drop (j + 1)) s = plist S A count k (L.drop (j + 1)) s' := by
    rw [← hs']; rfl
  rw [e2] at hr
  have hinv : PInv n K k (L.length - (j + 1)) s' := by
    rw [← hs']
    apply PInv.step _ hkK hx
    have e : L.length - (j + 1) + 1 = L.length - j := by omega
    rw [e]
    exact h.inv
  have hl : bAt s'.B k = L := by rw [← hs', pstep_keeps _ _ _ (Nat.le_refl _)]; exact h.lst
  have hsh : s'.picked.length < count := by
    have := pstep_short (S := S) (A := A) (k := k) (x := nth L j) h.short
    rw [hs'] at this
    exact this hnd
  exact ⟨hm, hr, hnd, hsh, hinv, hl, hh⟩

/-- the pick that reaches count ends all -/
theorem Inn.last {S A : List Int} {R : PS} {n K : Nat} {U : Nat → Prop} {w : World} {ub bb base pb count k : Nat} {L : List Int} {hv : Value} {j : Nat} {bvs : List Value} {s s' : PS} {wr : World}
    (h : Inn S A R n K U w ub bb base pb count k L hv j bvs s wr) (hj : j < L.length) (hs' : pstep S A count k s (nth L j) = s') (hd' : s'.done = true) : R = s' := by
  have hd : L.drop j = nth L j :: L.drop (j + 1) := by
    rw [List.drop_eq_getElem_cons hj]
    simp [nth, hj]
  have hr := h.res
  rw [hd] at hr
  have e2 : plist S A count k (nth L j :: L.drop (j + 1)) s = plist S A count k (L.drop (j + 1)) s' := by
    rw [← hs']; rfl
  rw [e2, plist_done _ hd', plevels_done _ hd'] at hr
  exact hr.symm

theorem Inn.range {S A : List Int} {R : PS} {n K : Nat} {U : Nat → Prop} {w : World} {ub bb base pb count k : Nat} {L : List Int} {hv : Value} {j : Nat} {bvs : List Value} {s : PS} {wr : World}
    (h : Inn S A R n K U w ub bb base pb count k L hv j bvs s wr) (hj : j < L.length) : 0 ≤ nth L j ∧ nth L j < n := by
  apply h.inv.rng k
  rw [h.lst]
  have e : nth L j = L[j] := by simp [nth, hj]
  rw [e]
  exact List.getElem_mem hj

theorem Inn.drewN {S A : List Int} {R : PS} {n K : Nat} {U : Nat → Prop} {w : World} {ub bb base pb count k : Nat} {L : List Int} {hv : Value} {j : Nat} {bvs : List Value} {s : PS} {wr : World} (h : Inn S A R n K U w ub bb base pb count k L hv j bvs s wr) (m : Nat) :
    Inn S A R n K U w ub bb base pb count k L hv j bvs s (wr.drewN m) := ⟨h.mem.drewN m, h.res, h.nd, h.short, h.inv, h.lst, h.hdr⟩

/-- the cell of the level's list -/
theorem Inn.cell {S A : List Int} {R : PS} {n K : Nat} {U : Nat → Prop} {w : World} {ub bb base pb count k : Nat} {L : List Int} {av : Option Addr} {l cv : Nat} {j : Nat} {bvs : List Value} {s : PS} {wr : World}
    (h : Inn S A R n K U w ub bb base pb count k L (.slice av l cv) j bvs s wr) (hkK : k ≤ K) (hj : j < L.length) : ∃ g, av = some ⟨g, 0, none⟩ ∧ wr.cell? ⟨g, j, none⟩ = some (.int .i32 (nth L j)) := by
  have hown := h.mem.bk.own k (by have := h.inv.bl; omega)
  rw [h.lst] at hown
  obtain ⟨a, cap, e, hc⟩ := owns_form hown
  rw [h.hdr] at e
  injection e with e1 e2 e3
  rcases hc with hc | ⟨g, hg, _, hcell⟩
  · rw [hc] at hj; simp at hj
  · exact ⟨g, e1.trans hg, hcell j hj⟩

/-- what the end hands back -/
theorem PMem.view {U : Nat → Prop} {w : World} {ub bb base pb count : Nat} {bvs : List Value} {s : PS} {wr : World} (h : PMem U w ub bb base pb count bvs s wr) : View (fun b => w.heap.size ≤ b) wr .i32 (some ⟨pb, 0, none⟩) s.picked := by
  obtain ⟨a, cap, e, hc⟩ := owns_form h.pick
  injection e with e1 e2 e3
  rcases hc with hc | ⟨g, hg, hb, hcell⟩
  · exact .inl hc
  · right
    rw [← e1] at hg
    injection hg with hg
    injection hg with hg
    subst hg
    have := h.h2
    have := h.h3
    exact ⟨pb, 0, by omega, rfl, fun i hi => by rw [Nat.zero_add]; exact hcell i hi⟩

end Go.Proofs.Qxb6605187a
