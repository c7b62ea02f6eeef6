import Derived.Test.Qxb6605187aReg
namespace Go.Proofs.Qxb6605187a
open Go.RowKit
set_option linter.unusedVariables false
set_option linter.unusedSimpArgs false

/-- the cells that the statement reads -/
def T14 (pb c g sb k cap rb v q : Nat) (x : Int) (w : World) : Prop :=
  w.cell? ⟨pb, c, none⟩ = some (.pointer (some ⟨g, 0, none⟩)) ∧ w.cell? ⟨g, 0, none⟩ = some (.slice (some ⟨sb, 0, none⟩) k cap) ∧ w.cell? ⟨rb, v, none⟩ = some (.int .i32 q) ∧ w.cell? ⟨sb, q, none⟩ = some (.int .i64 x)
theorem T14.alloc {pb c g sb k cap rb v q : Nat} {x : Int} {w : World} (h : T14 pb c g sb k cap rb v q x w) (o : Obj) : T14 pb c g sb k cap rb v q x (w.alloc o) := ⟨cell_alloc h.1, cell_alloc h.2.1, cell_alloc h.2.2.1, cell_alloc h.2.2.2⟩
theorem T14.drewN {pb c g sb k cap rb v q : Nat} {x : Int} {w : World} (h : T14 pb c g sb k cap rb v q x w) (m : Nat) : T14 pb c g sb k cap rb v q x (w.drewN m) := h
theorem T14.set {pb c g sb k cap rb v q : Nat} {x : Int} {w : World} (h : T14 pb c g sb k cap rb v q x w) (h1 : pb ≠ sb) (h2 : g ≠ sb) (h3 : rb ≠ sb) (hq : q < k) (u : Value) : T14 pb c g sb k cap rb v q x (w.setCell ⟨sb, k, none⟩ u) := by
  refine ⟨cell_set_ne h1 h.1, cell_set_ne h2 h.2.1, cell_set_ne h3 h.2.2.1, ?_⟩
  have := World.cell?_setCells_out sb [u] k w ⟨sb, q, none⟩ (fun _ _ => .inl hq)
  exact (show (w.setCell ⟨sb, k, none⟩ u).cell? ⟨sb, q, none⟩ = w.cell? ⟨sb, q, none⟩ from this).trans h.2.2.2

set_option maxHeartbeats 4000000 in
/-- 'sub[c].start = append(sub[c].start, sub[c].start[rank[v]]+len(g.Neighbours(v)))', in whatever order -/
theorem reg14 (U : Nat → Prop) (S A : List Int) (gb pb m g c sb k cap rb n v q : Nat) (x : Int) (Q : Exit → Act → World → Prop) (hQ : ∀ c a d v w, Q (.panic c) (Act.put a d v) w → Q (.panic c) a w) (a : Act) (w : World)
    (hsz : a.tmps.size = 170) (e0 : a.eval (.tmp 0) = .pointer (some ⟨gb, 0, none⟩)) (e7 : a.eval (.tmp 7) = .slice (some ⟨rb, 0, none⟩) n n) (e8 : a.eval (.tmp 8) = .slice (some ⟨pb, 0, none⟩) m m) (e10 : a.eval (.tmp 10) = .int .i64 v) (e11 : a.eval (.tmp 11) = .int .i64 c)
    (hG : Graph U w gb S A) (hvS : v + 1 < S.length) (hc : c < m) (hv : v < n) (hq : q < k) (hT0 : T14 pb c g sb k cap rb v q x w) (h1 : pb ≠ sb) (h2 : g ≠ sb) (h3 : rb ≠ sb) (hgf : w.frozen? ⟨g, 0, none⟩ = false)
    (hx0 : 0 ≤ x) (hx1 : x ≤ 1000000) (hroom : k + 1 ≤ cap) (old : Value) (hsp : w.cell? ⟨sb, k, none⟩ = some old) (hsf : w.frozen? ⟨sb, k, none⟩ = false)
    (hfin : ∀ n4 a4 c4, Q .normal (((((((((((((((((((((((((((((((((a.put (some 75) (.slice (some ⟨pb, 0, none⟩) m m)).put (some 76) (.int .i64 c)).put (some 77) (.pointer (some ⟨pb, c, none⟩))).put (some 78) (.pointer (some ⟨g, 0, none⟩))).put (some 79) (.slice (some ⟨pb, 0, none⟩) m m)).put (some 80) (.int .i64 c)).put (some 81) (.pointer (some ⟨pb, c, none⟩))).put (some 82) (.pointer (some ⟨g, 0, none⟩))).put (some 83) (.pointer (some ⟨g, 0, none⟩))).put (some 84) (.pointer (some ⟨g, 0, none⟩))).put (some 85) (.slice (some ⟨sb, 0, none⟩) k cap)).put (some 86) (.slice (some ⟨pb, 0, none⟩) m m)).put (some 87) (.int .i64 c)).put (some 88) (.pointer (some ⟨pb, c, none⟩))).put (some 89) (.pointer (some ⟨g, 0, none⟩))).put (some 90) (.pointer (some ⟨g, 0, none⟩))).put (some 91) (.pointer (some ⟨g, 0, none⟩))).put (some 92) (.slice (some ⟨sb, 0, none⟩) k cap)).put (some 93) (.slice (some ⟨rb, 0, none⟩) n n)).put (some 94) (.int .i64 v)).put (some 95) (.pointer (some ⟨rb, v, none⟩))).put (some 96) (.int .i32 q)).put (some 97) (.pointer (some ⟨sb, q, none⟩))).put (some 98) (.int .i64 x)).put (some 99) (.pointer (some ⟨gb, 0, none⟩))).put (some 100) (.int .i64 v)).put (some 101) (.slice a4 (nbr S A v).length c4)).put (some 102) (.int .i64 (nbr S A v).length)).put (some 103) (.int .i64 (x + (nbr S A v).length))).put (some 104) (.slice (some ⟨(w.drew.drewN n4).heap.size, 0, none⟩) 1 1)).put (some 105) (.slice (some ⟨sb, 0, none⟩) (k + 1) cap)).put (some 106) (.pointer (some ⟨g, 0, none⟩))).put (some 107) (.pointer (some ⟨g, 0, none⟩)))
      ((((w.drew.drewN n4).alloc (.cells #[.int .i64 (x + (nbr S A v).length)] 3)).setCell ⟨sb, k, none⟩ (.int .i64 (x + (nbr S A v).length))).setCell ⟨g, 0, none⟩ (.slice (some ⟨sb, 0, none⟩) (k + 1) cap))) :
    ((Try.f36.body.bind (findReg 14)).getD .skip).wp Try.prog Q a w := by
  obtain ⟨i0, hi, hz0, hz1, hz2⟩ := info_parts Try.i3
  have hgb : g < w.heap.size := World.block_lt_of_cell? w _ hT0.2.1
  have hsb : sb < w.heap.size := World.block_lt_of_cell? w _ hsp
  have hnl : (nbr S A v).length ≤ 70000 := by
    have h1 := hG.csr.nbr_len v hvS
    have h2 := hG.csr.st_le (v + 1) hvS
    have h3 := hG.hA
    omega
  have hnb := nbrs_any (hG.fix ((Fix.refl _ _).drew)) v hvS
  conv => arg 2; whnf
  refine wp_region_till (T14 pb c g sb k cap rb v q x) 33 (by kernel_rfl) ?_
  have hT : T14 pb c g sb k cap rb v q x w.drew := hT0
  refine wpTill_take 0 (some 75) (.slice (some ⟨pb, 0, none⟩) m m) (by rfl) (by rfl) (by kernel_rfl) (by kernel_rfl) (by kernel_rfl) (by decide) (by kernel_rfl) (fun c a w h => hQ c a _ _ w h) (.inl ⟨rfl, fun w hw => ?_⟩) hT ?_
  · obtain ⟨x1, x2, x3, x4⟩ := hw
    exact y_move _ _ _ _ w rfl (by simp only [eval_put_eq, eval_put_ne, size_put, hsz, ne_eq, Nat.reduceEqDiff, not_false_eq_true, Nat.reduceLT, e0, e7, e8, e10, e11])
  refine wpTill_take 1 (some 76) (.int .i64 c) (by rfl) (by rfl) (by kernel_rfl) (by kernel_rfl) (by kernel_rfl) (by decide) (by kernel_rfl) (fun c a w h => hQ c a _ _ w h) (.inl ⟨rfl, fun w hw => ?_⟩) hT ?_
  · obtain ⟨x1, x2, x3, x4⟩ := hw
    exact y_move _ _ _ _ w rfl (by simp only [eval_put_eq, eval_put_ne, size_put, hsz, ne_eq, Nat.reduceEqDiff, not_false_eq_true, Nat.reduceLT, e0, e7, e8, e10, e11])
  refine wpTill_take 2 (some 77) (.pointer (some ⟨pb, c, none⟩)) (by rfl) (by rfl) (by kernel_rfl) (by kernel_rfl) (by kernel_rfl) (by decide) (by kernel_rfl) (fun c a w h => hQ c a _ _ w h) (.inl ⟨rfl, fun w hw => ?_⟩) hT ?_
  · obtain ⟨x1, x2, x3, x4⟩ := hw
    exact y_index37 _ _ _ _ pb m m c w rfl (by simp only [eval_put_eq, eval_put_ne, size_put, hsz, ne_eq, Nat.reduceEqDiff, not_false_eq_true, Nat.reduceLT, e0, e7, e8, e10, e11]) (by simp only [eval_put_eq, eval_put_ne, size_put, hsz, ne_eq, Nat.reduceEqDiff, not_false_eq_true, Nat.reduceLT, e0, e7, e8, e10, e11]) hc
  refine wpTill_take 3 (some 78) (.pointer (some ⟨g, 0, none⟩)) (by rfl) (by rfl) (by kernel_rfl) (by kernel_rfl) (by kernel_rfl) (by decide) (by kernel_rfl) (fun c a w h => hQ c a _ _ w h) (.inl ⟨rfl, fun w hw => ?_⟩) hT ?_
  · obtain ⟨x1, x2, x3, x4⟩ := hw
    exact y_load30 _ _ _ _ _ w rfl (by simp only [eval_put_eq, eval_put_ne, size_put, hsz, ne_eq, Nat.reduceEqDiff, not_false_eq_true, Nat.reduceLT, e0, e7, e8, e10, e11]) x1
  refine wpTill_take 4 (some 79) (.slice (some ⟨pb, 0, none⟩) m m) (by rfl) (by rfl) (by kernel_rfl) (by kernel_rfl) (by kernel_rfl) (by decide) (by kernel_rfl) (fun c a w h => hQ c a _ _ w h) (.inl ⟨rfl, fun w hw => ?_⟩) hT ?_
  · obtain ⟨x1, x2, x3, x4⟩ := hw
    exact y_move _ _ _ _ w rfl (by simp only [eval_put_eq, eval_put_ne, size_put, hsz, ne_eq, Nat.reduceEqDiff, not_false_eq_true, Nat.reduceLT, e0, e7, e8, e10, e11])
  refine wpTill_take 5 (some 80) (.int .i64 c) (by rfl) (by rfl) (by kernel_rfl) (by kernel_rfl) (by kernel_rfl) (by decide) (by kernel_rfl) (fun c a w h => hQ c a _ _ w h) (.inl ⟨rfl, fun w hw => ?_⟩) hT ?_
  · obtain ⟨x1, x2, x3, x4⟩ := hw
    exact y_move _ _ _ _ w rfl (by simp only [eval_put_eq, eval_put_ne, size_put, hsz, ne_eq, Nat.reduceEqDiff, not_false_eq_true, Nat.reduceLT, e0, e7, e8, e10, e11])
  refine wpTill_take 6 (some 81) (.pointer (some ⟨pb, c, none⟩)) (by rfl) (by rfl) (by kernel_rfl) (by kernel_rfl) (by kernel_rfl) (by decide) (by kernel_rfl) (fun c a w h => hQ c a _ _ w h) (.inl ⟨rfl, fun w hw => ?_⟩) hT ?_
  · obtain ⟨x1, x2, x3, x4⟩ := hw
    exact y_index37 _ _ _ _ pb m m c w rfl (by simp only [eval_put_eq, eval_put_ne, size_put, hsz, ne_eq, Nat.reduceEqDiff, not_false_eq_true, Nat.reduceLT, e0, e7, e8, e10, e11]) (by simp only [eval_put_eq, eval_put_ne, size_put, hsz, ne_eq, Nat.reduceEqDiff, not_false_eq_true, Nat.reduceLT, e0, e7, e8, e10, e11]) hc
  refine wpTill_take 7 (some 82) (.pointer (some ⟨g, 0, none⟩)) (by rfl) (by rfl) (by kernel_rfl) (by kernel_rfl) (by kernel_rfl) (by decide) (by kernel_rfl) (fun c a w h => hQ c a _ _ w h) (.inl ⟨rfl, fun w hw => ?_⟩) hT ?_
  · obtain ⟨x1, x2, x3, x4⟩ := hw
    exact y_load30 _ _ _ _ _ w rfl (by simp only [eval_put_eq, eval_put_ne, size_put, hsz, ne_eq, Nat.reduceEqDiff, not_false_eq_true, Nat.reduceLT, e0, e7, e8, e10, e11]) x1
  refine wpTill_take 8 (some 83) (.pointer (some ⟨g, 0, none⟩)) (by rfl) (by rfl) (by kernel_rfl) (by kernel_rfl) (by kernel_rfl) (by decide) (by kernel_rfl) (fun c a w h => hQ c a _ _ w h) (.inl ⟨rfl, fun w hw => ?_⟩) hT ?_
  · obtain ⟨x1, x2, x3, x4⟩ := hw
    exact y_nil _ _ _ _ w rfl (by simp only [eval_put_eq, eval_put_ne, size_put, hsz, ne_eq, Nat.reduceEqDiff, not_false_eq_true, Nat.reduceLT, e0, e7, e8, e10, e11])
  refine wpTill_take 9 (some 84) (.pointer (some ⟨g, 0, none⟩)) (by rfl) (by rfl) (by kernel_rfl) (by kernel_rfl) (by kernel_rfl) (by decide) (by kernel_rfl) (fun c a w h => hQ c a _ _ w h) (.inl ⟨rfl, fun w hw => ?_⟩) hT ?_
  · obtain ⟨x1, x2, x3, x4⟩ := hw
    exact y_field0 _ _ _ _ w rfl (by simp only [eval_put_eq, eval_put_ne, size_put, hsz, ne_eq, Nat.reduceEqDiff, not_false_eq_true, Nat.reduceLT, e0, e7, e8, e10, e11])
  refine wpTill_take 10 (some 85) (.slice (some ⟨sb, 0, none⟩) k cap) (by rfl) (by rfl) (by kernel_rfl) (by kernel_rfl) (by kernel_rfl) (by decide) (by kernel_rfl) (fun c a w h => hQ c a _ _ w h) (.inl ⟨rfl, fun w hw => ?_⟩) hT ?_
  · obtain ⟨x1, x2, x3, x4⟩ := hw
    exact y_load22 _ _ _ _ _ _ _ w rfl (by simp only [eval_put_eq, eval_put_ne, size_put, hsz, ne_eq, Nat.reduceEqDiff, not_false_eq_true, Nat.reduceLT, e0, e7, e8, e10, e11]) x2
  refine wpTill_take 11 (some 86) (.slice (some ⟨pb, 0, none⟩) m m) (by rfl) (by rfl) (by kernel_rfl) (by kernel_rfl) (by kernel_rfl) (by decide) (by kernel_rfl) (fun c a w h => hQ c a _ _ w h) (.inl ⟨rfl, fun w hw => ?_⟩) hT ?_
  · obtain ⟨x1, x2, x3, x4⟩ := hw
    exact y_move _ _ _ _ w rfl (by simp only [eval_put_eq, eval_put_ne, size_put, hsz, ne_eq, Nat.reduceEqDiff, not_false_eq_true, Nat.reduceLT, e0, e7, e8, e10, e11])
  refine wpTill_take 12 (some 87) (.int .i64 c) (by rfl) (by rfl) (by kernel_rfl) (by kernel_rfl) (by kernel_rfl) (by decide) (by kernel_rfl) (fun c a w h => hQ c a _ _ w h) (.inl ⟨rfl, fun w hw => ?_⟩) hT ?_
  · obtain ⟨x1, x2, x3, x4⟩ := hw
    exact y_move _ _ _ _ w rfl (by simp only [eval_put_eq, eval_put_ne, size_put, hsz, ne_eq, Nat.reduceEqDiff, not_false_eq_true, Nat.reduceLT, e0, e7, e8, e10, e11])
  refine wpTill_take 13 (some 88) (.pointer (some ⟨pb, c, none⟩)) (by rfl) (by rfl) (by kernel_rfl) (by kernel_rfl) (by kernel_rfl) (by decide) (by kernel_rfl) (fun c a w h => hQ c a _ _ w h) (.inl ⟨rfl, fun w hw => ?_⟩) hT ?_
  · obtain ⟨x1, x2, x3, x4⟩ := hw
    exact y_index37 _ _ _ _ pb m m c w rfl (by simp only [eval_put_eq, eval_put_ne, size_put, hsz, ne_eq, Nat.reduceEqDiff, not_false_eq_true, Nat.reduceLT, e0, e7, e8, e10, e11]) (by simp only [eval_put_eq, eval_put_ne, size_put, hsz, ne_eq, Nat.reduceEqDiff, not_false_eq_true, Nat.reduceLT, e0, e7, e8, e10, e11]) hc
  refine wpTill_take 14 (some 89) (.pointer (some ⟨g, 0, none⟩)) (by rfl) (by rfl) (by kernel_rfl) (by kernel_rfl) (by kernel_rfl) (by decide) (by kernel_rfl) (fun c a w h => hQ c a _ _ w h) (.inl ⟨rfl, fun w hw => ?_⟩) hT ?_
  · obtain ⟨x1, x2, x3, x4⟩ := hw
    exact y_load30 _ _ _ _ _ w rfl (by simp only [eval_put_eq, eval_put_ne, size_put, hsz, ne_eq, Nat.reduceEqDiff, not_false_eq_true, Nat.reduceLT, e0, e7, e8, e10, e11]) x1
  refine wpTill_take 15 (some 90) (.pointer (some ⟨g, 0, none⟩)) (by rfl) (by rfl) (by kernel_rfl) (by kernel_rfl) (by kernel_rfl) (by decide) (by kernel_rfl) (fun c a w h => hQ c a _ _ w h) (.inl ⟨rfl, fun w hw => ?_⟩) hT ?_
  · obtain ⟨x1, x2, x3, x4⟩ := hw
    exact y_nil _ _ _ _ w rfl (by simp only [eval_put_eq, eval_put_ne, size_put, hsz, ne_eq, Nat.reduceEqDiff, not_false_eq_true, Nat.reduceLT, e0, e7, e8, e10, e11])
  refine wpTill_take 16 (some 91) (.pointer (some ⟨g, 0, none⟩)) (by rfl) (by rfl) (by kernel_rfl) (by kernel_rfl) (by kernel_rfl) (by decide) (by kernel_rfl) (fun c a w h => hQ c a _ _ w h) (.inl ⟨rfl, fun w hw => ?_⟩) hT ?_
  · obtain ⟨x1, x2, x3, x4⟩ := hw
    exact y_field0 _ _ _ _ w rfl (by simp only [eval_put_eq, eval_put_ne, size_put, hsz, ne_eq, Nat.reduceEqDiff, not_false_eq_true, Nat.reduceLT, e0, e7, e8, e10, e11])
  refine wpTill_take 17 (some 92) (.slice (some ⟨sb, 0, none⟩) k cap) (by rfl) (by rfl) (by kernel_rfl) (by kernel_rfl) (by kernel_rfl) (by decide) (by kernel_rfl) (fun c a w h => hQ c a _ _ w h) (.inl ⟨rfl, fun w hw => ?_⟩) hT ?_
  · obtain ⟨x1, x2, x3, x4⟩ := hw
    exact y_load22 _ _ _ _ _ _ _ w rfl (by simp only [eval_put_eq, eval_put_ne, size_put, hsz, ne_eq, Nat.reduceEqDiff, not_false_eq_true, Nat.reduceLT, e0, e7, e8, e10, e11]) x2
  refine wpTill_take 18 (some 93) (.slice (some ⟨rb, 0, none⟩) n n) (by rfl) (by rfl) (by kernel_rfl) (by kernel_rfl) (by kernel_rfl) (by decide) (by kernel_rfl) (fun c a w h => hQ c a _ _ w h) (.inl ⟨rfl, fun w hw => ?_⟩) hT ?_
  · obtain ⟨x1, x2, x3, x4⟩ := hw
    exact y_move _ _ _ _ w rfl (by simp only [eval_put_eq, eval_put_ne, size_put, hsz, ne_eq, Nat.reduceEqDiff, not_false_eq_true, Nat.reduceLT, e0, e7, e8, e10, e11])
  refine wpTill_take 19 (some 94) (.int .i64 v) (by rfl) (by rfl) (by kernel_rfl) (by kernel_rfl) (by kernel_rfl) (by decide) (by kernel_rfl) (fun c a w h => hQ c a _ _ w h) (.inl ⟨rfl, fun w hw => ?_⟩) hT ?_
  · obtain ⟨x1, x2, x3, x4⟩ := hw
    exact y_move _ _ _ _ w rfl (by simp only [eval_put_eq, eval_put_ne, size_put, hsz, ne_eq, Nat.reduceEqDiff, not_false_eq_true, Nat.reduceLT, e0, e7, e8, e10, e11])
  refine wpTill_take 20 (some 95) (.pointer (some ⟨rb, v, none⟩)) (by rfl) (by rfl) (by kernel_rfl) (by kernel_rfl) (by kernel_rfl) (by decide) (by kernel_rfl) (fun c a w h => hQ c a _ _ w h) (.inl ⟨rfl, fun w hw => ?_⟩) hT ?_
  · obtain ⟨x1, x2, x3, x4⟩ := hw
    exact y_index23 _ _ _ _ rb n n v w rfl (by simp only [eval_put_eq, eval_put_ne, size_put, hsz, ne_eq, Nat.reduceEqDiff, not_false_eq_true, Nat.reduceLT, e0, e7, e8, e10, e11]) (by simp only [eval_put_eq, eval_put_ne, size_put, hsz, ne_eq, Nat.reduceEqDiff, not_false_eq_true, Nat.reduceLT, e0, e7, e8, e10, e11]) hv
  refine wpTill_take 21 (some 96) (.int .i32 q) (by rfl) (by rfl) (by kernel_rfl) (by kernel_rfl) (by kernel_rfl) (by decide) (by kernel_rfl) (fun c a w h => hQ c a _ _ w h) (.inl ⟨rfl, fun w hw => ?_⟩) hT ?_
  · obtain ⟨x1, x2, x3, x4⟩ := hw
    exact y_load21 _ _ _ _ _ w rfl (by simp only [eval_put_eq, eval_put_ne, size_put, hsz, ne_eq, Nat.reduceEqDiff, not_false_eq_true, Nat.reduceLT, e0, e7, e8, e10, e11]) x3
  refine wpTill_take 22 (some 97) (.pointer (some ⟨sb, q, none⟩)) (by rfl) (by rfl) (by kernel_rfl) (by kernel_rfl) (by kernel_rfl) (by decide) (by kernel_rfl) (fun c a w h => hQ c a _ _ w h) (.inl ⟨rfl, fun w hw => ?_⟩) hT ?_
  · obtain ⟨x1, x2, x3, x4⟩ := hw
    exact y_index22i _ _ _ _ sb k cap q w rfl (by simp only [eval_put_eq, eval_put_ne, size_put, hsz, ne_eq, Nat.reduceEqDiff, not_false_eq_true, Nat.reduceLT, e0, e7, e8, e10, e11]) (by simp only [eval_put_eq, eval_put_ne, size_put, hsz, ne_eq, Nat.reduceEqDiff, not_false_eq_true, Nat.reduceLT, e0, e7, e8, e10, e11]) hq
  refine wpTill_take 23 (some 98) (.int .i64 x) (by rfl) (by rfl) (by kernel_rfl) (by kernel_rfl) (by kernel_rfl) (by decide) (by kernel_rfl) (fun c a w h => hQ c a _ _ w h) (.inl ⟨rfl, fun w hw => ?_⟩) hT ?_
  · obtain ⟨x1, x2, x3, x4⟩ := hw
    exact y_load3 _ _ _ _ _ w rfl (by simp only [eval_put_eq, eval_put_ne, size_put, hsz, ne_eq, Nat.reduceEqDiff, not_false_eq_true, Nat.reduceLT, e0, e7, e8, e10, e11]) x4
  refine wpTill_take 24 (some 99) (.pointer (some ⟨gb, 0, none⟩)) (by rfl) (by rfl) (by kernel_rfl) (by kernel_rfl) (by kernel_rfl) (by decide) (by kernel_rfl) (fun c a w h => hQ c a _ _ w h) (.inl ⟨rfl, fun w hw => ?_⟩) hT ?_
  · obtain ⟨x1, x2, x3, x4⟩ := hw
    exact y_move _ _ _ _ w rfl (by simp only [eval_put_eq, eval_put_ne, size_put, hsz, ne_eq, Nat.reduceEqDiff, not_false_eq_true, Nat.reduceLT, e0, e7, e8, e10, e11])
  refine wpTill_take 25 (some 100) (.int .i64 v) (by rfl) (by rfl) (by kernel_rfl) (by kernel_rfl) (by kernel_rfl) (by decide) (by kernel_rfl) (fun c a w h => hQ c a _ _ w h) (.inl ⟨rfl, fun w hw => ?_⟩) hT ?_
  · obtain ⟨x1, x2, x3, x4⟩ := hw
    exact y_move _ _ _ _ w rfl (by simp only [eval_put_eq, eval_put_ne, size_put, hsz, ne_eq, Nat.reduceEqDiff, not_false_eq_true, Nat.reduceLT, e0, e7, e8, e10, e11])
  refine wpTill_call 26 (some 101) (by rfl) (by rfl) (by rfl) (by kernel_rfl) (y_call42 _ _ _ _ _ _ _ rfl (by simp only [eval_put_eq, eval_put_ne, size_put, hsz, ne_eq, Nat.reduceEqDiff, not_false_eq_true, Nat.reduceLT, e0, e7, e8, e10, e11]) (by simp only [eval_put_eq, eval_put_ne, size_put, hsz, ne_eq, Nat.reduceEqDiff, not_false_eq_true, Nat.reduceLT, e0, e7, e8, e10, e11]) (by rfl)) hnb ?_
  rintro e w4 ⟨a4, c4, n4, rfl, _, rfl⟩
  refine ⟨_, rfl, fun _ => hT.drewN n4, ?_⟩
  replace hT := hT.drewN n4
  refine wpTill_value 27 (some 102) (.int .i64 (nbr S A v).length) _ (by rfl) (by rfl) (by rfl) (by kernel_rfl) (y_len23 _ _ _ a4 _ c4 _ rfl (by simp only [eval_put_eq, eval_put_ne, size_put, hsz, ne_eq, Nat.reduceEqDiff, not_false_eq_true, Nat.reduceLT, e0, e7, e8, e10, e11]) hnl) (fun _ => hT) ?_
  refine wpTill_value 28 (some 103) (.int .i64 (x + (nbr S A v).length)) _ (by rfl) (by rfl) (by rfl) (by kernel_rfl) (y_add3 _ _ _ _ x _ _ rfl (by simp only [eval_put_eq, eval_put_ne, size_put, hsz, ne_eq, Nat.reduceEqDiff, not_false_eq_true, Nat.reduceLT, e0, e7, e8, e10, e11]) (by simp only [eval_put_eq, eval_put_ne, size_put, hsz, ne_eq, Nat.reduceEqDiff, not_false_eq_true, Nat.reduceLT, e0, e7, e8, e10, e11]) hx0 (by omega) hx1 (by omega)) (fun _ => hT) ?_
  refine wpTill_value 29 (some 104) (.slice (some ⟨(w.drew.drewN n4).heap.size, 0, none⟩) 1 1) ((w.drew.drewN n4).alloc (.cells #[.int .i64 (x + (nbr S A v).length)] 3)) (by rfl) (by rfl) (by rfl) (by kernel_rfl) (y_build3 _ _ _ _ _ rfl (by simp only [eval_put_eq, eval_put_ne, size_put, hsz, ne_eq, Nat.reduceEqDiff, not_false_eq_true, Nat.reduceLT, e0, e7, e8, e10, e11])) (fun _ => hT.alloc _) ?_
  refine wpTill_room 30 (some 105) (by rfl) (by rfl) (by rfl) (by kernel_rfl) (.tmp 85) (.tmp 104) 22 (by rfl) 3 i0 Try.underlying22 hi hz1 sb k cap (by simp only [eval_put_eq, eval_put_ne, size_put, hsz, ne_eq, Nat.reduceEqDiff, not_false_eq_true, Nat.reduceLT, e0, e7, e8, e10, e11]) ⟨(w.drew.drewN n4).heap.size, 0, none⟩ 1 (.int .i64 (x + (nbr S A v).length)) (by simp only [eval_put_eq, eval_put_ne, size_put, hsz, ne_eq, Nat.reduceEqDiff, not_false_eq_true, Nat.reduceLT, e0, e7, e8, e10, e11]) (cell_one_new _ _ _) rfl hroom ?_ ?_ (fun _ => (hT.alloc _).set h1 h2 h3 hq _) ?_
  · rw [cell_alloc (show (w.drew.drewN n4).cell? ⟨sb, k, none⟩ = some old from hsp)]; rfl
  · exact (World.frozen?_of_block (a := ⟨sb, k, none⟩) (Below.heap_alloc (w.drew.drewN n4) _ sb hsb)).trans hsf
  refine wpTill_value 31 (some 106) (.pointer (some ⟨g, 0, none⟩)) _ (by rfl) (by rfl) (by rfl) (by kernel_rfl) (y_nil _ _ _ _ _ rfl (by simp only [eval_put_eq, eval_put_ne, size_put, hsz, ne_eq, Nat.reduceEqDiff, not_false_eq_true, Nat.reduceLT, e0, e7, e8, e10, e11])) (fun _ => (hT.alloc _).set h1 h2 h3 hq _) ?_
  refine wpTill_value 32 (some 107) (.pointer (some ⟨g, 0, none⟩)) _ (by rfl) (by rfl) (by rfl) (by kernel_rfl) (y_field0 _ _ _ _ _ rfl (by simp only [eval_put_eq, eval_put_ne, size_put, hsz, ne_eq, Nat.reduceEqDiff, not_false_eq_true, Nat.reduceLT, e0, e7, e8, e10, e11])) (fun _ => (hT.alloc _).set h1 h2 h3 hq _) ?_
  refine wpTill_store 33 _ (by rfl) (by rfl) (by rfl) (by kernel_rfl) (y_store22 _ _ _ _ ⟨g, 0, none⟩ (some ⟨sb, 0, none⟩) (k + 1) cap _ _ rfl (by simp only [eval_put_eq, eval_put_ne, size_put, hsz, ne_eq, Nat.reduceEqDiff, not_false_eq_true, Nat.reduceLT, e0, e7, e8, e10, e11]) (by simp only [eval_put_eq, eval_put_ne, size_put, hsz, ne_eq, Nat.reduceEqDiff, not_false_eq_true, Nat.reduceLT, e0, e7, e8, e10, e11]) ((hT.alloc _).set h1 h2 h3 hq _).2.1 ?_) (fun h => absurd rfl h) ?_
  · exact (World.frozen?_of_block (a := ⟨g, 0, none⟩) (Below.heap_setCell _ ⟨sb, k, none⟩ _ g h2)).trans ((World.frozen?_of_block (a := ⟨g, 0, none⟩) (Below.heap_alloc (w.drew.drewN n4) _ g hgb)).trans hgf)
  exact wpTill_done (by kernel_rfl) (hfin n4 a4 c4) _
end Go.Proofs.Qxb6605187a
