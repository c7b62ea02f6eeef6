import Derived.Test.Qxb6605187aYs
import Derived.Maps.AppendAt
namespace Go.Proofs.Qxb6605187a
open Go.RowKit
set_option linter.unusedVariables false
set_option linter.unusedSimpArgs false

theorem Try.i21 : (Try.prog.info? 21).map (fun i => (i.zero, i.size, i.bytes)) = some (some (.int .i32 0), 1, 4) := by kernel_rfl
theorem Try.i3 : (Try.prog.info? 3).map (fun i => (i.zero, i.size, i.bytes)) = some (some (.int .i64 0), 1, 8) := by kernel_rfl

theorem cell_set_ne {w : World} {b n : Nat} {v : Value} {p : Addr} {x : Option Value} (h : p.block ≠ b) (hc : w.cell? p = x) : (w.setCell ⟨b, n, none⟩ v).cell? p = x :=
  (World.cell?_of_block (Below.heap_setCell w ⟨b, n, none⟩ v p.block h)).trans hc
theorem cell_alloc {w : World} {o : Obj} {p : Addr} {v : Value} (hc : w.cell? p = some v) : (w.alloc o).cell? p = some v :=
  (World.cell?_of_block (Below.heap_alloc w o p.block (World.block_lt_of_cell? w p hc))).trans hc

/-- the cells that the statement reads -/
def T28 (pb c g ab k cap rb u : Nat) (r : Int) (w : World) : Prop :=
  w.cell? ⟨pb, c, none⟩ = some (.pointer (some ⟨g, 0, none⟩)) ∧ w.cell? ⟨g, 1, none⟩ = some (.slice (some ⟨ab, 0, none⟩) k cap) ∧ w.cell? ⟨rb, u, none⟩ = some (.int .i32 r)
theorem T28.alloc {pb c g ab k cap rb u : Nat} {r : Int} {w : World} (h : T28 pb c g ab k cap rb u r w) (o : Obj) : T28 pb c g ab k cap rb u r (w.alloc o) := ⟨cell_alloc h.1, cell_alloc h.2.1, cell_alloc h.2.2⟩
theorem T28.set {pb c g ab k cap rb u : Nat} {r : Int} {w : World} (h : T28 pb c g ab k cap rb u r w) (h1 : pb ≠ ab) (h2 : g ≠ ab) (h3 : rb ≠ ab) (n : Nat) (v : Value) : T28 pb c g ab k cap rb u r (w.setCell ⟨ab, n, none⟩ v) := ⟨cell_set_ne h1 h.1, cell_set_ne h2 h.2.1, cell_set_ne h3 h.2.2⟩

set_option maxHeartbeats 2000000 in
/-- 'sub[c].adj = append(sub[c].adj, rank[w])', in whatever order -/
theorem reg28 (pb m g c ab k cap rb n u : Nat) (r : Int) (Q : Exit → Act → World → Prop) (hQ : ∀ c a d v w, Q (.panic c) (Act.put a d v) w → Q (.panic c) a w) (a : Act) (w : World)
    (hsz : a.tmps.size = 170) (e7 : a.eval (.tmp 7) = .slice (some ⟨rb, 0, none⟩) n n) (e8 : a.eval (.tmp 8) = .slice (some ⟨pb, 0, none⟩) m m) (e15 : a.eval (.tmp 15) = .int .i64 c) (e17 : a.eval (.tmp 17) = .int .i32 u)
    (hc : c < m) (hu : u < n) (hT0 : T28 pb c g ab k cap rb u r w) (h1 : pb ≠ ab) (h2 : g ≠ ab) (h3 : rb ≠ ab) (hgf : w.frozen? ⟨g, 1, none⟩ = false)
    (hroom : k + 1 ≤ cap) (old : Value) (hsp : w.cell? ⟨ab, k, none⟩ = some old) (hsf : w.frozen? ⟨ab, k, none⟩ = false)
    (hfin : Q .normal (((((((((((((((((((a.put (some 148) (.slice (some ⟨pb, 0, none⟩) m m)).put (some 149) (.int .i64 c)).put (some 150) (.pointer (some ⟨pb, c, none⟩))).put (some 151) (.pointer (some ⟨g, 0, none⟩))).put (some 152) (.slice (some ⟨pb, 0, none⟩) m m)).put (some 153) (.int .i64 c)).put (some 154) (.pointer (some ⟨pb, c, none⟩))).put (some 155) (.pointer (some ⟨g, 0, none⟩))).put (some 156) (.pointer (some ⟨g, 0, none⟩))).put (some 157) (.pointer (some ⟨g, 1, none⟩))).put (some 158) (.slice (some ⟨ab, 0, none⟩) k cap)).put (some 159) (.slice (some ⟨rb, 0, none⟩) n n)).put (some 160) (.int .i32 u)).put (some 161) (.pointer (some ⟨rb, u, none⟩))).put (some 162) (.int .i32 r)).put (some 163) (.slice (some ⟨w.drew.heap.size, 0, none⟩) 1 1)).put (some 164) (.slice (some ⟨ab, 0, none⟩) (k + 1) cap)).put (some 165) (.pointer (some ⟨g, 0, none⟩))).put (some 166) (.pointer (some ⟨g, 1, none⟩)))
      (((w.drew.alloc (.cells #[.int .i32 r] 21)).setCell ⟨ab, k, none⟩ (.int .i32 r)).setCell ⟨g, 1, none⟩ (.slice (some ⟨ab, 0, none⟩) (k + 1) cap))) :
    ((Try.f36.body.bind (findReg 28)).getD .skip).wp Try.prog Q a w := by
  obtain ⟨i0, hi, hz0, hz1, hz2⟩ := info_parts Try.i21
  have hgb : g < w.heap.size := World.block_lt_of_cell? w _ hT0.2.1
  have hab : ab < w.heap.size := World.block_lt_of_cell? w _ hsp
  conv => arg 2; whnf
  refine wp_region_till (T28 pb c g ab k cap rb u r) 19 (by kernel_rfl) ?_
  have hT : T28 pb c g ab k cap rb u r w.drew := hT0
  refine wpTill_take 0 (some 148) (.slice (some ⟨pb, 0, none⟩) m m) (by rfl) (by rfl) (by kernel_rfl) (by kernel_rfl) (by kernel_rfl) (by decide) (by kernel_rfl) (fun c a w h => hQ c a _ _ w h) (.inl ⟨rfl, fun w hw => ?_⟩) hT ?_
  · obtain ⟨x1, x2, x3⟩ := hw
    exact y_move _ _ _ _ w rfl (by simp only [eval_put_eq, eval_put_ne, size_put, hsz, ne_eq, Nat.reduceEqDiff, not_false_eq_true, Nat.reduceLT, e7, e8, e15, e17])
  refine wpTill_take 1 (some 149) (.int .i64 c) (by rfl) (by rfl) (by kernel_rfl) (by kernel_rfl) (by kernel_rfl) (by decide) (by kernel_rfl) (fun c a w h => hQ c a _ _ w h) (.inl ⟨rfl, fun w hw => ?_⟩) hT ?_
  · obtain ⟨x1, x2, x3⟩ := hw
    exact y_move _ _ _ _ w rfl (by simp only [eval_put_eq, eval_put_ne, size_put, hsz, ne_eq, Nat.reduceEqDiff, not_false_eq_true, Nat.reduceLT, e7, e8, e15, e17])
  refine wpTill_take 2 (some 150) (.pointer (some ⟨pb, c, none⟩)) (by rfl) (by rfl) (by kernel_rfl) (by kernel_rfl) (by kernel_rfl) (by decide) (by kernel_rfl) (fun c a w h => hQ c a _ _ w h) (.inl ⟨rfl, fun w hw => ?_⟩) hT ?_
  · obtain ⟨x1, x2, x3⟩ := hw
    exact y_index37 _ _ _ _ pb m m c w rfl (by simp only [eval_put_eq, eval_put_ne, size_put, hsz, ne_eq, Nat.reduceEqDiff, not_false_eq_true, Nat.reduceLT, e7, e8, e15, e17]) (by simp only [eval_put_eq, eval_put_ne, size_put, hsz, ne_eq, Nat.reduceEqDiff, not_false_eq_true, Nat.reduceLT, e7, e8, e15, e17]) hc
  refine wpTill_take 3 (some 151) (.pointer (some ⟨g, 0, none⟩)) (by rfl) (by rfl) (by kernel_rfl) (by kernel_rfl) (by kernel_rfl) (by decide) (by kernel_rfl) (fun c a w h => hQ c a _ _ w h) (.inl ⟨rfl, fun w hw => ?_⟩) hT ?_
  · obtain ⟨x1, x2, x3⟩ := hw
    exact y_load30 _ _ _ _ _ w rfl (by simp only [eval_put_eq, eval_put_ne, size_put, hsz, ne_eq, Nat.reduceEqDiff, not_false_eq_true, Nat.reduceLT, e7, e8, e15, e17]) x1
  refine wpTill_take 4 (some 152) (.slice (some ⟨pb, 0, none⟩) m m) (by rfl) (by rfl) (by kernel_rfl) (by kernel_rfl) (by kernel_rfl) (by decide) (by kernel_rfl) (fun c a w h => hQ c a _ _ w h) (.inl ⟨rfl, fun w hw => ?_⟩) hT ?_
  · obtain ⟨x1, x2, x3⟩ := hw
    exact y_move _ _ _ _ w rfl (by simp only [eval_put_eq, eval_put_ne, size_put, hsz, ne_eq, Nat.reduceEqDiff, not_false_eq_true, Nat.reduceLT, e7, e8, e15, e17])
  refine wpTill_take 5 (some 153) (.int .i64 c) (by rfl) (by rfl) (by kernel_rfl) (by kernel_rfl) (by kernel_rfl) (by decide) (by kernel_rfl) (fun c a w h => hQ c a _ _ w h) (.inl ⟨rfl, fun w hw => ?_⟩) hT ?_
  · obtain ⟨x1, x2, x3⟩ := hw
    exact y_move _ _ _ _ w rfl (by simp only [eval_put_eq, eval_put_ne, size_put, hsz, ne_eq, Nat.reduceEqDiff, not_false_eq_true, Nat.reduceLT, e7, e8, e15, e17])
  refine wpTill_take 6 (some 154) (.pointer (some ⟨pb, c, none⟩)) (by rfl) (by rfl) (by kernel_rfl) (by kernel_rfl) (by kernel_rfl) (by decide) (by kernel_rfl) (fun c a w h => hQ c a _ _ w h) (.inl ⟨rfl, fun w hw => ?_⟩) hT ?_
  · obtain ⟨x1, x2, x3⟩ := hw
    exact y_index37 _ _ _ _ pb m m c w rfl (by simp only [eval_put_eq, eval_put_ne, size_put, hsz, ne_eq, Nat.reduceEqDiff, not_false_eq_true, Nat.reduceLT, e7, e8, e15, e17]) (by simp only [eval_put_eq, eval_put_ne, size_put, hsz, ne_eq, Nat.reduceEqDiff, not_false_eq_true, Nat.reduceLT, e7, e8, e15, e17]) hc
  refine wpTill_take 7 (some 155) (.pointer (some ⟨g, 0, none⟩)) (by rfl) (by rfl) (by kernel_rfl) (by kernel_rfl) (by kernel_rfl) (by decide) (by kernel_rfl) (fun c a w h => hQ c a _ _ w h) (.inl ⟨rfl, fun w hw => ?_⟩) hT ?_
  · obtain ⟨x1, x2, x3⟩ := hw
    exact y_load30 _ _ _ _ _ w rfl (by simp only [eval_put_eq, eval_put_ne, size_put, hsz, ne_eq, Nat.reduceEqDiff, not_false_eq_true, Nat.reduceLT, e7, e8, e15, e17]) x1
  refine wpTill_take 8 (some 156) (.pointer (some ⟨g, 0, none⟩)) (by rfl) (by rfl) (by kernel_rfl) (by kernel_rfl) (by kernel_rfl) (by decide) (by kernel_rfl) (fun c a w h => hQ c a _ _ w h) (.inl ⟨rfl, fun w hw => ?_⟩) hT ?_
  · obtain ⟨x1, x2, x3⟩ := hw
    exact y_nil _ _ _ _ w rfl (by simp only [eval_put_eq, eval_put_ne, size_put, hsz, ne_eq, Nat.reduceEqDiff, not_false_eq_true, Nat.reduceLT, e7, e8, e15, e17])
  refine wpTill_take 9 (some 157) (.pointer (some ⟨g, 1, none⟩)) (by rfl) (by rfl) (by kernel_rfl) (by kernel_rfl) (by kernel_rfl) (by decide) (by kernel_rfl) (fun c a w h => hQ c a _ _ w h) (.inl ⟨rfl, fun w hw => ?_⟩) hT ?_
  · obtain ⟨x1, x2, x3⟩ := hw
    exact y_field1 _ _ _ _ w rfl (by simp only [eval_put_eq, eval_put_ne, size_put, hsz, ne_eq, Nat.reduceEqDiff, not_false_eq_true, Nat.reduceLT, e7, e8, e15, e17])
  refine wpTill_take 10 (some 158) (.slice (some ⟨ab, 0, none⟩) k cap) (by rfl) (by rfl) (by kernel_rfl) (by kernel_rfl) (by kernel_rfl) (by decide) (by kernel_rfl) (fun c a w h => hQ c a _ _ w h) (.inl ⟨rfl, fun w hw => ?_⟩) hT ?_
  · obtain ⟨x1, x2, x3⟩ := hw
    exact y_load23 _ _ _ _ _ _ _ w rfl (by simp only [eval_put_eq, eval_put_ne, size_put, hsz, ne_eq, Nat.reduceEqDiff, not_false_eq_true, Nat.reduceLT, e7, e8, e15, e17]) x2
  refine wpTill_take 11 (some 159) (.slice (some ⟨rb, 0, none⟩) n n) (by rfl) (by rfl) (by kernel_rfl) (by kernel_rfl) (by kernel_rfl) (by decide) (by kernel_rfl) (fun c a w h => hQ c a _ _ w h) (.inl ⟨rfl, fun w hw => ?_⟩) hT ?_
  · obtain ⟨x1, x2, x3⟩ := hw
    exact y_move _ _ _ _ w rfl (by simp only [eval_put_eq, eval_put_ne, size_put, hsz, ne_eq, Nat.reduceEqDiff, not_false_eq_true, Nat.reduceLT, e7, e8, e15, e17])
  refine wpTill_take 12 (some 160) (.int .i32 u) (by rfl) (by rfl) (by kernel_rfl) (by kernel_rfl) (by kernel_rfl) (by decide) (by kernel_rfl) (fun c a w h => hQ c a _ _ w h) (.inl ⟨rfl, fun w hw => ?_⟩) hT ?_
  · obtain ⟨x1, x2, x3⟩ := hw
    exact y_move _ _ _ _ w rfl (by simp only [eval_put_eq, eval_put_ne, size_put, hsz, ne_eq, Nat.reduceEqDiff, not_false_eq_true, Nat.reduceLT, e7, e8, e15, e17])
  refine wpTill_take 13 (some 161) (.pointer (some ⟨rb, u, none⟩)) (by rfl) (by rfl) (by kernel_rfl) (by kernel_rfl) (by kernel_rfl) (by decide) (by kernel_rfl) (fun c a w h => hQ c a _ _ w h) (.inl ⟨rfl, fun w hw => ?_⟩) hT ?_
  · obtain ⟨x1, x2, x3⟩ := hw
    exact y_index23i _ _ _ _ rb n n u w rfl (by simp only [eval_put_eq, eval_put_ne, size_put, hsz, ne_eq, Nat.reduceEqDiff, not_false_eq_true, Nat.reduceLT, e7, e8, e15, e17]) (by simp only [eval_put_eq, eval_put_ne, size_put, hsz, ne_eq, Nat.reduceEqDiff, not_false_eq_true, Nat.reduceLT, e7, e8, e15, e17]) hu
  refine wpTill_take 14 (some 162) (.int .i32 r) (by rfl) (by rfl) (by kernel_rfl) (by kernel_rfl) (by kernel_rfl) (by decide) (by kernel_rfl) (fun c a w h => hQ c a _ _ w h) (.inl ⟨rfl, fun w hw => ?_⟩) hT ?_
  · obtain ⟨x1, x2, x3⟩ := hw
    exact y_load21 _ _ _ _ _ w rfl (by simp only [eval_put_eq, eval_put_ne, size_put, hsz, ne_eq, Nat.reduceEqDiff, not_false_eq_true, Nat.reduceLT, e7, e8, e15, e17]) x3
  refine wpTill_value 15 (some 163) (.slice (some ⟨w.drew.heap.size, 0, none⟩) 1 1) (w.drew.alloc (.cells #[.int .i32 r] 21)) (by rfl) (by rfl) (by rfl) (by kernel_rfl) (y_build21 _ _ _ r _ rfl (by simp only [eval_put_eq, eval_put_ne, size_put, hsz, ne_eq, Nat.reduceEqDiff, not_false_eq_true, Nat.reduceLT, e7, e8, e15, e17])) (fun _ => hT.alloc _) ?_
  refine wpTill_room 16 (some 164) (by rfl) (by rfl) (by rfl) (by kernel_rfl) (.tmp 158) (.tmp 163) 23 (by rfl) 21 i0 Try.underlying23 hi hz1 ab k cap (by simp only [eval_put_eq, eval_put_ne, size_put, hsz, ne_eq, Nat.reduceEqDiff, not_false_eq_true, Nat.reduceLT, e7, e8, e15, e17]) ⟨w.drew.heap.size, 0, none⟩ 1 (.int .i32 r) (by simp only [eval_put_eq, eval_put_ne, size_put, hsz, ne_eq, Nat.reduceEqDiff, not_false_eq_true, Nat.reduceLT, e7, e8, e15, e17]) (cell_one_new _ _ _) rfl hroom ?_ ?_ (fun _ => (hT.alloc _).set h1 h2 h3 _ _) ?_
  · rw [cell_alloc (show w.drew.cell? ⟨ab, k, none⟩ = some old from hsp)]; rfl
  · exact (World.frozen?_of_block (a := ⟨ab, k, none⟩) (Below.heap_alloc w.drew _ ab hab)).trans hsf
  refine wpTill_value 17 (some 165) (.pointer (some ⟨g, 0, none⟩)) _ (by rfl) (by rfl) (by rfl) (by kernel_rfl) (y_nil _ _ _ _ _ rfl (by simp only [eval_put_eq, eval_put_ne, size_put, hsz, ne_eq, Nat.reduceEqDiff, not_false_eq_true, Nat.reduceLT, e7, e8, e15, e17])) (fun _ => (hT.alloc _).set h1 h2 h3 _ _) ?_
  refine wpTill_value 18 (some 166) (.pointer (some ⟨g, 1, none⟩)) _ (by rfl) (by rfl) (by rfl) (by kernel_rfl) (y_field1 _ _ _ _ _ rfl (by simp only [eval_put_eq, eval_put_ne, size_put, hsz, ne_eq, Nat.reduceEqDiff, not_false_eq_true, Nat.reduceLT, e7, e8, e15, e17])) (fun _ => (hT.alloc _).set h1 h2 h3 _ _) ?_
  refine wpTill_store 19 _ (by rfl) (by rfl) (by rfl) (by kernel_rfl) (y_store23 _ _ _ _ ⟨g, 1, none⟩ (some ⟨ab, 0, none⟩) (k + 1) cap _ _ rfl (by simp only [eval_put_eq, eval_put_ne, size_put, hsz, ne_eq, Nat.reduceEqDiff, not_false_eq_true, Nat.reduceLT, e7, e8, e15, e17]) (by simp only [eval_put_eq, eval_put_ne, size_put, hsz, ne_eq, Nat.reduceEqDiff, not_false_eq_true, Nat.reduceLT, e7, e8, e15, e17]) ((hT.alloc _).set h1 h2 h3 _ _).2.1 ?_) (fun h => absurd rfl h) ?_
  · exact (World.frozen?_of_block (a := ⟨g, 1, none⟩) (Below.heap_setCell _ ⟨ab, k, none⟩ _ g h2)).trans ((World.frozen?_of_block (a := ⟨g, 1, none⟩) (Below.heap_alloc w.drew _ g hgb)).trans hgf)
  exact wpTill_done (by kernel_rfl) hfin _
end Go.Proofs.Qxb6605187a
