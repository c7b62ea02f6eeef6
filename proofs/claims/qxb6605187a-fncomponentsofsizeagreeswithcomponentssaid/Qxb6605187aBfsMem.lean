import Derived.Test.Qxb6605187aBfsPlain
import Derived.Test.Qxb6605187aPickMem
namespace Go.Proofs.Qxb6605187a
open Go.RowKit
set_option linter.unusedVariables false

/-- the memory of Components: from block B on: the result's cell, of, the record, seen, the queue; sizes lies above -/
structure BMem (w : World) (B n : Nat) (of : List Int) (seen : List Bool) (Q sizes : List Int) (sv : Value) (wr : World) : Prop where
  fix : Fix (fun b => b < B) w wr
  big : B + 1 + 1 + 1 + 1 < wr.heap.size
  res : Row wr B 40 [.slice none 0 0, .slice none 0 0]
  ofr : IRow wr (B + 1) 3 .i64 of
  recr : Row wr (B + 1 + 1) 40 [.slice (some ⟨B + 1, 0, none⟩) n n, sv]
  seenr : BRow wr (B + 1 + 1 + 1) seen
  q : wr.ownsRow (B + 1 + 1 + 1 + 1) 21 1 (.slice (some ⟨B + 1 + 1 + 1 + 1, 0, none⟩) Q.length n) Q.length (Q.map (Value.int .i32))
  s : wr.ownsRow (B + 5) 3 1 sv sizes.length (sizes.map (Value.int .i64))

section
variable {w wr w' : World} {B n : Nat} {of : List Int} {seen : List Bool} {Q sizes : List Int} {sv : Value}
theorem BMem.keep (h : BMem w B n of seen Q sizes sv wr) (hf : Fix (fun b => b < B) wr w') (hs : ∀ b, b < wr.heap.size → w'.heap[b]? = wr.heap[b]?) : BMem w B n of seen Q sizes sv w' := by
  have hb := h.big
  have hz := hf.size
  exact ⟨h.fix.trans hf, by omega, (hs B (by omega)).trans h.res, (hs (B + 1) (by omega)).trans h.ofr, (hs (B + 1 + 1) (by omega)).trans h.recr, (hs (B + 1 + 1 + 1) (by omega)).trans h.seenr, ownsRow_block h.q fun g hg => hs g (h.q.lt g hg).2, ownsRow_block h.s fun g hg => hs g (h.s.lt g hg).2⟩
theorem BMem.drewN (h : BMem w B n of seen Q sizes sv wr) (k : Nat) : BMem w B n of seen Q sizes sv (wr.drewN k) := h.keep ((Fix.refl _ _).drewN k) fun _ _ => rfl
theorem BMem.alloc (h : BMem w B n of seen Q sizes sv wr) (o : Obj) : BMem w B n of seen Q sizes sv (wr.alloc o) :=
  h.keep ((Fix.refl _ _).alloc (fun k hk => by have := h.big; omega) o) fun b hb => Below.heap_alloc _ _ _ hb
theorem BMem.setSeen (h : BMem w B n of seen Q sizes sv wr) (u : Nat) : BMem w B n of (seen.set u true) Q sizes sv (wr.setCell ⟨B + 1 + 1 + 1, u, none⟩ (.bool true)) := by
  refine ⟨h.fix.setCell (by first | (simp; omega) | simp) _, by have := h.big; simpa [World.setCell] using this, h.res.setOther (by first | (simp; omega) | simp) _, Row.setOther h.ofr (by first | (simp; omega) | simp) _, h.recr.setOther (by first | (simp; omega) | simp) _, h.seenr.set u true, ?_, ?_⟩
  · refine ownsRow_block h.q fun g hg => Below.heap_setCell _ _ _ _ ?_
    have := h.q.lt g hg
    show g ≠ B + 1 + 1 + 1
    omega
  · refine ownsRow_block h.s fun g hg => Below.heap_setCell _ _ _ _ ?_
    have := h.s.lt g hg
    show g ≠ B + 1 + 1 + 1
    omega
theorem BMem.setOf (h : BMem w B n of seen Q sizes sv wr) (u : Nat) (x : Int) : BMem w B n (of.set u x) seen Q sizes sv (wr.setCell ⟨B + 1, u, none⟩ (.int .i64 x)) := by
  refine ⟨h.fix.setCell (by first | (simp; omega) | simp) _, by have := h.big; simpa [World.setCell] using this, h.res.setOther (by first | (simp; omega) | simp) _, h.ofr.set u x, h.recr.setOther (by first | (simp; omega) | simp) _, Row.setOther h.seenr (by first | (simp; omega) | simp) _, ?_, ?_⟩
  · refine ownsRow_block h.q fun g hg => Below.heap_setCell _ _ _ _ ?_
    have := h.q.lt g hg
    show g ≠ B + 1
    omega
  · refine ownsRow_block h.s fun g hg => Below.heap_setCell _ _ _ _ ?_
    have := h.s.lt g hg
    show g ≠ B + 1
    omega
theorem BMem.clearQ (h : BMem w B n of seen Q sizes sv wr) : BMem w B n of seen [] sizes sv wr := by
  refine ⟨h.fix, h.big, h.res, h.ofr, h.recr, h.seenr, ⟨rfl, ?_⟩, h.s⟩
  rcases h.q.2 with ⟨h1, _⟩ | ⟨g, cap, cur, hv, hb, hg, hn, hc, hz, ht⟩
  · cases h1
  · injection hv with e1 e2 e3
    injection e1 with e1
    injection e1 with e1
    subst e1
    subst e3
    exact .inr ⟨B + 1 + 1 + 1 + 1, n, cur, rfl, hb, hg, Nat.zero_le _, hc, hz, rfl⟩
theorem BMem.pushQ (h : BMem w B n of seen Q sizes sv wr) (x : Int) (hown : w'.ownsRow (B + 1 + 1 + 1 + 1) 21 1 (.slice (some ⟨B + 1 + 1 + 1 + 1, 0, none⟩) (Q.length + 1) n) (Q.length + 1) (Q.map (Value.int .i32) ++ [.int .i32 x])) (hg : wr.grownBy w' (some (B + 1 + 1 + 1 + 1))) : BMem w B n of seen (Q ++ [x]) sizes sv w' := by
  have hb := h.big
  have hs : ∀ b, b < wr.heap.size → b ≠ B + 1 + 1 + 1 + 1 → w'.heap[b]? = wr.heap[b]? := fun b hb hn => hg.block b hb fun e => hn (by injection e)
  refine ⟨h.fix.trans ⟨hg.os, hg.tape, hg.output, hg.size, fun k hk => hs k (by omega) (by omega)⟩, by have := hg.size; omega, (hs B (by omega) (by omega)).trans h.res, (hs (B + 1) (by omega) (by omega)).trans h.ofr, (hs (B + 1 + 1) (by omega) (by omega)).trans h.recr, (hs (B + 1 + 1 + 1) (by omega) (by omega)).trans h.seenr, ?_, ownsRow_block h.s fun g hg => hs g (h.s.lt g hg).2 (by have := (h.s.lt g hg).1; omega)⟩
  rw [List.length_append, List.map_append]
  exact hown
theorem BMem.pushS (h : BMem w B n of seen Q sizes sv wr) (x : Int) (g cap : Nat) (hown : w'.ownsRow (B + 5) 3 1 (.slice (some ⟨g, 0, none⟩) (sizes.length + 1) cap) (sizes.length + 1) (sizes.map (Value.int .i64) ++ [.int .i64 x])) (hg : wr.grownBy w' sv.ownBlock) :
    BMem w B n of seen Q (sizes ++ [x]) (.slice (some ⟨g, 0, none⟩) (sizes.length + 1) cap) (w'.setCell ⟨B + 1 + 1, 1, none⟩ (.slice (some ⟨g, 0, none⟩) (sizes.length + 1) cap)) := by
  have hb := h.big
  have hs : ∀ b, b < wr.heap.size → b < B + 5 → w'.heap[b]? = wr.heap[b]? := fun b hb hn => hg.block b hb fun e => by have := (h.s.lt b e.symm).1; omega
  have r2 : Row w' (B + 1 + 1) 40 [.slice (some ⟨B + 1, 0, none⟩) n n, sv] := (hs (B + 1 + 1) (by omega) (by omega)).trans h.recr
  have r2' := r2.set 1 (.slice (some ⟨g, 0, none⟩) (sizes.length + 1) cap)
  have r0 : Row w' B 40 [.slice none 0 0, .slice none 0 0] := (hs B (by omega) (by omega)).trans h.res
  have r1 : IRow w' (B + 1) 3 .i64 of := (hs (B + 1) (by omega) (by omega)).trans h.ofr
  have r3 : BRow w' (B + 1 + 1 + 1) seen := (hs (B + 1 + 1 + 1) (by omega) (by omega)).trans h.seenr
  have hq : w'.ownsRow (B + 1 + 1 + 1 + 1) 21 1 (.slice (some ⟨B + 1 + 1 + 1 + 1, 0, none⟩) Q.length n) Q.length (Q.map (Value.int .i32)) := ownsRow_block h.q fun k hk => hs k (h.q.lt k hk).2 (by simp [Value.ownBlock] at hk; omega)
  refine ⟨(h.fix.trans ⟨hg.os, hg.tape, hg.output, hg.size, fun k hk => hs k (by omega) (by omega)⟩).setCell (by first | (simp; omega) | simp) _, by have := hg.size; simp [World.setCell]; omega, r0.setOther (by first | (simp; omega) | simp) _, Row.setOther r1 (by first | (simp; omega) | simp) _, r2', Row.setOther r3 (by first | (simp; omega) | simp) _, ?_, ?_⟩
  · refine ownsRow_block hq fun k hk => Below.heap_setCell _ _ _ _ ?_
    have := hq.lt k hk
    show k ≠ B + 1 + 1
    omega
  · rw [List.length_append, List.map_append]
    refine ownsRow_block hown fun k hk => Below.heap_setCell _ _ _ _ ?_
    have := hown.lt k hk
    show k ≠ B + 1 + 1
    omega
theorem BMem.qcell (h : BMem w B n of seen Q sizes sv wr) (i : Nat) (hi : i < Q.length) : wr.cell? ⟨B + 1 + 1 + 1 + 1, i, none⟩ = some (.int .i32 (nth Q i)) := by
  obtain ⟨a, cap, e, hc⟩ := owns_form h.q
  injection e with e1 e2 e3
  rcases hc with hc | ⟨g, hg, _, hc⟩
  · rw [hc] at hi; exact absurd hi (Nat.not_lt_zero _)
  · rw [hg] at e1
    injection e1 with e1
    injection e1 with e1
    rw [← e1] at hc
    exact hc i hi
theorem BMem.base (w : World) (n : Nat) (hn : n ≤ 70000) : BMem w w.heap.size n (List.replicate n 0) (List.replicate n false) [] [] (.slice none 0 0)
    (((((w.alloc (.cells #[.slice none 0 0, .slice none 0 0] 40)).alloc (.cells (madeCells #[.int .i64 0] n) 3)).alloc (.cells #[.slice (some ⟨w.heap.size + 1, 0, none⟩) n n, .slice none 0 0] 40)).alloc (.cells (madeCells #[.bool false] n) 4)).alloc (.cells (madeCells #[.int .i32 0] n) 21)) := by
  generalize hW1 : w.alloc (.cells #[.slice none 0 0, .slice none 0 0] 40) = W1
  have r0 : Row W1 w.heap.size 40 [.slice none 0 0, .slice none 0 0] := by rw [← hW1]; exact heap_alloc_new _ _
  have s1 : W1.heap.size = w.heap.size + 1 := by rw [← hW1]; simp
  have f1 : Fix (fun b => b < w.heap.size) w W1 := by rw [← hW1]; exact (Fix.refl _ _).alloc (fun k hk => hk) _
  generalize hW2 : W1.alloc (.cells (madeCells #[.int .i64 0] n) 3) = W2
  have r1 : IRow W2 (w.heap.size + 1) 3 .i64 (List.replicate n 0) := by
    have := IRow.made W1 n 3 .i64
    rw [hW2, s1] at this
    exact this
  have r0b : Row W2 w.heap.size 40 [.slice none 0 0, .slice none 0 0] := by rw [← hW2]; exact r0.alloc _
  have s2 : W2.heap.size = w.heap.size + 1 + 1 := by rw [← hW2]; simp [s1]
  have f2 : Fix (fun b => b < w.heap.size) w W2 := by rw [← hW2]; exact f1.alloc (fun k hk => by omega) _
  generalize hW3 : W2.alloc (.cells #[.slice (some ⟨w.heap.size + 1, 0, none⟩) n n, .slice none 0 0] 40) = W3
  have r2 : Row W3 (w.heap.size + 1 + 1) 40 [.slice (some ⟨w.heap.size + 1, 0, none⟩) n n, .slice none 0 0] := by rw [← hW3, ← s2]; exact heap_alloc_new _ _
  have r0c : Row W3 w.heap.size 40 [.slice none 0 0, .slice none 0 0] := by rw [← hW3]; exact r0b.alloc _
  have r1c : IRow W3 (w.heap.size + 1) 3 .i64 (List.replicate n 0) := by rw [← hW3]; exact Row.alloc r1 _
  have s3 : W3.heap.size = w.heap.size + 1 + 1 + 1 := by rw [← hW3]; simp [s2]
  have f3 : Fix (fun b => b < w.heap.size) w W3 := by rw [← hW3]; exact f2.alloc (fun k hk => by omega) _
  generalize hW4 : W3.alloc (.cells (madeCells #[.bool false] n) 4) = W4
  have r3 : BRow W4 (w.heap.size + 1 + 1 + 1) (List.replicate n false) := by
    have := BRow.made W3 n
    rw [hW4, s3] at this
    exact this
  have r0d : Row W4 w.heap.size 40 [.slice none 0 0, .slice none 0 0] := by rw [← hW4]; exact r0c.alloc _
  have r1d : IRow W4 (w.heap.size + 1) 3 .i64 (List.replicate n 0) := by rw [← hW4]; exact Row.alloc r1c _
  have r2d : Row W4 (w.heap.size + 1 + 1) 40 [.slice (some ⟨w.heap.size + 1, 0, none⟩) n n, .slice none 0 0] := by rw [← hW4]; exact r2.alloc _
  have s4 : W4.heap.size = w.heap.size + 1 + 1 + 1 + 1 := by rw [← hW4]; simp [s3]
  have f4 : Fix (fun b => b < w.heap.size) w W4 := by rw [← hW4]; exact f3.alloc (fun k hk => by omega) _
  refine ⟨f4.alloc (fun k hk => by omega) _, by simp [s4], r0d.alloc _, Row.alloc r1d _, r2d.alloc _, Row.alloc r3 _, ⟨rfl, .inr ⟨w.heap.size + 1 + 1 + 1 + 1, n, madeCells #[.int .i32 0] n, rfl, Nat.le_refl _, ?_, Nat.zero_le _, by unfold maxLen; omega, by simp [madeCells], rfl⟩⟩, World.ownsRow_nil _ _ _ _⟩
  rw [← s4]
  exact heap_alloc_new _ _

/-! ### what is known between the rounds -/
/-- between two searches, behind k peers -/
structure OutI (S A : List Int) (n k : Nat) (L of : List Int) (seen : List Bool) (sizes : List Int) : Prop where
  labs : Labs S A sizes.length L
  ll : L.length = n
  ofl : of.length = n
  sl : seen.length = n
  seenv : ∀ u, u < n → (nthB seen u = true ↔ 0 ≤ nth L u)
  ofv : ∀ u, u < n → 0 ≤ nth L u → nth of u = nth L u
  sz : ∀ c : Nat, c < sizes.length → nth sizes c = cntTo L c n
  done : ∀ u, u < k → 0 ≤ nth L u
  sk : sizes.length ≤ k
/-- within the search from peer k -/
structure InI (S A : List Int) (n k : Nat) (L of : List Int) (seen : List Bool) (Q sizes : List Int) (i j p : Nat) : Prop where
  srch : Srch S A sizes.length L Q i j
  ll : L.length = n
  ofl : of.length = n
  sl : seen.length = n
  seenv : ∀ u, u < n → (nthB seen u = true ↔ 0 ≤ nth L u)
  ofv : ∀ u, u < n → 0 ≤ nth L u → nth L u < sizes.length → nth of u = nth L u
  ofq : ∀ m, m < p → nth of (nth Q m).toNat = sizes.length
  sz : ∀ c : Nat, c < sizes.length → nth sizes c = cntTo L c n
  done : ∀ u, u < k + 1 → 0 ≤ nth L u
  sk : sizes.length ≤ k
theorem OutI.zero {S A : List Int} {n : Nat} (h : n + 1 = S.length) : OutI S A n 0 (List.replicate n (-1)) (List.replicate n 0) (List.replicate n false) [] := by
  refine ⟨Labs.zero h, by simp, by simp, by simp, fun u hu => ?_, fun u hu h0 => ?_, fun c hc => absurd hc (Nat.not_lt_zero _), fun u hu => absurd hu (Nat.not_lt_zero _), Nat.le_refl _⟩
  · rw [nth_reps _ _ _ hu]
    simp [nthB, hu]
  · rw [nth_reps _ _ _ hu] at h0; omega
theorem OutI.skip {S A : List Int} {n k : Nat} {L of : List Int} {sn : List Bool} {sizes : List Int} (h : OutI S A n k L of sn sizes) (hk : k < n) (hs : nthB sn k = true) : OutI S A n (k + 1) L of sn sizes := by
  refine ⟨h.labs, h.ll, h.ofl, h.sl, h.seenv, h.ofv, h.sz, fun u hu => ?_, by have := h.sk; omega⟩
  by_cases e : u = k
  · rw [e]; exact (h.seenv k hk).1 hs
  · exact h.done u (by omega)
theorem OutI.start {S A : List Int} {n k : Nat} {L of : List Int} {sn : List Bool} {sizes : List Int} (h : OutI S A n k L of sn sizes) (hk : k < n) (hs : nthB sn k = false) : InI S A n k (L.set k sizes.length) of (sn.set k true) [(k : Int)] sizes 0 0 0 := by
  have hl := h.ll
  have hn : nth L k < 0 := by
    by_cases e : nth L k < 0
    · exact e
    · have := (h.seenv k hk).2 (by omega)
      rw [hs] at this; cases this
  have hr := h.labs.rng k (by omega)
  refine ⟨h.labs.start k (by omega) hn, by simpa using hl, h.ofl, by simpa using h.sl, fun u hu => ?_, fun u hu h0 hK => ?_, fun m hm => absurd hm (Nat.not_lt_zero _), fun c hc => ?_, fun u hu => ?_, h.sk⟩
  · rw [nth_set _ _ _ _ (by omega), nthB_set _ _ _ _ (by rw [h.sl]; exact hk)]
    by_cases e : u = k
    · rw [if_pos e, if_pos e]; exact ⟨fun _ => by omega, fun _ => rfl⟩
    · rw [if_neg e, if_neg e]; exact h.seenv u hu
  · rw [nth_set _ _ _ _ (by omega)] at h0 hK ⊢
    by_cases e : u = k
    · rw [if_pos e] at hK; omega
    · rw [if_neg e] at h0 ⊢; exact h.ofv u hu h0
  · rw [cntTo_set_other _ _ _ _ _ (by omega) (by omega) (by omega)]; exact h.sz c hc
  · rw [nth_set _ _ _ _ (by omega)]
    by_cases e : u = k
    · rw [if_pos e]; omega
    · rw [if_neg e]; exact h.done u (by omega)
section
variable {S A : List Int} {n k : Nat} {L of : List Int} {sn : List Bool} {Q sizes : List Int} {i j p : Nat}
theorem InI.setOf (h : InI S A n k L of sn Q sizes i 0 i) (hi : i < Q.length) {u : Nat} (hu : nth Q i = u) : InI S A n k L (of.set u sizes.length) sn Q sizes i 0 (i + 1) := by
  have hq := h.srch.q1 i hi
  have hl := h.ll
  have hol := h.ofl
  rw [hu, Int.toNat_natCast] at hq
  refine ⟨h.srch, h.ll, by simpa using h.ofl, h.sl, h.seenv, fun y hy h0 hK => ?_, fun m hm => ?_, h.sz, h.done, h.sk⟩
  · rw [nth_set _ _ _ _ (by omega)]
    by_cases e : y = u
    · rw [e] at hK; omega
    · rw [if_neg e]; exact h.ofv y hy h0 hK
  · rw [nth_set _ _ _ _ (by omega)]
    by_cases e : (nth Q m).toNat = u
    · rw [if_pos e]
    · rw [if_neg e]
      by_cases e2 : m = i
      · rw [e2, hu, Int.toNat_natCast] at e; exact absurd rfl e
      · exact h.ofq m (by omega)
theorem InI.old (h : InI S A n k L of sn Q sizes i j p) (hcsr : Csr S A) (hsym : Sym S A) (hi : i < Q.length) (hj : j < (nbr S A (nth Q i).toNat).length) {x : Nat} (hx : nth (nbr S A (nth Q i).toNat) j = x) (hxn : x < n) (hs : nthB sn x = true) : InI S A n k L of sn Q sizes i (j + 1) p :=
  ⟨h.srch.seen hcsr hsym hi hj (by rw [hx, Int.toNat_natCast]; exact (h.seenv x hxn).1 hs), h.ll, h.ofl, h.sl, h.seenv, h.ofv, h.ofq, h.sz, h.done, h.sk⟩
theorem InI.add (h : InI S A n k L of sn Q sizes i j (i + 1)) (hcsr : Csr S A) (hi : i < Q.length) (hj : j < (nbr S A (nth Q i).toNat).length) {x : Nat} (hx : nth (nbr S A (nth Q i).toNat) j = x) (hxn : x < n) (hs : nthB sn x = false) : InI S A n k (L.set x sizes.length) of (sn.set x true) (Q ++ [(x : Int)]) sizes i (j + 1) (i + 1) := by
  have hl := h.ll
  have hn : nth L x < 0 := by
    by_cases e : nth L x < 0
    · exact e
    · have := (h.seenv x hxn).2 (by omega)
      rw [hs] at this; cases this
  refine ⟨h.srch.add hcsr hi hj hx hn, by simpa using hl, h.ofl, by simpa using h.sl, fun u hu => ?_, fun u hu h0 hK => ?_, fun m hm => ?_, fun c hc => ?_, fun u hu => ?_, h.sk⟩
  · rw [nth_set _ _ _ _ (by omega), nthB_set _ _ _ _ (by rw [h.sl]; exact hxn)]
    by_cases e : u = x
    · rw [if_pos e, if_pos e]; exact ⟨fun _ => by omega, fun _ => rfl⟩
    · rw [if_neg e, if_neg e]; exact h.seenv u hu
  · rw [nth_set _ _ _ _ (by omega)] at h0 hK ⊢
    by_cases e : u = x
    · rw [if_pos e] at hK; omega
    · rw [if_neg e] at h0 hK ⊢; exact h.ofv u hu h0 hK
  · rw [nth_append_left _ _ _ (by omega)]; exact h.ofq m hm
  · rw [cntTo_set_other _ _ _ _ _ (by omega) (by omega) (by omega)]; exact h.sz c hc
  · rw [nth_set _ _ _ _ (by omega)]
    by_cases e : u = x
    · rw [if_pos e]; omega
    · rw [if_neg e]; exact h.done u hu
theorem InI.next (h : InI S A n k L of sn Q sizes i (nbr S A (nth Q i).toNat).length (i + 1)) : InI S A n k L of sn Q sizes (i + 1) 0 (i + 1) :=
  ⟨h.srch.next, h.ll, h.ofl, h.sl, h.seenv, h.ofv, h.ofq, h.sz, h.done, h.sk⟩
theorem InI.finish (h : InI S A n k L of sn Q sizes Q.length 0 Q.length) : OutI S A n (k + 1) L of sn (sizes ++ [(Q.length : Int)]) := by
  have hl := h.ll
  refine ⟨by rw [List.length_append]; exact h.srch.done, h.ll, h.ofl, h.sl, h.seenv, fun u hu h0 => ?_, fun c hc => ?_, h.done, by have := h.sk; simp; omega⟩
  · have hr := h.srch.rng u (by omega)
    by_cases e : nth L u = sizes.length
    · obtain ⟨m, hm, he⟩ := h.srch.q2 u (by omega) e
      have := h.ofq m hm
      rw [he, Int.toNat_natCast] at this
      rw [this, e]
    · exact h.ofv u hu h0 (by omega)
  · by_cases e : c < sizes.length
    · rw [nth_append_left _ _ _ e]; exact h.sz c e
    · have e2 : c = sizes.length := by simp at hc; omega
      rw [nth_append_at _ _ _ e2, e2, h.srch.q3, hl]
theorem InI.qlen (h : InI S A n k L of sn Q sizes i j p) : Q.length ≤ n := by
  rw [h.srch.q3, h.ll]; exact cntTo_le _ _ _
end
end
end Go.Proofs.Qxb6605187a
