import Derived.Test.Qxb6605187aReg14
import Derived.Test.Qxb6605187aCompPlain
import Derived.Test.Qxb6605187aPickMem
namespace Go.Proofs.Qxb6605187a
open Go.RowKit
set_option linter.unusedVariables false

/-- the cells of 'sub': a pointer for each class of K, nil for the rest -/
def ptrs (g : Int → Nat) (K : List Int) (m : Nat) : List Value := (List.range m).map (fun c : Nat => Value.pointer (if (c : Int) ∈ K then some ⟨g c, 0, none⟩ else none))
theorem ptrs_yes (g : Int → Nat) (K : List Int) (m c : Nat) (hc : c < m) (h : (c : Int) ∈ K) : (ptrs g K m)[c]? = some (.pointer (some ⟨g c, 0, none⟩)) := by simp [ptrs, hc, h]
theorem ptrs_no (g : Int → Nat) (K : List Int) (m c : Nat) (hc : c < m) (h : (c : Int) ∉ K) : (ptrs g K m)[c]? = some (.pointer none) := by simp [ptrs, hc, h]
/-- a function changed at one class -/
def upd {α : Type} (f : Int → α) (c : Int) (x : α) (d : Int) : α := if d = c then x else f d
theorem upd_eq {α : Type} (f : Int → α) (c : Int) (x : α) : upd f c x c = x := if_pos rfl
theorem upd_ne {α : Type} (f : Int → α) {c d : Int} (x : α) (h : d ≠ c) : upd f c x d = f d := if_neg h
theorem ptrs_new (g : Int → Nat) (K : List Int) (m c b : Nat) (hn : (c : Int) ∉ K) : (ptrs g K m).set c (.pointer (some ⟨b, 0, none⟩)) = ptrs (upd g c b) (K ++ [(c : Int)]) m := by
  apply List.ext_getElem
  · simp [ptrs]
  · intro i h1 h2
    rw [List.getElem_set]
    by_cases e : c = i
    · subst e; simp [ptrs, upd_eq]
    · rw [if_neg e]
      have e2 : (i : Int) ≠ c := by omega
      simp [ptrs, upd_ne g b e2, e2]

/-- the memory of componentsOfSize: rank (block rb), sub (block rb + 1), and for each class c of K a graph at block g c whose start list is T c -/
structure CMem (w1 : World) (rb n m size : Nat) (K : List Int) (T : Int → List Int) (g : Int → Nat) (ad : Int → Value) (R : List Int) (wr : World) : Prop where
  fix : Fix (fun b => b < rb) w1 wr
  rank : IRow wr rb 21 .i32 R
  rl : R.length = n
  sub : Row wr (rb + 1) 30 (ptrs g K m)
  st : ∀ c, c ∈ K → Row wr (g c) 55 [.slice (some ⟨g c - 1, 0, none⟩) (T c).length (size + 1), ad c]
  row : ∀ c, c ∈ K → IRow wr (g c - 1) 3 .i64 (pad (T c) (size + 1))
  lo : ∀ c, c ∈ K → rb + 3 ≤ g c
  apart : ∀ c d, c ∈ K → d ∈ K → c ≠ d → g c + 2 ≤ g d ∨ g d + 2 ≤ g c

section
variable {w1 wr w' : World} {rb n m size : Nat} {K : List Int} {T : Int → List Int} {g : Int → Nat} {ad : Int → Value} {R : List Int}

theorem CMem.keep (h : CMem w1 rb n m size K T g ad R wr) (hf : Fix (fun b => b < rb) wr w')
    (hs : ∀ b, b < wr.heap.size → (b = rb ∨ b = rb + 1 ∨ ∃ c, c ∈ K ∧ (b = g c ∨ b = g c - 1)) → w'.heap[b]? = wr.heap[b]?) : CMem w1 rb n m size K T g ad R w' :=
  ⟨h.fix.trans hf, (hs rb h.rank.lt (.inl rfl)).trans h.rank, h.rl, (hs _ h.sub.lt (.inr (.inl rfl))).trans h.sub,
    fun c hc => (hs _ (h.st c hc).lt (.inr (.inr ⟨c, hc, .inl rfl⟩))).trans (h.st c hc), fun c hc => (hs _ (Row.lt (h.row c hc)) (.inr (.inr ⟨c, hc, .inr rfl⟩))).trans (h.row c hc), h.lo, h.apart⟩
theorem CMem.drewN (h : CMem w1 rb n m size K T g ad R wr) (k : Nat) : CMem w1 rb n m size K T g ad R (wr.drewN k) := h.keep ((Fix.refl _ _).drewN k) fun _ _ _ => rfl
theorem CMem.drew (h : CMem w1 rb n m size K T g ad R wr) : CMem w1 rb n m size K T g ad R wr.drew := h.keep ((Fix.refl _ _).drew) fun _ _ _ => rfl
theorem CMem.alloc (h : CMem w1 rb n m size K T g ad R wr) (o : Obj) : CMem w1 rb n m size K T g ad R (wr.alloc o) :=
  h.keep ((Fix.refl _ _).alloc (fun k hk => by have := Row.lt h.rank; omega) o) fun b hb _ => Below.heap_alloc _ _ _ hb
theorem CMem.congr (h : CMem w1 rb n m size K T g ad R wr) {T' : Int → List Int} {ad' : Int → Value} (hT : ∀ c, c ∈ K → T c = T' c) (ha : ∀ c, c ∈ K → ad c = ad' c) : CMem w1 rb n m size K T' g ad' R wr :=
  ⟨h.fix, h.rank, h.rl, h.sub, fun c hc => by rw [← hT c hc, ← ha c hc]; exact h.st c hc, fun c hc => by rw [← hT c hc]; exact h.row c hc, h.lo, h.apart⟩
/-- a store into 'rank' -/
theorem CMem.setRank (h : CMem w1 rb n m size K T g ad R wr) (v : Nat) (x : Int) : CMem w1 rb n m size K T g ad (R.set v x) (wr.setCell ⟨rb, v, none⟩ (.int .i32 x)) := by
  have e : ∀ b, b ≠ rb → (wr.setCell ⟨rb, v, none⟩ (.int .i32 x)).heap[b]? = wr.heap[b]? := fun b hb => Below.heap_setCell _ _ _ _ hb
  refine ⟨h.fix.setCell (by simp) _, h.rank.set v x, by rw [List.length_set]; exact h.rl, (e _ (by omega)).trans h.sub, fun c hc => (e _ ?_).trans (h.st c hc), fun c hc => (e _ ?_).trans (h.row c hc), h.lo, h.apart⟩
  · have := h.lo c hc; omega
  · have := h.lo c hc; omega
/-- a class enters -/
theorem CMem.enter (h : CMem w1 rb n m size K T g ad R wr) (c : Nat) (hn : (c : Int) ∉ K) :
    CMem w1 rb n m size (K ++ [(c : Int)]) (upd T c [0]) (upd g c (wr.heap.size + 1)) (upd ad c (.slice none 0 0)) R
      (((wr.alloc (.cells (madeCells #[.int .i64 0] (size + 1)) 3)).alloc (.cells #[.slice (some ⟨wr.heap.size, 0, none⟩) 1 (size + 1), .slice none 0 0] 55)).setCell ⟨rb + 1, c, none⟩ (.pointer (some ⟨wr.heap.size + 1, 0, none⟩))) := by
  have hsz := h.sub.lt
  have e1 : ∀ b, b < wr.heap.size → b ≠ rb + 1 → (((wr.alloc (.cells (madeCells #[.int .i64 0] (size + 1)) 3)).alloc (.cells #[.slice (some ⟨wr.heap.size, 0, none⟩) 1 (size + 1), .slice none 0 0] 55)).setCell ⟨rb + 1, c, none⟩ (.pointer (some ⟨wr.heap.size + 1, 0, none⟩))).heap[b]? = wr.heap[b]? := fun b hb hb2 =>
    (Below.heap_setCell _ _ _ _ hb2).trans ((Below.heap_alloc _ _ _ (by simp; omega)).trans (Below.heap_alloc _ _ _ hb))
  have hA := (h.alloc (.cells (madeCells #[.int .i64 0] (size + 1)) 3)).alloc (.cells #[.slice (some ⟨wr.heap.size, 0, none⟩) 1 (size + 1), .slice none 0 0] 55)
  have r1 : IRow (((wr.alloc (.cells (madeCells #[.int .i64 0] (size + 1)) 3)).alloc (.cells #[.slice (some ⟨wr.heap.size, 0, none⟩) 1 (size + 1), .slice none 0 0] 55)).setCell ⟨rb + 1, c, none⟩ (.pointer (some ⟨wr.heap.size + 1, 0, none⟩))) wr.heap.size 3 .i64 (pad [0] (size + 1)) := by
    refine (Below.heap_setCell _ _ _ _ (by show wr.heap.size ≠ rb + 1; omega)).trans ((Below.heap_alloc _ _ _ (by simp)).trans ?_)
    have := IRow.made wr (size + 1) 3 .i64
    have e : List.replicate (size + 1) (0 : Int) = pad [0] (size + 1) := by simp [pad, List.replicate_succ]
    rw [e] at this
    exact this
  have r2 : Row (((wr.alloc (.cells (madeCells #[.int .i64 0] (size + 1)) 3)).alloc (.cells #[.slice (some ⟨wr.heap.size, 0, none⟩) 1 (size + 1), .slice none 0 0] 55)).setCell ⟨rb + 1, c, none⟩ (.pointer (some ⟨wr.heap.size + 1, 0, none⟩))) (wr.heap.size + 1) 55 [.slice (some ⟨wr.heap.size, 0, none⟩) 1 (size + 1), .slice none 0 0] := by
    refine (Below.heap_setCell _ _ _ _ (by show wr.heap.size + 1 ≠ rb + 1; omega)).trans ?_
    have := heap_alloc_new (wr.alloc (.cells (madeCells #[.int .i64 0] (size + 1)) 3)) (.cells #[.slice (some ⟨wr.heap.size, 0, none⟩) 1 (size + 1), .slice none 0 0] 55)
    rw [show (wr.alloc (.cells (madeCells #[.int .i64 0] (size + 1)) 3)).heap.size = wr.heap.size + 1 by simp] at this
    exact this
  have hne : ∀ d, d ∈ K → d ≠ (c : Int) := fun d hd e => hn (e ▸ hd)
  have hmem : ∀ d, d ∈ K ++ [(c : Int)] → d ∈ K ∨ d = (c : Int) := fun d hd => by simpa using hd
  refine ⟨hA.fix.setCell (by simp) _, (e1 _ (Row.lt h.rank) (by omega)).trans h.rank, h.rl, ?_, ?_, ?_, ?_, ?_⟩
  · have := hA.sub.set c (.pointer (some ⟨wr.heap.size + 1, 0, none⟩))
    rw [ptrs_new _ _ _ _ _ hn] at this
    exact this
  · intro d hd
    rcases hmem d hd with hd | rfl
    · rw [upd_ne _ _ (hne d hd), upd_ne _ _ (hne d hd), upd_ne _ _ (hne d hd)]
      exact (e1 _ (h.st d hd).lt (by have := h.lo d hd; omega)).trans (h.st d hd)
    · rw [upd_eq, upd_eq, upd_eq]
      exact r2
  · intro d hd
    rcases hmem d hd with hd | rfl
    · rw [upd_ne _ _ (hne d hd), upd_ne _ _ (hne d hd)]
      exact (e1 _ (Row.lt (h.row d hd)) (by have := h.lo d hd; omega)).trans (h.row d hd)
    · rw [upd_eq, upd_eq]
      exact r1
  · intro d hd
    rcases hmem d hd with hd | rfl
    · rw [upd_ne _ _ (hne d hd)]; exact h.lo d hd
    · rw [upd_eq]; omega
  · intro d e hd he hde
    rcases hmem d hd with hd | rfl
    · rw [upd_ne _ _ (hne d hd)]
      rcases hmem e he with he | rfl
      · rw [upd_ne _ _ (hne e he)]; exact h.apart d e hd he hde
      · rw [upd_eq]; have := (h.st d hd).lt; omega
    · rw [upd_eq]
      rcases hmem e he with he | rfl
      · rw [upd_ne _ _ (hne e he)]; have := (h.st e he).lt; omega
      · exact absurd rfl hde
/-- an entry joins a start list -/
theorem CMem.push (h : CMem w1 rb n m size K T g ad R wr) (c : Int) (hc : c ∈ K) (x : Int) (hl : (T c).length < size + 1) :
    CMem w1 rb n m size K (upd T c (T c ++ [x])) g ad R ((wr.setCell ⟨g c - 1, (T c).length, none⟩ (.int .i64 x)).setCell ⟨g c, 0, none⟩ (.slice (some ⟨g c - 1, 0, none⟩) ((T c).length + 1) (size + 1))) := by
  have hlo := h.lo c hc
  have e1 : ∀ b, b ≠ g c - 1 → b ≠ g c → ((wr.setCell ⟨g c - 1, (T c).length, none⟩ (.int .i64 x)).setCell ⟨g c, 0, none⟩ (.slice (some ⟨g c - 1, 0, none⟩) ((T c).length + 1) (size + 1))).heap[b]? = wr.heap[b]? := fun b hb hb2 =>
    (Below.heap_setCell _ _ _ _ hb2).trans (Below.heap_setCell _ _ _ _ hb)
  refine ⟨(h.fix.setCell (by simp; omega) _).setCell (by simp; omega) _, (e1 _ (by omega) (by omega)).trans h.rank, h.rl, (e1 _ (by omega) (by omega)).trans h.sub, ?_, ?_, h.lo, h.apart⟩
  · intro d hd
    by_cases e : d = c
    · subst e
      rw [upd_eq]
      have := ((h.st d hd).setOther (p := ⟨g d - 1, (T d).length, none⟩) (by show g d ≠ g d - 1; omega) (.int .i64 x)).set 0 (.slice (some ⟨g d - 1, 0, none⟩) ((T d).length + 1) (size + 1))
      rw [List.length_append]
      exact this
    · rw [upd_ne _ _ e]
      have := h.apart d c hd hc e
      exact (e1 _ (by omega) (by omega)).trans (h.st d hd)
  · intro d hd
    by_cases e : d = c
    · subst e
      rw [upd_eq]
      have := (IRow.set (h.row d hd) (T d).length x)
      rw [pad_push _ _ _ hl] at this
      exact Row.setOther this (by show g d - 1 ≠ g d; omega) _
    · rw [upd_ne _ _ e]
      have := h.apart d c hd hc e
      have := h.lo d hd
      exact (e1 _ (by omega) (by omega)).trans (h.row d hd)
/-- a store into the field adj -/
theorem CMem.setAdj (h : CMem w1 rb n m size K T g ad R wr) (c : Int) (hc : c ∈ K) (x : Value) :
    CMem w1 rb n m size K T g (upd ad c x) R (wr.setCell ⟨g c, 1, none⟩ x) := by
  have hlo := h.lo c hc
  have e1 : ∀ b, b ≠ g c → (wr.setCell ⟨g c, 1, none⟩ x).heap[b]? = wr.heap[b]? := fun b hb => Below.heap_setCell _ _ _ _ hb
  refine ⟨h.fix.setCell (by simp; omega) _, (e1 _ (by omega)).trans h.rank, h.rl, (e1 _ (by omega)).trans h.sub, ?_, ?_, h.lo, h.apart⟩
  · intro d hd
    by_cases e : d = c
    · subst e
      rw [upd_eq]
      exact (h.st d hd).set 1 x
    · rw [upd_ne _ _ e]
      have := h.apart d c hd hc e
      exact (e1 _ (by omega)).trans (h.st d hd)
  · intro d hd
    refine (e1 _ ?_).trans (h.row d hd)
    have := h.lo d hd
    by_cases e : d = c
    · subst e; omega
    · have := h.apart d c hd hc e; omega
end

/-- the slice kept: a row of its own, apart from the graphs -/
structure Kept (rb : Nat) (K KL : List Int) (g : Int → Nat) (kv : Value) (wr : World) : Prop where
  own : wr.ownsRow (rb + 2) 30 1 kv KL.length (KL.map fun c => Value.pointer (some ⟨g c, 0, none⟩))
  off : ∀ c, c ∈ K → ∀ b, kv.ownBlock = some b → b ≠ g c ∧ b ≠ g c - 1
section
variable {wr w' : World} {rb : Nat} {K KL : List Int} {g : Int → Nat} {kv : Value}
theorem Kept.keep (h : Kept rb K KL g kv wr) (hs : ∀ b, kv.ownBlock = some b → w'.heap[b]? = wr.heap[b]?) : Kept rb K KL g kv w' := ⟨ownsRow_block h.own hs, h.off⟩
theorem Kept.drewN (h : Kept rb K KL g kv wr) (k : Nat) : Kept rb K KL g kv (wr.drewN k) := h.keep fun _ _ => rfl
theorem Kept.alloc (h : Kept rb K KL g kv wr) (o : Obj) : Kept rb K KL g kv (wr.alloc o) := h.keep fun b hb => Below.heap_alloc _ _ _ (h.own.lt b hb).2
theorem Kept.nil (wr : World) : Kept rb [] [] g (.slice none 0 0) wr := ⟨World.ownsRow_nil _ _ _ _, fun c hc => absurd hc (by simp)⟩
/-- a store below, or into a graph -/
theorem Kept.set (h : Kept rb K KL g kv wr) (p : Addr) (hp : p.block < rb + 2 ∨ ∃ c, c ∈ K ∧ (p.block = g c ∨ p.block = g c - 1)) (x : Value) : Kept rb K KL g kv (wr.setCell p x) := by
  refine h.keep fun b hb => Below.heap_setCell _ _ _ _ ?_
  rcases hp with hp | ⟨c, hc, hp⟩
  · have := (h.own.lt b hb).1; omega
  · have := h.off c hc b hb; omega
/-- a class enters -/
theorem Kept.enter (h : Kept rb K K g kv wr) (c : Nat) (hn : (c : Int) ∉ K) (o1 o2 : Obj) (x : Value) :
    Kept rb (K ++ [(c : Int)]) K (upd g c (wr.heap.size + 1)) kv (((wr.alloc o1).alloc o2).setCell ⟨rb + 1, c, none⟩ x) := by
  have h1 := ((h.alloc o1).alloc o2).set ⟨rb + 1, c, none⟩ (.inl (by show rb + 1 < rb + 2; omega)) x
  refine ⟨?_, ?_⟩
  · have e : (K.map fun d => Value.pointer (some ⟨upd g c (wr.heap.size + 1) d, 0, none⟩)) = K.map fun d => Value.pointer (some ⟨g d, 0, none⟩) :=
      List.map_congr_left fun d hd => by rw [upd_ne _ _ (show d ≠ (c : Int) from fun e => hn (e ▸ hd))]
    rw [e]
    exact h1.own
  · intro d hd b hb
    rcases List.mem_append.1 hd with hd | hd
    · rw [upd_ne _ _ (show d ≠ (c : Int) from fun e => hn (e ▸ hd))]; exact h.off d hd b hb
    · have : d = (c : Int) := by simpa using hd
      subst this
      rw [upd_eq]
      have := (h.own.lt b hb).2
      omega
end
/-- kept may move -/
theorem CMem.grown {w1 wr w' : World} {rb n m size : Nat} {K KL : List Int} {T : Int → List Int} {g : Int → Nat} {ad : Int → Value} {R : List Int} {kv : Value} (h : CMem w1 rb n m size K T g ad R wr) (hk : Kept rb K KL g kv wr) (hg : wr.grownBy w' kv.ownBlock) : CMem w1 rb n m size K T g ad R w' := by
  have hlt := Row.lt h.rank
  have hne : ∀ b, b < rb + 2 → some b ≠ kv.ownBlock := fun b hb e => by have := (hk.own.lt b e.symm).1; omega
  refine h.keep ⟨hg.os, hg.tape, hg.output, hg.size, fun b hb => hg.block b (by omega) (hne b (by omega))⟩ fun b hb hs => hg.block b hb ?_
  rcases hs with rfl | rfl | ⟨c, hc, hs⟩
  · exact hne _ (by omega)
  · exact hne _ (by omega)
  · intro e
    have := hk.off c hc b e.symm
    omega
theorem Kept.grown {w1 wr w' : World} {rb n m size : Nat} {K KL : List Int} {T : Int → List Int} {g : Int → Nat} {ad : Int → Value} {R : List Int} {kv : Value} {c : Int} {gg cap : Nat} (h : CMem w1 rb n m size K T g ad R wr) (hk : Kept rb K KL g kv wr)
    (hown : w'.ownsRow (rb + 2) 30 1 (.slice (some ⟨gg, 0, none⟩) (KL.length + 1) cap) (KL.length + 1) ((KL.map fun c => Value.pointer (some ⟨g c, 0, none⟩)) ++ [.pointer (some ⟨g c, 0, none⟩)]))
    (hat : kv.ownBlock = some gg ∨ gg = wr.heap.size) : Kept rb K (KL ++ [c]) g (.slice (some ⟨gg, 0, none⟩) (KL.length + 1) cap) w' := by
  refine ⟨?_, ?_⟩
  · rw [List.length_append, List.map_append]
    exact hown
  · intro d hd b hb
    have e : gg = b := by simpa [Value.ownBlock] using hb
    subst e
    rcases hat with hat | rfl
    · exact hk.off d hd _ hat
    · have := (h.st d hd).lt
      omega
/-- the cells of kept -/
theorem Kept.form {rb : Nat} {K KL : List Int} {g : Int → Nat} {kv : Value} {wr : World} (h : Kept rb K KL g kv wr) : ∃ a cap, kv = .slice a KL.length cap ∧ (KL = [] ∨ ∃ b, a = some ⟨b, 0, none⟩ ∧ rb + 2 ≤ b ∧ b < wr.heap.size ∧ (∀ c, c ∈ K → b ≠ g c ∧ b ≠ g c - 1) ∧ ∀ i, i < KL.length → wr.cell? ⟨b, i, none⟩ = some (.pointer (some ⟨g (nth KL i), 0, none⟩))) := by
  rcases h.own.2 with ⟨rfl, hn⟩ | ⟨b, cap, cur, rfl, hb, hg, _, _, _, ht⟩
  · exact ⟨none, 0, by rw [hn], .inl (List.length_eq_zero_iff.1 hn)⟩
  · refine ⟨_, _, rfl, .inr ⟨b, rfl, hb, (Array.getElem?_eq_some_iff.1 hg).1, fun c hc => h.off c hc b rfl, fun i hi => ?_⟩⟩
    have e : (cur.toList.take (KL.length * 1))[i]? = (KL.map fun c => Value.pointer (some ⟨g c, 0, none⟩))[i]? := by rw [ht]
    rw [List.getElem?_take_of_lt (by omega)] at e
    simp [World.cell?, hg]
    simp at e
    rw [e]
    simp [nth, hi]
end Go.Proofs.Qxb6605187a
