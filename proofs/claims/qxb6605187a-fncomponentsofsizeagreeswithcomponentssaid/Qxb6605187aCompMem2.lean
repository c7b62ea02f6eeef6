import Derived.Test.Qxb6605187aCompMem
namespace Go.Proofs.Qxb6605187a
open Go.RowKit
set_option linter.unusedVariables false

/-- the rows of the links: for each class c of K' the row a c, whose first numbers are D c -/
structure AMem (rb : Nat) (K' K : List Int) (g a : Int → Nat) (D : Int → List Int) (tot : Int → Nat) (kv : Value) (wr : World) : Prop where
  row : ∀ c, c ∈ K' → IRow wr (a c) 21 .i32 (pad (D c) (tot c))
  lo : ∀ c, c ∈ K' → rb + 2 ≤ a c
  off : ∀ c d, c ∈ K' → d ∈ K → a c ≠ g d ∧ a c ≠ g d - 1
  koff : ∀ c, c ∈ K' → kv.ownBlock ≠ some (a c)
  inj : ∀ c d, c ∈ K' → d ∈ K' → c ≠ d → a c ≠ a d
section
variable {w1 wr w' : World} {rb n m size : Nat} {K' K : List Int} {T : Int → List Int} {g a : Int → Nat} {ad : Int → Value} {R : List Int} {D : Int → List Int} {tot : Int → Nat} {kv : Value}
theorem AMem.keep (h : AMem rb K' K g a D tot kv wr) (hs : ∀ b, b < wr.heap.size → (∃ c, c ∈ K' ∧ b = a c) → w'.heap[b]? = wr.heap[b]?) : AMem rb K' K g a D tot kv w' :=
  ⟨fun c hc => (hs _ (Row.lt (h.row c hc)) ⟨c, hc, rfl⟩).trans (h.row c hc), h.lo, h.off, h.koff, h.inj⟩
theorem AMem.drewN (h : AMem rb K' K g a D tot kv wr) (k : Nat) : AMem rb K' K g a D tot kv (wr.drewN k) := h.keep fun _ _ _ => rfl
theorem AMem.alloc (h : AMem rb K' K g a D tot kv wr) (o : Obj) : AMem rb K' K g a D tot kv (wr.alloc o) := h.keep fun b hb _ => Below.heap_alloc _ _ _ hb
theorem AMem.congr (h : AMem rb K' K g a D tot kv wr) {D' : Int → List Int} (hD : ∀ c, c ∈ K' → D c = D' c) : AMem rb K' K g a D' tot kv wr :=
  ⟨fun c hc => by rw [← hD c hc]; exact h.row c hc, h.lo, h.off, h.koff, h.inj⟩
theorem AMem.nil (wr : World) : AMem rb [] K g a D tot kv wr := by
  refine ⟨?_, ?_, ?_, ?_, ?_⟩ <;> intro c
  all_goals first | (intro hc; exact absurd hc (by simp)) | (intro d hc; exact absurd hc (by simp))
/-- a row of links is made -/
theorem AMem.enter (h : AMem rb K' K g a D tot kv wr) (hM : CMem w1 rb n m size K T g ad R wr) (hK : Kept rb K K g kv wr) (c : Int) (hc : c ∈ K) (hn : c ∉ K') (hD : D c = []) (x : Value) :
    AMem rb (K' ++ [c]) K g (upd a c wr.heap.size) D tot kv ((wr.alloc (.cells (madeCells #[.int .i32 0] (tot c)) 21)).setCell ⟨g c, 1, none⟩ x) := by
  have hne : ∀ d, d ∈ K' → d ≠ c := fun d hd e => hn (e ▸ hd)
  have hmem : ∀ d, d ∈ K' ++ [c] → d ∈ K' ∨ d = c := fun d hd => by simpa using hd
  have hlt := (hM.st c hc).lt
  refine ⟨?_, ?_, ?_, ?_, ?_⟩
  · intro d hd
    rcases hmem d hd with hd | rfl
    · rw [upd_ne _ _ (hne d hd)]
      exact Row.setOther (Row.alloc (h.row d hd) _) (h.off d c hd hc).1 _
    · rw [upd_eq, hD]
      have e : pad [] (tot d) = List.replicate (tot d) 0 := by simp [pad]
      rw [e]
      exact Row.setOther (IRow.made wr (tot d) 21 .i32) (by show wr.heap.size ≠ g d; omega) _
  · intro d hd
    rcases hmem d hd with hd | rfl
    · rw [upd_ne _ _ (hne d hd)]; exact h.lo d hd
    · rw [upd_eq]; have := hM.sub.lt; omega
  · intro d e hd he
    have := (hM.st e he).lt
    rcases hmem d hd with hd | rfl
    · rw [upd_ne _ _ (hne d hd)]; exact h.off d e hd he
    · rw [upd_eq]; omega
  · intro d hd
    rcases hmem d hd with hd | rfl
    · rw [upd_ne _ _ (hne d hd)]; exact h.koff d hd
    · rw [upd_eq]; intro e; have := (hK.own.lt _ e).2; omega
  · intro d e hd he hde
    rcases hmem d hd with hd' | hd'
    · rw [upd_ne _ _ (hne d hd')]
      rcases hmem e he with he' | he'
      · rw [upd_ne _ _ (hne e he')]; exact h.inj d e hd' he' hde
      · rw [he', upd_eq]; have := Row.lt (h.row d hd'); omega
    · rw [hd', upd_eq]
      rcases hmem e he with he' | he'
      · rw [upd_ne _ _ (hne e he')]; have := Row.lt (h.row e he'); omega
      · exact absurd (hd'.trans he'.symm) hde
/-- a link joins -/
theorem AMem.push (h : AMem rb K K g a D tot kv wr) (c : Int) (hc : c ∈ K) (r : Int) (hl : (D c).length < tot c) (x : Value) :
    AMem rb K K g a (upd D c (D c ++ [r])) tot kv ((wr.setCell ⟨a c, (D c).length, none⟩ (.int .i32 r)).setCell ⟨g c, 1, none⟩ x) := by
  refine ⟨?_, h.lo, h.off, h.koff, h.inj⟩
  intro d hd
  have := (h.off d c hd hc).1
  refine Row.setOther ?_ this _
  by_cases e : d = c
  · subst e
    rw [upd_eq]
    have := IRow.set (h.row d hd) (D d).length r
    rw [pad_push _ _ _ hl] at this
    exact this
  · rw [upd_ne _ _ e]
    exact Row.setOther (h.row d hd) (h.inj d c hd hc e) _
/-- a store into a row of links leaves the rest -/
theorem CMem.setLink (h : CMem w1 rb n m size K T g ad R wr) (hA : AMem rb K K g a D tot kv wr) (c : Int) (hc : c ∈ K) (i : Nat) (x : Value) : CMem w1 rb n m size K T g ad R (wr.setCell ⟨a c, i, none⟩ x) := by
  have hlo := hA.lo c hc
  refine h.keep ((Fix.refl _ _).setCell (by show ¬ a c < rb; omega) _) fun b hb hs => Below.heap_setCell _ _ _ _ ?_
  rcases hs with rfl | rfl | ⟨d, hd, hs⟩
  · show b ≠ a c; omega
  · show rb + 1 ≠ a c; omega
  · have := hA.off c d hc hd
    show b ≠ a c
    omega
theorem Kept.setLink (h : Kept rb K K g kv wr) (hA : AMem rb K K g a D tot kv wr) (c : Int) (hc : c ∈ K) (i : Nat) (x : Value) : Kept rb K K g kv (wr.setCell ⟨a c, i, none⟩ x) := by
  refine h.keep fun b hb => Below.heap_setCell _ _ _ _ ?_
  intro e
  exact hA.koff c hc (hb.trans (congrArg some e))
end
end Go.Proofs.Qxb6605187a
