import Derived.Test.Qxb6605187aCompMem2
import Derived.Test.Qxb6605187aLawKit
namespace Go.Proofs.Qxb6605187a
open Go.RowKit
set_option linter.unusedVariables false

/-- Peers -/
theorem peers_any (gb k c : Nat) (a : Option Addr) (w : World) (hk : k ≤ 70000) (h : w.cell? ⟨gb, 0, none⟩ = some (.slice a k c)) :
    Calls Try.prog 28 #[.pointer (some ⟨gb, 0, none⟩)] w fun e w' => e = .returned (.int .i64 ((k : Int) - 1)) ∧ w' = w := by
  go_enter Try.func28, Try.ntmps28
  go_wp2
  go_ret
  exact ⟨rfl, rfl⟩

/-- of and sizes are a partition of the peers that no link leaves -/
structure Part (S A of sizes : List Int) : Prop where
  len : of.length + 1 = S.length
  rng : ∀ v, v < of.length → 0 ≤ nth of v ∧ nth of v < sizes.length
  cnt : ∀ c, c < sizes.length → nth sizes c = cntTo of c of.length
  link : ∀ v, v < of.length → ∀ j, j < (nbr S A v).length → nth of (nth (nbr S A v) j).toNat = nth of v

/-- a graph in memory -/
def GAt (U : Nat → Prop) (w : World) (p : Nat) (S A : List Int) : Prop :=
  U p ∧ ∃ sa sc aa ac, w.cell? ⟨p, 0, none⟩ = some (.slice sa S.length sc) ∧ w.cell? ⟨p, 1, none⟩ = some (.slice aa A.length ac) ∧ A.length ≤ ac ∧ (aa = none → ac = 0) ∧ View U w .i64 sa S ∧ View U w .i32 aa A

/-- a list of graphs in memory -/
def GList (U : Nat → Prop) (w : World) (a : Option Addr) (gs : List (List Int × List Int)) : Prop :=
  gs = [] ∨ ∃ b off, U b ∧ a = some ⟨b, off, none⟩ ∧ ∀ i (h : i < gs.length), ∃ p, w.cell? ⟨b, off + i, none⟩ = some (.pointer (some ⟨p, 0, none⟩)) ∧ GAt U w p gs[i].1 gs[i].2

/-- the graphs that componentsOfSize gives -/
def subsOf (S A of sizes : List Int) (size : Int) : List (List Int × List Int) :=
  if size + 1 = S.length then [(S, A)] else (keptTo of sizes size of.length).map fun c => (stTo S A of c of.length, adjTo S A of c of.length)

def CompPost (S A of sizes : List Int) (size : Int) (w : World) (e : Ending) (w' : World) : Prop :=
  ∃ a cap, e = .returned (.slice a (subsOf S A of sizes size).length cap) ∧ Fix (fun b => b < w.heap.size) w w' ∧ GList (fun b => b < w'.heap.size) w' a (subsOf S A of sizes size)

/-- between the rounds of the first loop -/
def CInv1 (S A of sizes : List Int) (size : Int) (w1 : World) (rb k : Nat) (kv : Value) (wr : World) : Prop :=
  ∃ g ad R, CMem w1 rb of.length sizes.length size.toNat (keptTo of sizes size k) (fun c => stTo S A of c k) g ad R wr ∧ Kept rb (keptTo of sizes size k) (keptTo of sizes size k) g kv wr
    ∧ (∀ c, c ∈ keptTo of sizes size k → ad c = .slice none 0 0) ∧ ∀ u, u < k → nth sizes (nth of u).toNat = size → nth R u = rk of u

theorem CMem.base (w1 : World) (n m size : Nat) (T : Int → List Int) (g : Int → Nat) (ad : Int → Value) :
    CMem w1 w1.heap.size n m size [] T g ad (List.replicate n 0) ((w1.alloc (.cells (madeCells #[.int .i32 0] n) 21)).alloc (.cells (madeCells #[.pointer none] m) 30)) := by
  refine ⟨((Fix.refl _ _).alloc (fun k hk => hk) _).alloc (fun k hk => by simp; omega) _, Row.alloc (IRow.made w1 n 21 .i32) _, by simp, ?_, ?_, ?_, ?_, ?_⟩
  · have h := heap_alloc_new (w1.alloc (.cells (madeCells #[.int .i32 0] n) 21)) (.cells (madeCells #[.pointer none] m) 30)
    rw [show (w1.alloc (.cells (madeCells #[.int .i32 0] n) 21)).heap.size = w1.heap.size + 1 by simp] at h
    refine h.trans ?_
    simp [madeCells, Nat.mod_one, ptrs]
    apply Array.ext <;> simp
  · intro c hc; exact absurd hc (by simp)
  · intro c hc; exact absurd hc (by simp)
  · intro c hc; exact absurd hc (by simp)
  · intro c d hc; exact absurd hc (by simp)
theorem CInv1.zero (S A of sizes : List Int) (size : Int) (w1 : World) :
    CInv1 S A of sizes size w1 w1.heap.size 0 (.slice none 0 0) ((w1.alloc (.cells (madeCells #[.int .i32 0] of.length) 21)).alloc (.cells (madeCells #[.pointer none] sizes.length) 30)) :=
  ⟨fun _ => 0, fun _ => .slice none 0 0, List.replicate of.length 0, CMem.base _ _ _ _ _ _ _, Kept.nil _, fun _ _ => rfl, fun u hu => absurd hu (Nat.not_lt_zero _)⟩
theorem CInv1.skip {S A of sizes : List Int} {size : Int} {w1 : World} {rb k : Nat} {kv : Value} {wr : World} (h : CInv1 S A of sizes size w1 rb k kv wr) (hq : nth sizes (nth of k).toNat ≠ size) (d : Nat) :
    CInv1 S A of sizes size w1 rb (k + 1) kv (wr.drewN d) := by
  obtain ⟨g, ad, R, hM, hK, ha, hR⟩ := h
  refine ⟨g, ad, R, ?_, ?_, ?_, ?_⟩
  · rw [keptTo_skip _ _ _ _ hq]
    refine (hM.congr (fun c hc => ?_) (fun _ _ => rfl)).drewN d
    rw [stTo_no]
    intro e
    rw [keptTo_mem] at hc
    exact hq (e ▸ hc.1)
  · rw [keptTo_skip _ _ _ _ hq]; exact hK.drewN d
  · rw [keptTo_skip _ _ _ _ hq]; exact ha
  · intro u hu hs
    by_cases e : u = k
    · subst e; exact absurd hs hq
    · exact hR u (by omega) hs

theorem CInv1.step {S A of sizes : List Int} {size : Nat} {w1 : World} {rb k c : Nat} {kv : Value} {wr : World} {g : Int → Nat} {ad : Int → Value} {R : List Int} (hc : nth of k = c) (hk : k < of.length)
    (hM : CMem w1 rb of.length sizes.length size (keptTo of sizes size (k + 1)) (upd (fun c => stTo S A of c k) c (stTo S A of c k ++ [nth (stTo S A of c k) (cntTo of c k) + (nbr S A k).length])) g ad (R.set k (cntTo of c k : Nat)) wr)
    (hK : Kept rb (keptTo of sizes size (k + 1)) (keptTo of sizes size (k + 1)) g kv wr) (ha : ∀ c, c ∈ keptTo of sizes size (k + 1) → ad c = .slice none 0 0) (hR : ∀ u, u < k → nth sizes (nth of u).toNat = size → nth R u = rk of u) :
    CInv1 S A of sizes size w1 rb (k + 1) kv wr := by
  have hl : k < R.length := by have := hM.rl; rw [List.length_set] at this; omega
  refine ⟨g, ad, R.set k (cntTo of c k : Nat), ?_, hK, ha, ?_⟩
  · rw [Int.toNat_natCast]
    refine hM.congr (fun d hd => ?_) (fun _ _ => rfl)
    by_cases e : d = c
    · subst e; rw [upd_eq, stTo_yes _ _ _ _ _ hc]
    · rw [upd_ne _ _ e, stTo_no _ _ _ _ _ (by rw [hc]; exact fun h => e h.symm)]
  · intro u hu hs
    rw [nth_set _ _ _ _ hl]
    by_cases e : u = k
    · subst e; rw [if_pos rfl, rk, hc]
    · rw [if_neg e]; exact hR u (by omega) hs
theorem keptTo_len (of sizes : List Int) (size : Int) (v : Nat) : (keptTo of sizes size v).length ≤ v := by
  induction v with
  | zero => exact Nat.le_refl _
  | succ v ih =>
    unfold keptTo
    split
    · rw [List.length_append]; simp; omega
    · omega
theorem Try.i30 : (Try.prog.info? 30).map (fun i => (i.zero, i.size, i.bytes)) = some (some (.pointer none), 1, 8) := by kernel_rfl
/-- a class that is kept has as many peers as asked -/
theorem kept_size {S A of sizes : List Int} {size : Int} (hP : Part S A of sizes) {c : Int} (h : c ∈ keptTo of sizes size of.length) : 0 ≤ c ∧ c < sizes.length ∧ size = cntTo of c of.length := by
  rw [keptTo_mem] at h
  obtain ⟨h1, u, hu, h2⟩ := h
  have h3 := hP.rng u hu
  rw [h2] at h3
  have h4 := hP.cnt c.toNat (by omega)
  rw [Int.toNat_of_nonneg h3.1] at h4
  exact ⟨h3.1, h3.2, by omega⟩
/-- how many links a class holds -/
def totOf (S A of : List Int) (c : Int) : Nat := (adjTo S A of c of.length).length
/-- between the rounds of the second loop -/
def CInv2 (S A of sizes : List Int) (size : Int) (w1 : World) (rb j : Nat) (g : Int → Nat) (R : List Int) (kv : Value) (wr : World) : Prop :=
  ∃ ad a, CMem w1 rb of.length sizes.length size.toNat (keptTo of sizes size of.length) (fun c => stTo S A of c of.length) g ad R wr ∧ Kept rb (keptTo of sizes size of.length) (keptTo of sizes size of.length) g kv wr
    ∧ AMem rb ((keptTo of sizes size of.length).take j) (keptTo of sizes size of.length) g a (fun _ => []) (totOf S A of) kv wr ∧ ∀ c, c ∈ (keptTo of sizes size of.length).take j → ad c = .slice (some ⟨a c, 0, none⟩) 0 (totOf S A of c)
/-- between the rounds of the third loop -/
def CInv3 (S A of sizes : List Int) (size : Int) (w1 : World) (rb : Nat) (g a : Int → Nat) (R : List Int) (kv : Value) (D : Int → List Int) (wr : World) : Prop :=
  ∃ ad, CMem w1 rb of.length sizes.length size.toNat (keptTo of sizes size of.length) (fun c => stTo S A of c of.length) g ad R wr ∧ Kept rb (keptTo of sizes size of.length) (keptTo of sizes size of.length) g kv wr
    ∧ AMem rb (keptTo of sizes size of.length) (keptTo of sizes size of.length) g a D (totOf S A of) kv wr ∧ ∀ c, c ∈ keptTo of sizes size of.length → ad c = .slice (some ⟨a c, 0, none⟩) (D c).length (totOf S A of c)
theorem CInv3.drewN {S A of sizes : List Int} {size : Int} {w1 : World} {rb : Nat} {g a : Int → Nat} {R : List Int} {kv : Value} {D : Int → List Int} {wr : World} (h : CInv3 S A of sizes size w1 rb g a R kv D wr) (k : Nat) : CInv3 S A of sizes size w1 rb g a R kv D (wr.drewN k) := by
  obtain ⟨ad, h1, h2, h3, h4⟩ := h
  exact ⟨ad, h1.drewN k, h2.drewN k, h3.drewN k, h4⟩
theorem CInv3.congr {S A of sizes : List Int} {size : Int} {w1 : World} {rb : Nat} {g a : Int → Nat} {R : List Int} {kv : Value} {D D' : Int → List Int} {wr : World} (h : CInv3 S A of sizes size w1 rb g a R kv D wr) (hD : ∀ c, c ∈ keptTo of sizes size of.length → D c = D' c) : CInv3 S A of sizes size w1 rb g a R kv D' wr := by
  obtain ⟨ad, h1, h2, h3, h4⟩ := h
  exact ⟨ad, h1, h2, h3.congr hD, fun c hc => by rw [← hD c hc]; exact h4 c hc⟩
theorem nth_mem (xs : List Int) (i : Nat) (h : i < xs.length) : nth xs i ∈ xs := by
  have : nth xs i = xs[i] := by simp [nth, h]
  rw [this]; exact List.getElem_mem h
theorem take_nth (xs : List Int) (i : Nat) (h : i < xs.length) : xs.take (i + 1) = xs.take i ++ [nth xs i] := by
  have : nth xs i = xs[i] := by simp [nth, h]
  rw [this, List.take_succ_eq_append_getElem h]
theorem nth_notin (xs : List Int) (hd : xs.Nodup) (i : Nat) (h : i < xs.length) : nth xs i ∉ xs.take i := by
  have : nth xs i = xs[i] := by simp [nth, h]
  rw [this]
  intro hm
  obtain ⟨j, hj, e⟩ := List.getElem_of_mem hm
  rw [List.getElem_take] at e
  have hj2 : j < i := by simp at hj; omega
  exact (List.pairwise_iff_getElem.1 hd) j i (by omega) h hj2 e
/-- a row is made for one class more -/
theorem CInv2.step {S A of sizes : List Int} {size : Int} {w1 : World} {rb j : Nat} {g : Int → Nat} {R : List Int} {kv : Value} {wr : World} (h : CInv2 S A of sizes size w1 rb j g R kv wr) (hj : j < (keptTo of sizes size of.length).length) :
    CInv2 S A of sizes size w1 rb (j + 1) g R kv ((wr.alloc (.cells (madeCells #[.int .i32 0] (totOf S A of (nth (keptTo of sizes size of.length) j))) 21)).setCell ⟨g (nth (keptTo of sizes size of.length) j), 1, none⟩ (.slice (some ⟨wr.heap.size, 0, none⟩) 0 (totOf S A of (nth (keptTo of sizes size of.length) j)))) := by
  obtain ⟨ad, a, hM, hK, hA, had⟩ := h
  have hc := nth_mem _ _ hj
  have hn := nth_notin _ (keptTo_nodup of sizes size of.length) j hj
  refine ⟨upd ad (nth (keptTo of sizes size of.length) j) (.slice (some ⟨wr.heap.size, 0, none⟩) 0 (totOf S A of (nth (keptTo of sizes size of.length) j))), upd a (nth (keptTo of sizes size of.length) j) wr.heap.size, (hM.alloc _).setAdj _ hc _, (hK.alloc _).set _ (.inr ⟨_, hc, .inl rfl⟩) _, ?_, ?_⟩
  · rw [take_nth _ _ hj]
    exact hA.enter hM hK _ hc hn rfl _
  · intro d hd
    rw [take_nth _ _ hj] at hd
    by_cases e : d = nth (keptTo of sizes size of.length) j
    · rw [e, upd_eq, upd_eq]
    · rw [upd_ne _ _ e, upd_ne _ _ e]
      refine had d ?_
      rcases List.mem_append.1 hd with h | h
      · exact h
      · exact absurd (by simpa using h) e
/-- a link is added -/
theorem CInv3.step {S A of sizes : List Int} {size : Int} {w1 : World} {rb : Nat} {g a : Int → Nat} {R : List Int} {kv : Value} {D : Int → List Int} {wr : World} (h : CInv3 S A of sizes size w1 rb g a R kv D wr) (c : Int) (hc : c ∈ keptTo of sizes size of.length) (r : Int) (hl : (D c).length < totOf S A of c) (d : Nat) (o : Obj) :
    CInv3 S A of sizes size w1 rb g a R kv (upd D c (D c ++ [r])) ((((wr.drewN d).alloc o).setCell ⟨a c, (D c).length, none⟩ (.int .i32 r)).setCell ⟨g c, 1, none⟩ (.slice (some ⟨a c, 0, none⟩) ((D c).length + 1) (totOf S A of c))) := by
  obtain ⟨ad, hM, hK, hA, had⟩ := h
  have hA1 := (hA.drewN d).alloc o
  refine ⟨upd ad c (.slice (some ⟨a c, 0, none⟩) ((D c).length + 1) (totOf S A of c)), ((((hM.drewN d).alloc o).setLink hA1 c hc _ _).setAdj c hc _), ((((hK.drewN d).alloc o).setLink hA1 c hc _ _).set _ (.inr ⟨c, hc, .inl rfl⟩) _), hA1.push c hc r hl _, ?_⟩
  intro e he
  by_cases ec : e = c
  · subst ec; rw [upd_eq, upd_eq, List.length_append]; rfl
  · rw [upd_ne _ _ ec, upd_ne _ _ ec]; exact had e he
/-- a class that is not kept yet has no peer yet -/
theorem fresh_class {of sizes : List Int} {size : Int} {k : Nat} {c : Int} (hs : nth sizes c.toNat = size) (hn : c ∉ keptTo of sizes size k) (u : Nat) (hu : u < k) : nth of u ≠ c := fun e => hn ((keptTo_mem _ _ _ _ _).2 ⟨hs, u, hu, e⟩)
theorem stTo_fresh (S A : List Int) {of : List Int} {c : Int} (k : Nat) (h : ∀ u, u < k → nth of u ≠ c) : stTo S A of c k = [0] := by
  induction k with
  | zero => rfl
  | succ k ih => rw [stTo_no _ _ _ _ _ (h k (by omega))]; exact ih fun u hu => h u (by omega)
end Go.Proofs.Qxb6605187a
