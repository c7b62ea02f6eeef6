import Derived.Test.Qxb6605187aProg
import Derived.Test.Qxb6605187aCsr
namespace Go.Proofs.Qxb6605187a
open Go.RowKit
set_option linter.unusedVariables false

/-- csrOK: what its 'true' says -/
theorem csr_any (U : Nat → Prop) (a0 a1 : Option Addr) (c0 c1 : Nat) (S A : List Int) (w : World) (hS : S.length ≤ 70000) (hA : A.length ≤ 70000)
    (v0 : View U w .i64 a0 S) (v1 : View U w .i32 a1 A) (hw : Wf32 A) :
    Calls Try.prog 20 #[.slice a0 S.length c0, .slice a1 A.length c1] w (Ans (Csr S A) (fun _ => True) w) := by
  by_cases hlen : S.length < 1
  · go_enter Try.func20, Try.ntmps20
    go_wp2
    go_ret
    exact Ans.no (Fix.refl _ _)
  obtain ⟨b0, o0, hb0, rfl, hc0⟩ := v0.at (by omega)
  have x0 := hc0 0 (by omega)
  rw [Nat.add_zero] at x0
  have xn := hc0 (S.length - 1) (by omega)
  by_cases hz : nth S 0 = 0
  · have hz' : (nth S 0 != 0) = false := by simp [hz]
    have Hz : Hid (nth S 0 = 0) := hz
    clear hz
    by_cases hn : nth S (S.length - 1) = A.length
    · have hn' : (nth S (S.length - 1) != (A.length : Int)) = false := by simp [hn]
      have Hn : Hid (nth S (S.length - 1) = A.length) := hn
      have Hc0 : Hid (∀ (i : Nat), i < S.length → w.cell? ⟨b0, o0 + i, none⟩ = some (Value.int IntKind.i64 (nth S i))) := hc0
      clear hn hc0
      go_enter Try.func20, Try.ntmps20
      go_wp2
      go_loopw [6] (fun i wr => ∃ k : Nat, k + 1 ≤ S.length ∧ i = .int .i64 k ∧ Fix (fun _ => True) w wr ∧ Hid (∀ v, v < k → nth S v ≤ nth S (v + 1)))
        (fun i _ => S.length - (intOf i).toNat)
      case atStart => exact ⟨0, by omega, rfl, Fix.refl _ _, fun v hv => absurd hv (Nat.not_lt_zero _)⟩
      case round =>
        obtain ⟨k, hk, rfl, hfix, hmono⟩ := hrel
        clear x0 xn hz' hn'
        by_cases hlt : k + 1 < S.length
        · have y0 := (hfix.cell (p := ⟨b0, o0 + k, none⟩) trivial).trans (Hc0.out k (by omega))
          have y1 := (hfix.cell (p := ⟨b0, o0 + (k + 1), none⟩) trivial).trans (Hc0.out (k + 1) (by omega))
          have j1 : (k : Int) < S.length := by omega
          have j2 : (k : Int) + 1 < S.length := by omega
          by_cases hle : nth S k ≤ nth S (k + 1)
          · have hle' : ¬ nth S (k + 1) < nth S k := by omega
            go_wp2
            go_quiet (fail)
            go_wp2
            go_roundw
            case rel =>
              refine ⟨k + 1, by omega, by go_num, hfix.drewN _, fun v hv => ?_⟩
              by_cases e : v = k
              · rw [e]; exact hle
              · exact hmono.out v (by omega)
            case measure => simp [intOf]; omega
          · have hle' : nth S (k + 1) < nth S k := by omega
            go_wp2
            go_quiet (fail)
            go_wp2
            go_ret
            exact Ans.no (hfix.drewN _)
        · have Hmono : Hid (∀ v, v + 1 < S.length → nth S v ≤ nth S (v + 1)) := fun v hv => hmono.out v (by omega)
          obtain ⟨wo, rfl⟩ : ∃ wo : World, wo = wr := ⟨_, rfl⟩
          clear hmono
          go_wp2
          go_loopw [7] (fun i wr => ∃ k : Nat, k ≤ A.length ∧ i = .int .i64 k ∧ Fix (fun _ => True) w wr ∧ Hid (∀ v, v < k → 0 ≤ nth A v ∧ nth A v + 1 < S.length))
            (fun i _ => A.length - (intOf i).toNat)
          case atStart => exact ⟨0, by omega, rfl, hfix, fun v hv => absurd hv (Nat.not_lt_zero _)⟩
          case round =>
            clear hfix
            obtain ⟨m, hm, rfl, hfix, hadj⟩ := hrel
            by_cases hlm : m < A.length
            · obtain ⟨b1, o1, hb1, rfl, hc1⟩ := v1.at (by omega)
              have y1 := (hfix.cell (p := ⟨b1, o1 + m, none⟩) trivial).trans (hc1 m hlm)
              have hwm := hw m
              clear hc1 v1 hw
              by_cases hneg : nth A m < 0
              · go_wp2
                go_ret
                exact Ans.no hfix
              · by_cases hbig : nth A m + 1 < S.length
                · have hbig' : ¬ ((S.length : Int) - 1 ≤ nth A m) := by omega
                  go_wp2
                  go_roundw
                  case rel =>
                    refine ⟨m + 1, by omega, by go_num, hfix, fun v hv => ?_⟩
                    by_cases e : v = m
                    · rw [e]; omega
                    · exact hadj.out v (by omega)
                  case measure => simp [intOf]; omega
                · have hbig' : ((S.length : Int) - 1 ≤ nth A m) := by omega
                  go_wp2
                  go_ret
                  exact Ans.no hfix
            · go_wp2
              go_ret
              exact Ans.yes ⟨by omega, Hz.out, Hn.out, Hmono.out, fun i hi => hadj.out i (by omega)⟩ hfix
    · have hn' : (nth S (S.length - 1) != (A.length : Int)) = true := by simp [hn]
      clear hn hc0
      go_enter Try.func20, Try.ntmps20
      go_wp2
      go_ret
      exact Ans.no (Fix.refl _ _)
  · have hz' : (nth S 0 != 0) = true := by simp [hz]
    go_enter Try.func20, Try.ntmps20
    go_wp2
    go_ret
    exact Ans.no (Fix.refl _ _)
  
/-- gb is a graph (start S, adj A) that lies in the blocks of U -/
structure Graph (U : Nat → Prop) (w : World) (gb : Nat) (S A : List Int) : Prop where
  csr : Csr S A
  hS : S.length ≤ 70000
  hA : A.length ≤ 70000
  Ug : U gb
  wf : Wf32 A
  ex : ∃ sa sc aa ac, w.cell? ⟨gb, 0, none⟩ = some (.slice sa S.length sc) ∧ w.cell? ⟨gb, 1, none⟩ = some (.slice aa A.length ac) ∧ A.length ≤ ac ∧ (aa = none → ac = 0) ∧ View U w .i64 sa S ∧ View U w .i32 aa A

theorem Graph.fix {U : Nat → Prop} {w w' : World} {gb : Nat} {S A : List Int} (h : Graph U w gb S A) (hf : Fix U w w') : Graph U w' gb S A := by
  obtain ⟨h1, h2, h3, h4, h6, sa, sc, aa, ac, e0, e1, e2, e3, v0, v1⟩ := h
  exact ⟨h1, h2, h3, h4, h6, sa, sc, aa, ac, (hf.cell (p := ⟨gb, 0, none⟩) h4).trans e0, (hf.cell (p := ⟨gb, 1, none⟩) h4).trans e1, e2, e3, v0.fix hf, v1.fix hf⟩

/-- what Neighbours leaves -/
def NbrPost (U : Nat → Prop) (w : World) (xs : List Int) (e : Ending) (w' : World) : Prop := ∃ a c n, e = .returned (.slice a xs.length c) ∧ View U w .i32 a xs ∧ w' = w.drewN n

set_option maxHeartbeats 400000 in
/-- Neighbours -/
theorem nbrs_any {U : Nat → Prop} {w : World} {gb : Nat} {S A : List Int} (hG : Graph U w gb S A) (v : Nat) (hv : v + 1 < S.length) :
    Calls Try.prog 42 #[.pointer (some ⟨gb, 0, none⟩), .int .i64 v] w (NbrPost U w (nbr S A v)) := by
  obtain ⟨hcsr, hl, hA, _, _, sa, sc, aa, ac, h0, h1, hac, hnone, v0, v1⟩ := hG
  obtain ⟨sb, so, _, rfl, hc⟩ := v0.at (by omega)
  have c0 := hc v (by omega)
  have c1 := hc (v + 1) hv
  have hs0 := hcsr.nonneg v (by omega)
  have hs1 := hcsr.mono v hv
  have hs2 := hcsr.le_len (v + 1) hv
  have hnl := hcsr.nbr_len v hv
  have hnl' : (nth S (v + 1)).toNat - (nth S v).toNat = (nbr S A v).length := hnl.symm
  have Hnl : Hid ((nth S (v + 1)).toNat - (nth S v).toNat = (nbr S A v).length) := hnl'
  have Hsub : Hid (∀ j, j < (nbr S A v).length → nth (nbr S A v) j = nth A ((nth S v).toNat + j) ∧ (nth S v).toNat + j < A.length) := by
    intro j hj
    have := hcsr.st_le (v + 1) hv
    have e : st S v = (nth S v).toNat := rfl
    exact ⟨nth_nbr S A v j (by omega), by omega⟩
  clear hnl hnl' hc v0 hcsr
  have i0 : (0:Int) ≤ v := by omega
  have i1 : (v:Int) < S.length := by omega
  have i2 : ((v:Int) + 1) < S.length := by omega
  cases aa with
  | none =>
    have hac0 : ac = 0 := hnone rfl
    subst hac0
    have hA0 : A.length = 0 := by omega
    have z1 : nth S (v + 1) = 0 := by omega
    have z0 : nth S v = 0 := by omega
    have hn0 : (nbr S A v).length = 0 := by have := Hnl.out; omega
    rw [z1] at c1
    rw [z0] at c0
    rw [hA0] at h1
    have Hn0 : Hid ((nbr S A v).length = 0) := hn0
    clear z1 z0 hn0 hs0 hs1 hs2 hnone
    go_enter Try.func42, Try.ntmps42
    go_wp2
    go_quiet (fail)
    go_wp2
    go_ret
    refine ⟨none, 0, _, ?_, .inl (List.length_eq_zero_iff.1 Hn0.out), rfl⟩
    rw [Hn0.out]
    rfl
  | some p =>
    clear hnone
    go_enter Try.func42, Try.ntmps42
    go_wp2
    go_quiet (fail)
    go_wp2
    · go_ret
      have hz : (nbr S A v).length = 0 := by have := Hnl.out; omega
      exact ⟨some p, 0, _, by rw [← Hnl.out]; rfl, .inl (List.length_eq_zero_iff.1 hz), rfl⟩
    · go_ret
      refine ⟨some (p.add (nth S v).toNat), ac - (nth S v).toNat, _, by rw [← Hnl.out]; rfl, ?_, rfl⟩
      rcases v1 with h | ⟨ab, ao, hb, hp, hc⟩
      · left
        apply List.length_eq_zero_iff.1
        have := Hnl.out
        subst h
        simp at hs2
        omega
      · right
        injection hp with hp
        subst hp
        refine ⟨ab, ao + (nth S v).toNat, hb, by simp [Addr.add], fun j hj => ?_⟩
        have := Hsub.out j hj
        rw [this.1, Nat.add_assoc]
        exact hc _ this.2

def PtrPost (w W : World) (gb : Nat) (e : Ending) (w' : World) : Prop := e = .returned (.pointer (some ⟨gb, 0, none⟩)) ∧ w' = W
/-- ZZGraph -/
theorem graph_any (sa aa : Option Addr) (n sc m ac : Nat) (w : World) :
    Calls Try.prog 14 #[.slice sa n sc, .slice aa m ac] w (PtrPost w (w.alloc (.cells #[.slice sa n sc, .slice aa m ac] 55)) w.heap.size) := by
  go_enter Try.func14, Try.ntmps14
  go_wp2
  go_ret
  exact ⟨rfl, rfl⟩

end Go.Proofs.Qxb6605187a
