import Derived.Test.Qxb6605187aWalkA
namespace Go.Proofs.Qxb6605187a
open Go.RowKit
set_option linter.unusedVariables false

theorem mem_nbr {S A : List Int} (hcsr : Csr S A) {v i : Nat} (hv : v + 1 < S.length) (h1 : st S v ≤ i) (h2 : i < st S (v + 1)) : nth A i ∈ nbr S A v := by
  have hl := hcsr.nbr_len v hv
  have e := nth_nbr S A v (i - st S v) (by omega)
  have e2 : st S v + (i - st S v) = i := by omega
  rw [e2] at e
  rw [← e]
  have hj : i - st S v < (nbr S A v).length := by omega
  have e3 : nth (nbr S A v) (i - st S v) = (nbr S A v)[i - st S v] := by simp [nth, hj]
  rw [e3]
  exact List.getElem_mem hj

set_option maxHeartbeats 1000000 in
/-- hasLink: what its 'true' says -/
theorem link_any (U : Nat → Prop) (a0 a1 : Option Addr) (c0 c1 : Nat) (S A : List Int) (v : Nat) (x : Int) (w : World) (hcsr : Csr S A) (hS : S.length ≤ 70000) (hA : A.length ≤ 70000) (hv : v + 1 < S.length)
    (v0 : View U w .i64 a0 S) (v1 : View U w .i32 a1 A) :
    Calls Try.prog 40 #[.slice a0 S.length c0, .slice a1 A.length c1, .int .i64 v, .int .i32 x] w (Ans (x ∈ nbr S A v) (fun _ => True) w) := by
  obtain ⟨b0, o0, _, rfl, hc0⟩ := v0.at (by omega)
  have y0 := hc0 v (by omega)
  rw [← hcsr.st v (by omega)] at y0
  have y1 := hc0 (v + 1) hv
  rw [← hcsr.st (v + 1) hv] at y1
  have hmo := hcsr.st_mono v hv
  have hle := hcsr.st_le (v + 1) hv
  have i0 : (v : Int) < S.length := by omega
  have i1 : (v : Int) + 1 < S.length := by omega
  have Hcsr : Hid (Csr S A) := hcsr
  clear hc0 v0 hcsr
  go_enter Try.func40, Try.ntmps40
  go_wp2
  go_quiet (fail)
  go_wp2
  go_loop [9, 10] (fun lo hi => ∃ l h : Nat, st S v ≤ l ∧ l ≤ h ∧ h ≤ st S (v + 1) ∧ lo = .int .i64 l ∧ hi = .int .i64 h) (fun lo hi => (intOf hi - intOf lo).toNat)
  case atStart => exact ⟨st S v, st S (v + 1), Nat.le_refl _, hmo, Nat.le_refl _, rfl, rfl⟩
  case round =>
    obtain ⟨l, h, hl1, hl2, hl3, rfl, rfl⟩ := hrel
    by_cases hlt : l < h
    · obtain ⟨b1, o1, _, rfl, hc1⟩ := v1.at (by omega)
      have y := hc1 (l + (h - l) / 2) (by omega)
      clear hc1 v1 y0
      by_cases ht : nth A (l + (h - l) / 2) < x
      · go_wp2
        go_round
        case rel => exact ⟨l + (h - l) / 2 + 1, h, by omega, by omega, by omega, by go_num, rfl⟩
        case measure => simp [intOf]; omega
      · go_wp2
        go_round
        case rel => exact ⟨l, l + (h - l) / 2, by omega, by omega, by omega, rfl, by go_num⟩
        case measure => simp [intOf]; omega
    · by_cases hin : l < st S (v + 1)
      · obtain ⟨b1, o1, _, rfl, hc1⟩ := v1.at (by omega)
        have y := hc1 l (by omega)
        clear hc1 v1 y0
        by_cases he : nth A l = x
        · have he' : (nth A l == x) = true := by simp [he]
          have Hm : Hid (x ∈ nbr S A v) := by have := mem_nbr Hcsr.out hv hl1 hin; rw [he] at this; exact this
          clear he
          go_wp2
          go_ret
          exact Ans.yes Hm.out ((Fix.refl _ _).drewN _)
        · have he' : (nth A l == x) = false := by simp [he]
          go_wp2
          go_ret
          exact Ans.no ((Fix.refl _ _).drewN _)
      · go_wp2
        go_ret
        exact Ans.no ((Fix.refl _ _).drewN _)

/-- every link stands in both lists -/
def Sym (S A : List Int) : Prop := ∀ v : Nat, v + 1 < S.length → ∀ u : Int, u ∈ nbr S A v → (v : Int) ∈ nbr S A u.toNat

theorem sym_of {S A : List Int} (hcsr : Csr S A) (h : ∀ v, v + 1 < S.length → ∀ i, st S v ≤ i → i < st S (v + 1) → (v : Int) ∈ nbr S A (nth A i).toNat) : Sym S A := by
  intro v hv u hu
  obtain ⟨j, hj, e⟩ := List.getElem_of_mem hu
  have hl := hcsr.nbr_len v hv
  have h1 := nth_nbr S A v j (by omega)
  have h2 : nth (nbr S A v) j = u := by rw [← e]; simp [nth, hj]
  rw [← h2, h1]
  exact h v hv (st S v + j) (by omega) (by omega)

set_option maxHeartbeats 2000000 in
/-- undirectedOK: what its 'true' says -/
theorem und_any (U : Nat → Prop) (a0 a1 : Option Addr) (c0 c1 : Nat) (S A : List Int) (w : World) (hcsr : Csr S A) (hS : S.length ≤ 70000) (hA : A.length ≤ 70000)
    (v0 : View U w .i64 a0 S) (v1 : View U w .i32 a1 A) :
    Calls Try.prog 25 #[.slice a0 S.length c0, .slice a1 A.length c1] w (Ans (Sym S A) (fun _ => True) w) := by
  have hl := hcsr.len
  obtain ⟨b0, o0, hb0, rfl, hc0⟩ := v0.at (by omega)
  have Hc0 : Hid (∀ (i : Nat), i < S.length → w.cell? ⟨b0, o0 + i, none⟩ = some (Value.int IntKind.i64 (nth S i))) := hc0
  have Hcsr : Hid (Csr S A) := hcsr
  clear hc0 hcsr
  go_enter Try.func25, Try.ntmps25
  go_wp2
  go_loopw [6] (fun i wr => ∃ k : Nat, k + 1 ≤ S.length ∧ i = .int .i64 k ∧ Fix (fun _ => True) w wr ∧ Hid (∀ v, v < k → ∀ i, st S v ≤ i → i < st S (v + 1) → (v : Int) ∈ nbr S A (nth A i).toNat))
    (fun i _ => S.length - (intOf i).toNat)
  case atStart => exact ⟨0, by omega, rfl, Fix.refl _ _, fun v hv => absurd hv (Nat.not_lt_zero _)⟩
  case round =>
    obtain ⟨k, hk, rfl, hfix, hsym⟩ := hrel
    by_cases hlt : k + 1 < S.length
    · have y0 := (hfix.cell (p := ⟨b0, o0 + k, none⟩) trivial).trans (Hc0.out k (by omega))
      rw [← Hcsr.out.st k (by omega)] at y0
      have hmo := Hcsr.out.st_mono k hlt
      have hle := Hcsr.out.st_le (k + 1) hlt
      obtain ⟨wo, rfl⟩ : ∃ wo : World, wo = wr := ⟨_, rfl⟩
      have hb14 : decide ((k : Int) < (S.length : Int) - 1) = true := by simp; omega
      go_wp2
      go_loopw [7] (fun i wr => ∃ j : Nat, st S k ≤ j ∧ j ≤ st S (k + 1) ∧ i = .int .i64 j ∧ Fix (fun _ => True) w wr ∧ Hid (∀ i, st S k ≤ i → i < j → (k : Int) ∈ nbr S A (nth A i).toNat))
        (fun i _ => st S (k + 1) - (intOf i).toNat)
      case atStart => exact ⟨st S k, Nat.le_refl _, hmo, rfl, hfix, fun i h1 h2 => by omega⟩
      case round =>
        clear hfix y0
        obtain ⟨j, hj1, hj2, rfl, hfix, hin⟩ := hrel
        have y0 := (hfix.cell (p := ⟨b0, o0 + k, none⟩) trivial).trans (Hc0.out k (by omega))
        rw [← Hcsr.out.st k (by omega)] at y0
        have y1 := (hfix.cell (p := ⟨b0, o0 + (k + 1), none⟩) trivial).trans (Hc0.out (k + 1) hlt)
        rw [← Hcsr.out.st (k + 1) hlt] at y1
        by_cases hlj : j < st S (k + 1)
        · obtain ⟨b1, o1, hb1, rfl, hc1⟩ := v1.at (by omega)
          have z := (hfix.cell (p := ⟨b1, o1 + j, none⟩) trivial).trans (hc1 j (by omega))
          have hr := Hcsr.out.adj j (by omega)
          obtain ⟨u, hu⟩ : ∃ u : Nat, nth A j = u := ⟨(nth A j).toNat, by omega⟩
          rw [hu] at z hr
          have Hu : Hid (nth A j = u) := hu
          clear hu
          by_cases heq : u = k
          · have heq' : ((u : Int) == (k : Int)) = true := by simp; omega
            clear heq hc1
            go_wp2
            go_ret
            exact Ans.no hfix
          · have heq' : ((u : Int) == (k : Int)) = false := by simp; omega
            have Heq : Hid (¬ u = k) := heq
            clear heq
            by_cases hgt : st S k < j
            · have z2 := (hfix.cell (p := ⟨b1, o1 + (j - 1), none⟩) trivial).trans (hc1 (j - 1) (by omega))
              have q0 : (k : Int) < S.length := by omega
              have q1 : (j : Int) < A.length := by omega
              have q2 : (0 : Int) ≤ (j : Int) - 1 := by omega
              have q3 : (j : Int) - 1 < A.length := by omega
              have hgt' : (st S k : Int) < j := by omega
              clear hc1
              by_cases hasc : (u : Int) ≤ nth A (j - 1)
              · go_wp2
                go_quiet (fail)
                go_wp2
                go_ret
                exact Ans.no (hfix.drewN _)
              · go_wp2
                go_quiet (fail)
                go_wp2_with fail
                refine (link_any U _ _ c0 c1 S A u k _ Hcsr.out hS hA (by omega) (v0.fix ((hfix.drewN _).mono fun _ _ => trivial)) (v1.fix ((hfix.drewN _).mono fun _ _ => trivial))).mono ?_
                rintro e w2 ⟨b, rfl, hb, hf2⟩
                have hfix2 : Fix (fun _ => True) w w2 := (hfix.drewN _).trans hf2
                cases b with
                | false =>
                  go_wp2
                  go_ret
                  exact Ans.no hfix2
                | true =>
                  have Hb : Hid ((k : Int) ∈ nbr S A u) := hb rfl
                  clear hb hf2 z y0 y1
                  go_wp2
                  go_roundw
                  case rel =>
                    refine ⟨j + 1, by omega, by omega, by go_num, hfix2, fun i h1 h2 => ?_⟩
                    by_cases e : i = j
                    · rw [e, Hu.out, Int.toNat_natCast]; exact Hb.out
                    · exact hin.out i h1 (by omega)
                  case measure => simp [intOf]; omega
            · have hgt' : decide ((st S k : Int) < (j : Int)) = false := by simp; omega
              have q0 : (k : Int) < S.length := by omega
              clear hc1
              go_wp2
              go_quiet (fail)
              go_wp2_with fail
              refine (link_any U _ _ c0 c1 S A u k _ Hcsr.out hS hA (by omega) (v0.fix ((hfix.drewN _).mono fun _ _ => trivial)) (v1.fix ((hfix.drewN _).mono fun _ _ => trivial))).mono ?_
              rintro e w2 ⟨b, rfl, hb, hf2⟩
              have hfix2 : Fix (fun _ => True) w w2 := (hfix.drewN _).trans hf2
              cases b with
              | false =>
                go_wp2
                go_ret
                exact Ans.no hfix2
              | true =>
                have Hb : Hid ((k : Int) ∈ nbr S A u) := hb rfl
                clear hb hf2 z y0 y1
                go_wp2
                go_roundw
                case rel =>
                  refine ⟨j + 1, by omega, by omega, by go_num, hfix2, fun i h1 h2 => ?_⟩
                  by_cases e : i = j
                  · rw [e, Hu.out, Int.toNat_natCast]; exact Hb.out
                  · exact hin.out i h1 (by omega)
                case measure => simp [intOf]; omega
        · clear v1
          go_wp2
          go_roundw
          case rel =>
            refine ⟨k + 1, by omega, by go_num, hfix, fun v hv i h1 h2 => ?_⟩
            by_cases e : v = k
            · subst e; exact hin.out i h1 (by omega)
            · exact hsym.out v (by omega) i h1 h2
          case measure => simp [intOf]; omega
    · go_wp2
      go_ret
      exact Ans.yes (sym_of Hcsr.out fun v hv i h1 h2 => hsym.out v (by omega) i h1 h2) hfix
end Go.Proofs.Qxb6605187a
