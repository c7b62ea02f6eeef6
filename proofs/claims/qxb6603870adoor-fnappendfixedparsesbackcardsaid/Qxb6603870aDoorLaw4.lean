import Derived.Test.Qxb6603870aDoorParse
namespace Go.Proofs.Qxb6603870aDoor
open Go.RowKit
set_option linter.unusedVariables false

set_option maxHeartbeats 400000 in
theorem bytes12 (a0 : Option Addr) (n0 c0 : Nat) (y z : Int) (w : World) (h0 : n0 ≤ maxLen) :
    Calls Tryd.prog 12 #[.slice a0 n0 c0, .int .i64 y, .int .i64 z] w (SomeBool w) := by
  unfold maxLen at *
  go_enter Tryd.func12, Tryd.ntmps12
  go_wp2
  all_goals
    go_ret
    exact SomeBool.mk _

theorem fixedOf_pos (v : Int) (p : Nat) : 1 ≤ (fixedOf v p).length := by
  unfold fixedOf
  simp only [List.length_append, List.length_cons, List.length_nil]
  omega
/-- the two halves of what came back -/
theorem halves {w : World} {B : Nat} {gv : Value} {xs l : List Int} (h : w.ownsRow B 5 1 gv (xs ++ l).length ((xs ++ l).map (Value.int .u8))) (h0 : 1 ≤ l.length) :
    ∃ g cap, gv = .slice (some ⟨g, 0, none⟩) (xs ++ l).length cap ∧ (xs ++ l).length ≤ cap ∧ View (fun b => b < w.heap.size) w .u8 (some ⟨g, 0, none⟩) xs ∧ View (fun b => b < w.heap.size) w .u8 (some ⟨g, xs.length, none⟩) l := by
  have hpos : 0 < (xs ++ l).length := by simp; omega
  rcases h.2 with ⟨rfl, h2⟩ | ⟨g, cap, cur, rfl, a1, a2, a3, a4⟩
  · omega
  · have hc : ∀ i, i < (xs ++ l).length → w.cell? ⟨g, i, none⟩ = some (.int .u8 (nth (xs ++ l) i)) := by
      intro i hi
      have := h.cells (g := g) rfl i (.int .u8 (nth (xs ++ l) i)) (by rw [List.getElem?_map]; simp only [nth, List.getD_eq_getElem?_getD, List.getElem?_eq_getElem hi]; rfl)
      rw [Lib.add_plain, Nat.zero_add] at this
      exact this
    have hlt := (h.lt g rfl).2
    refine ⟨g, cap, rfl, a3, .inr ⟨g, 0, hlt, rfl, fun i hi => ?_⟩, .inr ⟨g, xs.length, hlt, rfl, fun i hi => ?_⟩⟩
    · rw [Nat.zero_add, hc i (by simp; omega), nth_app_left _ _ _ hi]
    · rw [hc (xs.length + i) (by simp; omega), nth_app_right]

set_option maxHeartbeats 2000000 in
set_option maxRecDepth 100000 in
theorem law4 (ba : Option Addr) (bc : Nat) (xs : List Int) (v z : Int) (w : World) (m0 : xs.length ≤ maxLen) (hv : -9223372036854775808 ≤ v ∧ v ≤ 9223372036854775807) (hz : -9223372036854775808 ≤ z ∧ z ≤ 9223372036854775807)
    (v0 : View (fun b => b < w.heap.size) w .u8 ba xs) (htab : Lib.TabIs Tryd.prog w "internal/strconv.uint64pow10" .u64 Lib.pow10Tab) :
    Calls Tryd.prog 4 #[.slice ba xs.length bc, .int .i64 v, .int .i64 z] w (LawPost w) := by
  go_enter Tryd.func4, Tryd.ntmps4
  go_wp2_with fail
  refine (bytes12 _ _ _ _ _ _ m0).mono ?_
  rintro e w' ⟨b, rfl, rfl⟩
  unfold maxLen at m0
  cases b with
  | false =>
    go_wp2
    go_ret
    exact ⟨rfl, Fix.refl _ _⟩
  | true =>
    by_cases t0 : 1048576 < xs.length
    · go_wp2
      go_ret
      exact ⟨rfl, Fix.refl _ _⟩
    by_cases t1 : z < 1
    · have t1' : decide (z < 1) = true := decide_eq_true t1
      go_wp2
      go_ret
      exact ⟨rfl, Fix.refl _ _⟩
    by_cases t2 : 19 < z
    · have t1' : decide (z < 1) = false := decide_eq_false t1
      have t2' : decide (19 < z) = true := decide_eq_true t2
      go_wp2
      go_ret
      exact ⟨rfl, Fix.refl _ _⟩
    obtain ⟨p, hp⟩ : ∃ p : Nat, z = p := ⟨z.toNat, by omega⟩
    subst hp
    have hp : 1 ≤ p ∧ p ≤ 19 := by omega
    have HT : Hid _ := htab
    clear htab
    go_wp2_with fail
    refine (clone8 _ ba bc xs _ (by omega) v0 (fun k hk => hk)).mono ?_
    rintro e w1 ⟨a1, rfl, F1, hf1⟩
    have Hf1 : Hid _ := hf1
    have HT1 : Hid _ := tab_below HT.out hf1.below
    have hc2 := clone8 _ a1 xs.length xs w1 (by omega) F1.view (fun k hk => hk)
    have Hc2 : Hid _ := hc2
    have HF1 : Hid _ := F1
    clear v0 hf1 HT hc2 F1
    go_wp2_with fail
    refine Calls.mono Hc2.out ?_
    rintro e w2 ⟨a2, rfl, F2, hf2⟩
    have Hf2 : Hid _ := Hf1.out.up hf2
    have HT2 : Hid _ := tab_below HT1.out hf2.below
    have F12 := Full.below HF1.out hf2.below
    have Hz : Hid _ := zz9_any a1 xs v p w2 F12 (by omega) hv hp HT2.out
    have HF2 : Hid _ := F2
    clear F2 F12 hf2 Hf1 HT1 HF1 Hc2
    go_wp2_with fail
    refine Calls.mono Hz.out ?_
    rintro e w3 ⟨gv, rfl, hown3, hbel3⟩
    have Hf3 : Hid _ := Hf2.out.up (fix_of_below hbel3)
    have F23 := Full.below HF2.out hbel3
    have hys : xs.length + (fixedOf v p).length = (xs ++ fixedOf v p).length := by simp
    rw [hys, ← List.map_append] at hown3
    have hlp := fixedOf_pos v p
    have hll := fixedOf_len v p hv (by omega)
    obtain ⟨g, gc, rfl, hgc, gV1, gV2⟩ := halves hown3 hlp
    rw [← hys] at hgc ⊢
    obtain ⟨fl, hfl⟩ : ∃ fl, fl = (fixedOf v p).length := ⟨_, rfl⟩
    obtain ⟨n, hn⟩ : ∃ n, n = xs.length := ⟨_, rfl⟩
    have Hs1 : Hid _ := same_any _ (some ⟨g, 0, none⟩) a2 gc xs.length xs w3 (by omega) gV1 F23.view
    have Hpa : Hid (∀ m, Calls Tryd.prog 13 #[.slice (some ⟨g, xs.length, none⟩) (fixedOf v p).length (gc - xs.length), .int .i64 p] (w3.drewN m) fun e w' => e = .returned (.tuple #[.bool (decide (v < 0)), .int .u64 (v.natAbs : Int), .bool true]) ∧ w' = w3.drewN m) := fun m =>
      parse_any (fun b => b < w3.heap.size) _ _ v p (w3.drewN m) (gV2.fix ((Fix.refl _ _).drewN m)) hv hp
    have Hma : Hid (∀ m, Calls Tryd.prog 14 #[.int .i64 v] (w3.drewN m) fun e w' => e = .returned (.int .u64 (v.natAbs : Int)) ∧ w' = w3.drewN m) := fun m => mag_any v _ hv
    rw [← hfl] at hgc hlp hll Hpa ⊢
    rw [← hn] at hgc Hs1 Hpa t0 m0 ⊢
    have j1 : decide (((n + fl : Nat) : Int) < (n : Int)) = false := decide_eq_false (by omega)
    have j2 : decide (n + fl < n) = false := decide_eq_false (by omega)
    have j3 : ¬ gc = n := by omega
    have j4 : (n : Int) ≤ (gc : Int) := by omega
    have j5 : n + fl - n = fl := by omega
    have j6 : (n : Int) ≤ ((n + fl : Nat) : Int) := by omega
    have Hn : Hid (n = xs.length) := hn
    clear F23 hbel3 hown3 HF2 HT2 Hz Hf2 hys gV1 gV2 hfl hn
    go_wp2_with fail
    refine Calls.mono Hs1.out ?_
    rintro e w4 ⟨rfl, m, rfl⟩
    have Hpa := Lib.hid (Hpa.out m)
    have Hma := Lib.hid (Hma.out m)
    have Hf4 : Hid _ := Hf3.out.drewN m
    generalize w3.drewN m = w5 at *
    clear Hs1 Hf3
    by_cases hneg : v < 0
    · have hd : decide (v < 0) = true := decide_eq_true hneg
      rw [hd] at Hpa
      clear hneg
      go_wp2_with fail
      refine Calls.mono Hpa.out ?_
      rintro e w6 ⟨rfl, rfl⟩
      go_wp2_with fail
      refine Calls.mono Hma.out ?_
      rintro e w6 ⟨rfl, rfl⟩
      go_wp2
      go_ret
      exact ⟨rfl, Hf4.out⟩
    · have hd : decide (v < 0) = false := decide_eq_false hneg
      rw [hd] at Hpa
      clear hneg
      go_wp2_with fail
      refine Calls.mono Hpa.out ?_
      rintro e w6 ⟨rfl, rfl⟩
      go_wp2_with fail
      refine Calls.mono Hma.out ?_
      rintro e w6 ⟨rfl, rfl⟩
      go_wp2
      go_ret
      exact ⟨rfl, Hf4.out⟩
end Go.Proofs.Qxb6603870aDoor
