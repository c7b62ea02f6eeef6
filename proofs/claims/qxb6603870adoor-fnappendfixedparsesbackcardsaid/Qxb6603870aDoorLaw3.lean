import Derived.Test.Qxb6603870aDoorModel
namespace Go.Proofs.Qxb6603870aDoor
open Go.RowKit
set_option linter.unusedVariables false

theorem Full.view {w : World} {a : Option Addr} {xs : List Int} (h : Full w a xs) : View (fun b => b < w.heap.size) w .u8 a xs := by
  rcases h with ⟨_, h⟩ | ⟨nb, rfl, hr⟩
  · exact .inl h
  · exact hr.view hr.lt
theorem Full.below {w w' : World} {a : Option Addr} {xs : List Int} (h : Full w a xs) (hb : Below w.heap.size w w') : Full w' a xs := by
  rcases h with h | ⟨nb, rfl, hr⟩
  · exact .inl h
  · exact .inr ⟨nb, rfl, (hb.block nb hr.lt).trans hr⟩
theorem fix_of_below {w w' : World} (h : Below w.heap.size w w') : Fix (fun b => b < w.heap.size) w w' := ⟨h.os, h.tape, h.output, h.size, h.block⟩
theorem owns_view {w : World} {B : Nat} {v : Value} {ys : List Int} (h : w.ownsRow B 5 1 v ys.length (ys.map (Value.int .u8))) : ∃ a cap, v = .slice a ys.length cap ∧ ys.length ≤ cap ∧ View (fun b => b < w.heap.size) w .u8 a ys ∧ (∀ g, v.ownBlock = some g → a = some ⟨g, 0, none⟩) := by
  rcases h.2 with ⟨rfl, h2⟩ | ⟨g, cap, cur, rfl, a1, a2, a3, a4⟩
  · refine ⟨none, 0, by rw [h2], by omega, .inl (List.length_eq_zero_iff.1 h2), fun g hg => by simp [Value.ownBlock] at hg⟩
  · refine ⟨_, cap, rfl, a3, .inr ⟨g, 0, (h.lt g rfl).2, rfl, fun i hi => ?_⟩, fun k hk => by simp [Value.ownBlock] at hk; rw [hk]⟩
    have := h.cells (g := g) rfl i (.int .u8 (nth ys i)) (by rw [List.getElem?_map]; simp [nth, hi])
    rw [Lib.add_plain] at this
    exact this
theorem Fix.up {w w1 w2 : World} (h : Fix (fun b => b < w.heap.size) w w1) (k : Fix (fun b => b < w1.heap.size) w1 w2) : Fix (fun b => b < w.heap.size) w w2 :=
  h.trans (k.mono fun b hb => by have := h.size; omega)
theorem fixedOf_len (v : Int) (p : Nat) (hv : -9223372036854775808 ≤ v ∧ v ≤ 9223372036854775807) (hp : p ≤ 19) : (fixedOf v p).length ≤ 41 := by
  unfold fixedOf sgn
  have h1 : (dig (v.natAbs / 10 ^ p)).length ≤ 19 := dig_len_pow _ 19 (by omega) (Nat.lt_of_le_of_lt (Nat.div_le_self _ _) (by omega))
  simp only [List.length_append, wid_len]
  split <;> simp <;> omega

set_option maxHeartbeats 4000000 in
set_option maxRecDepth 100000 in
theorem law3 (ba : Option Addr) (bc : Nat) (xs : List Int) (v z : Int) (w : World) (m0 : xs.length ≤ maxLen) (hv : -9223372036854775808 ≤ v ∧ v ≤ 9223372036854775807) (hz : -9223372036854775808 ≤ z ∧ z ≤ 9223372036854775807)
    (v0 : View (fun b => b < w.heap.size) w .u8 ba xs) (htab : Lib.TabIs Tryd.prog w "internal/strconv.uint64pow10" .u64 Lib.pow10Tab) :
    Calls Tryd.prog 3 #[.slice ba xs.length bc, .int .i64 v, .int .i64 z] w (LawPost w) := by
  go_enter Tryd.func3, Tryd.ntmps3
  go_wp2_with fail
  refine (bytes7 _ _ _ _ _ _ m0).mono ?_
  rintro e w' ⟨b, rfl, rfl⟩
  unfold maxLen at m0
  cases b with
  | false =>
    go_wp2
    go_ret
    exact ⟨rfl, Fix.refl _ _⟩
  | true =>
    by_cases t0 : 1048576 < xs.length
    · go_wp2
      go_ret
      exact ⟨rfl, Fix.refl _ _⟩
    by_cases t1 : z < 1
    · have t1' : decide (z < 1) = true := decide_eq_true t1
      go_wp2
      go_ret
      exact ⟨rfl, Fix.refl _ _⟩
    by_cases t2 : 19 < z
    · have t1' : decide (z < 1) = false := decide_eq_false t1
      have t2' : decide (19 < z) = true := decide_eq_true t2
      go_wp2
      go_ret
      exact ⟨rfl, Fix.refl _ _⟩
    obtain ⟨p, hp⟩ : ∃ p : Nat, z = p := ⟨z.toNat, by omega⟩
    subst hp
    have hp : 1 ≤ p ∧ p ≤ 19 := by omega
    have HT : Hid _ := htab
    clear htab
    go_wp2_with fail
    refine (clone8 _ ba bc xs _ (by omega) v0 (fun k hk => hk)).mono ?_
    rintro e w1 ⟨a1, rfl, F1, hf1⟩
    have Hf1 : Hid _ := hf1
    have HT1 : Hid _ := tab_below HT.out hf1.below
    have hc2 := clone8 _ a1 xs.length xs w1 (by omega) F1.view (fun k hk => hk)
    have Hc2 : Hid _ := hc2
    have HF1 : Hid _ := F1
    clear v0 hf1 HT hc2 F1
    go_wp2_with fail
    refine Calls.mono Hc2.out ?_
    rintro e w2 ⟨a2, rfl, F2, hf2⟩
    have Hf2 : Hid _ := Hf1.out.up hf2
    have HT2 : Hid _ := tab_below HT1.out hf2.below
    have F12 := Full.below HF1.out hf2.below
    have Hz : Hid _ := zz9_any a1 xs v p w2 F12 (by omega) hv hp HT2.out
    have HF2 : Hid _ := F2
    have HF12 : Hid _ := F12
    clear F2 F12 hf2 Hf1 HT1 HF1 Hc2
    go_wp2_with fail
    refine Calls.mono Hz.out ?_
    rintro e w3 ⟨gv, rfl, hown3, hbel3⟩
    have Hf3 : Hid _ := Hf2.out.up (fix_of_below hbel3)
    have F13 := Full.below HF12.out hbel3
    have F23 := Full.below HF2.out hbel3
    have Hmd : Hid _ := model_any a2 xs v p w3 F23.view (by omega) hv hp
    have hys : xs.length + (fixedOf v p).length = (xs ++ fixedOf v p).length := by simp
    rw [hys, ← List.map_append] at hown3
    have Hown3 : Hid _ := hown3
    have HF13 : Hid _ := F13
    have HF23 : Hid _ := F23
    clear F13 F23 hbel3 hown3 HF2 HF12 HT2 Hz Hf2
    go_wp2_with fail
    refine Calls.mono Hmd.out ?_
    rintro e w4 ⟨kv, rfl, hown4, hbel4⟩
    rw [hys, ← List.map_append] at hown4
    have Hf4 : Hid _ := Hf3.out.up (fix_of_below hbel4)
    have F14 := Full.below HF13.out hbel4
    have F24 := Full.below HF23.out hbel4
    obtain ⟨ga, gc, rfl, _, gV, _⟩ := owns_view (owns_keep Hown3.out hbel4)
    obtain ⟨ka, kc, rfl, _, kV, _⟩ := owns_view hown4
    have hylen : (xs ++ fixedOf v p).length ≤ 2097152 := by
      have := fixedOf_len v p hv (by omega)
      simp; omega
    have Hs1 : Hid _ := same_any _ ga ka gc kc (xs ++ fixedOf v p) w4 hylen gV kV
    have Hs2 : Hid (∀ m, Calls Tryd.prog 11 #[.slice a1 xs.length xs.length, .slice a2 xs.length xs.length] (w4.drewN m) fun e w' => e = .returned (.bool true) ∧ ∃ k, w' = (w4.drewN m).drewN k) := fun m =>
      same_any (fun b => b < w4.heap.size) a1 a2 xs.length xs.length xs (w4.drewN m) (by omega) (F14.view.fix ((Fix.refl _ _).drewN m)) (F24.view.fix ((Fix.refl _ _).drewN m))
    generalize (xs ++ fixedOf v p).length = NN at *
    clear F14 F24 gV kV hown4 hbel4 HF13 HF23 Hown3 Hf3 Hmd hys
    go_wp2_with fail
    refine Calls.mono Hs1.out ?_
    rintro e w5 ⟨rfl, m, rfl⟩
    go_wp2_with fail
    refine Calls.mono (Hs2.out m) ?_
    rintro e w6 ⟨rfl, k, rfl⟩
    go_wp2
    go_ret
    exact ⟨rfl, Hf4.out.drewN (m + k)⟩
end Go.Proofs.Qxb6603870aDoor
