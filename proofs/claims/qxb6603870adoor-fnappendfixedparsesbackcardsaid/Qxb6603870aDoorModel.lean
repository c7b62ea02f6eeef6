import Derived.Test.Qxb6603870aDoorDec
import Derived.Deep.AppendLies
namespace Go.Proofs.Qxb6603870aDoor
open Go.RowKit
set_option linter.unusedVariables false

theorem nth_app_right (xs ys : List Int) (j : Nat) : nth (xs ++ ys) (xs.length + j) = nth ys j := by
  unfold nth
  rw [List.getD_eq_getElem?_getD, List.getD_eq_getElem?_getD, List.getElem?_append_right (by omega)]
  congr 2
  omega
/-- the row that fixedModelB1 fills -/
structure FMem (w : World) (H cap : Nat) (L : List Int) (wr : World) : Prop where
  own : wr.ownsRow H 5 1 (.slice (some ⟨H, 0, none⟩) L.length cap) L.length (L.map (Value.int .u8))
  bel : Below H w wr
theorem FMem.lt {w wr : World} {H cap : Nat} {L : List Int} (h : FMem w H cap L wr) : H < wr.heap.size := (h.own.lt H rfl).2
theorem FMem.keep {w wr w' : World} {H cap : Nat} {L : List Int} (h : FMem w H cap L wr) (hf : Fix (fun b => b < wr.heap.size) wr w') : FMem w H cap L w' :=
  ⟨owns_keep h.own hf.below, h.bel.trans ((hf.mono (V := fun b => b < H) fun b hb => by have := h.lt; omega).below)⟩
theorem FMem.push {w wr w' : World} {H cap : Nat} {L : List Int} {o : Obj} (h : FMem w H cap L wr) (x : Int) (hown : w'.ownsRow H 5 1 (.slice (some ⟨H, 0, none⟩) (L.length + 1) cap) (L.length + 1) (L.map (Value.int .u8) ++ [.int .u8 x])) (hg : (wr.alloc o).grownBy w' (some H)) : FMem w H cap (L ++ [x]) w' := by
  have hl := h.lt
  refine ⟨by rw [List.length_append, List.map_append]; exact hown, ⟨hg.os.trans h.bel.os, hg.tape.trans h.bel.tape, hg.output.trans h.bel.output, by have := hg.size; have := h.bel.size; simp at *; omega, fun i hi => ?_⟩⟩
  rw [hg.block i (by simp; omega) (fun e => by injection e with e; omega), Below.heap_alloc _ _ _ (by omega)]
  exact h.bel.block i hi
/-- the digits P with a point ahead of the m-th -/
def bodyTo (P : List Int) (m : Nat) : Nat → List Int
  | 0 => []
  | i + 1 => bodyTo P m i ++ ((if i = m then [46] else []) ++ [nth P i])
theorem bodyTo_next (P : List Int) (m i : Nat) : bodyTo P m (i + 1) = bodyTo P m i ++ ((if i = m then [46] else []) ++ [nth P i]) := rfl
theorem bodyTo_len (P : List Int) (m i : Nat) : (bodyTo P m i).length ≤ i + 1 ∧ (i ≤ m → (bodyTo P m i).length = i) := by
  induction i with
  | zero => exact ⟨by simp [bodyTo], fun _ => rfl⟩
  | succ i ih =>
    rw [bodyTo_next, List.length_append, List.length_append]
    by_cases e : i = m
    · rw [if_pos e]
      have := ih.2 (by omega)
      refine ⟨by simp; omega, fun h => by omega⟩
    · rw [if_neg e]
      refine ⟨by have := ih.1; simp; omega, fun h => by have := ih.2 (by omega); simp; omega⟩
theorem take_nth (xs : List Int) (i : Nat) (h : i < xs.length) : xs.take (i + 1) = xs.take i ++ [nth xs i] := by
  have : nth xs i = xs[i] := by simp [nth, h]
  rw [this, List.take_succ_eq_append_getElem h]
theorem bodyTo_lo (P : List Int) (m i : Nat) (h : i ≤ m) (hl : i ≤ P.length) : bodyTo P m i = P.take i := by
  induction i with
  | zero => simp [bodyTo]
  | succ i ih => rw [bodyTo_next, if_neg (by omega), ih (by omega) (by omega), take_nth _ _ (by omega)]; rfl
theorem bodyTo_hi (A B : List Int) (d : Nat) (h : d < B.length) : bodyTo (A ++ B) A.length (A.length + (d + 1)) = A ++ [46] ++ B.take (d + 1) := by
  induction d with
  | zero =>
    show bodyTo (A ++ B) A.length (A.length + 1) = _
    rw [bodyTo_next, if_pos rfl, bodyTo_lo _ _ _ (Nat.le_refl _) (by simp), take_nth _ _ h]
    have h1 := nth_app_right A B 0
    rw [Nat.add_zero] at h1
    rw [h1]
    simp
  | succ d ih =>
    have e : A.length + (d + 1 + 1) = A.length + (d + 1) + 1 := by omega
    rw [e, bodyTo_next, if_neg (by omega), ih (by omega), nth_app_right, take_nth B (d + 1) h]
    simp
theorem bodyTo_all (A B : List Int) (h : 0 < B.length) : bodyTo (A ++ B) A.length (A.length + B.length) = A ++ [46] ++ B := by
  obtain ⟨d, hd⟩ : ∃ d, B.length = d + 1 := ⟨B.length - 1, by omega⟩
  rw [hd, bodyTo_hi A B d (by omega), ← hd, List.take_length]

set_option maxHeartbeats 8000000 in
set_option maxRecDepth 100000 in
/-- fixedModelB1 -/
theorem model_any (a : Option Addr) (xs : List Int) (v : Int) (p : Nat) (w : World) (hV : View (fun b => b < w.heap.size) w .u8 a xs) (hx : xs.length ≤ 1048576) (hv : -9223372036854775808 ≤ v ∧ v ≤ 9223372036854775807) (hp : 1 ≤ p ∧ p ≤ 19) :
    Calls Tryd.prog 10 #[.slice a xs.length xs.length, .int .i64 v, .int .i64 p] w (ApPost w.heap.size xs.length (xs.map (Value.int .u8)) (fixedOf v p) w) := by
  obtain ⟨i0, hi5, hz0, hz1, hz2⟩ := info_parts Tryd.i5
  obtain ⟨U, hU⟩ : ∃ U, U = v.natAbs := ⟨_, rfl⟩
  have hU63 : U ≤ 9223372036854775808 := by omega
  have HU : Hid (U = v.natAbs) := hU
  obtain ⟨H, hH⟩ : ∃ H, w.heap.size = H := ⟨_, rfl⟩
  have HH : Hid (w.heap.size = H) := hH
  have hmk3 : ∀ W : World, (Instr.makeSlice 22 (.int .i64 0) (.int .i64 ((xs.length : Int) + 48))).run Tryd.prog W = .ok (.slice (some ⟨W.heap.size, 0, none⟩) 0 (xs.length + 48)) (W.alloc (.cells (madeCells #[.int .u8 0] (xs.length + 48)) 5)) := by
    intro W
    have := run_make (P := Tryd.prog) W 22 5 i0 (.int .u8 0) Tryd.underlying22 hi5 hz0 .i64 .i64 0 (xs.length + 48 : Nat) (by omega) (by omega) (by rw [hz2]; omega) (by omega)
    have e : (Value.int .u8 0).cells = #[.int .u8 0] := rfl
    have e2 : ((xs.length : Int) + 48).toNat = xs.length + 48 := by omega
    rw [hz1, e] at this
    simpa [e2] using this
  have hM0 : FMem w H (xs.length + 48) [] (w.alloc (.cells (madeCells #[.int .u8 0] (xs.length + 48)) 5)) := by
    refine ⟨⟨rfl, .inr ⟨H, xs.length + 48, madeCells #[.int .u8 0] (xs.length + 48), rfl, Nat.le_refl _, ?_, Nat.zero_le _, by unfold maxLen; omega, by simp [madeCells], rfl⟩⟩, below_al (Below.refl _ _) (by omega) _⟩
    rw [← hH]
    exact heap_alloc_new _ _
  have HM : Hid _ := mag_any v
  rw [hH] at hV
  clear hU
  go_enter Tryd.func10, Tryd.ntmps10
  go_wp2
  clear hmk3
  go_loopw [7, 8] (fun ov iv wr => ∃ i : Nat, i ≤ xs.length ∧ iv = .int .i64 i ∧ ov = .slice (some ⟨H, 0, none⟩) (xs.take i).length (xs.length + 48) ∧ FMem w H (xs.length + 48) (xs.take i) wr) (fun _ iv _ => xs.length - (intOf iv).toNat)
  case atStart => exact ⟨0, Nat.zero_le _, rfl, rfl, hM0⟩
  case round =>
    clear hM0
    obtain ⟨i, hi, rfl, rfl, hM⟩ := hrel
    have hown := hM.own
    have hlt0 := hM.lt
    have htl : (xs.take i).length = i := by simp; omega
    by_cases hlt : i < xs.length
    · obtain ⟨b, off, hb, rfl, hc⟩ := hV.at (by omega)
      have y : wr.cell? ⟨b, off + i, none⟩ = some (.int .u8 (nth xs i)) := by rw [hM.bel.cell (p := ⟨b, off + i, none⟩) hb]; exact hc i hlt
      have hroom : Hid ((xs.take i).length + 1 ≤ xs.length + 48) := by unfold Hid; omega
      have Htl : Hid _ := htl
      have Htk : Hid _ := take_nth xs i hlt
      clear hc htl
      obtain ⟨LL, hLL⟩ : ∃ LL, xs.take i = LL := ⟨_, rfl⟩
      rw [hLL] at hM hown hroom Htl Htk ⊢
      clear hLL
      go_wp2_with (at_builtin; refine wpList_append_fits _ rfl (.tmp 23) (.tmp 28) 22 rfl H 5 i0 1 Tryd.underlying22 hi5 hz1 H LL.length (xs.length + 48) (LL.map (Value.int .u8)) rfl (hown.alloc _) ⟨wr.heap.size, 0, none⟩ 1 1 [.int .u8 (nth xs i)] rfl rfl (cell_one_new _ _ _) (ints_oneCell .u8 [nth xs i]) hroom.out ?_; intro w8 hown8 hgr8; refine Hid.out ?_)
      refine Lib.hid ?_
      have hM8 := hM.push (nth xs i) hown8 hgr8
      have Hlen : Hid ((LL ++ [nth xs i]).length = LL.length + 1) := by unfold Hid; simp
      clear hown8 hgr8 hM hown y
      go_wp2
      go_roundw
      case rel => exact ⟨i + 1, by omega, by go_num, by rw [Htk.out, Hlen.out], by rw [Htk.out]; exact hM8⟩
      case measure => simp [intOf]; omega
    · obtain rfl : i = xs.length := by omega
      rw [List.take_length] at hM hown ⊢
      clear hlt htl
      by_cases hneg : v < 0
      · have hng : decide (v < 0) = true := by simp; omega
        have Hneg : Hid (v < 0) := hneg
        have hroom : Hid (xs.length + 1 ≤ xs.length + 48) := by unfold Hid; omega
        clear hneg
        go_wp2_with (at_builtin; refine wpList_append_fits _ rfl (.tmp 32) (.tmp 33) 22 rfl H 5 i0 1 Tryd.underlying22 hi5 hz1 H xs.length (xs.length + 48) (xs.map (Value.int .u8)) rfl (hown.alloc _) ⟨wr.heap.size, 0, none⟩ 1 1 [.int .u8 45] rfl rfl (cell_one_new _ _ _) (ints_oneCell .u8 [45]) hroom.out ?_; intro w3 hown3 hgr3; refine Hid.out ?_)
        refine Lib.hid ?_
        have hM3 := hM.push 45 hown3 hgr3
        have HL0 : Hid (xs ++ [45] = xs ++ sgn v) := by unfold Hid sgn; rw [if_pos Hneg.out]
        have hL0l : (xs ++ [45]).length ≤ xs.length + 1 := by simp
        have hll : xs.length + 1 = (xs ++ [(45 : Int)]).length := by simp
        rw [hll]
        generalize xs ++ [(45 : Int)] = L0 at *
        clear hown3 hgr3 hM hown hll
        have HMc := HM.out w3 hv
        have HDc : Hid _ := dec_any U w3 (by omega)
        go_wp2_with fail
        rw [← HU.out] at HMc
        refine Calls.mono HMc ?_
        rintro e w4 ⟨rfl, rfl⟩
        go_wp2_with fail
        refine Calls.mono HDc.out ?_
        rintro e w5 ⟨db, rfl, hdb, hrow, hf5⟩
        have hM5 := hM3.keep hf5
        have hdbl : db < w5.heap.size := Row.lt hrow
        have hHdb : H < db := by have := hM3.lt; omega
        obtain ⟨dl, hdl0⟩ : ∃ dl, dl = (dig U).length := ⟨_, rfl⟩
        have Hdl : Hid (dl = (dig U).length) := hdl0
        have hdl1 : 1 ≤ dl := by rw [hdl0]; exact dig_pos U
        have hdl2 : dl ≤ 19 := by rw [hdl0]; exact dig_len_pow U 19 (by omega) (by omega)
        rw [← hdl0]
        obtain ⟨tot, htot⟩ : ∃ tot, tot = max dl (p + 1) := ⟨_, rfl⟩
        obtain ⟨pad, hpad⟩ : ∃ pad, pad = tot - dl := ⟨_, rfl⟩
        obtain ⟨m, hm⟩ : ∃ m, m = tot - p := ⟨_, rfl⟩
        have ht20 : tot ≤ 20 := by omega
        have hpt : pad + dl = tot := by omega
        have hmt : m + p = tot := by omega
        have hpad2 : pad = p + 1 - dl := by omega
        obtain ⟨P, hP⟩ : ∃ P, P = zer pad ++ dig U := ⟨_, rfl⟩
        have HP : Hid (P = zer pad ++ dig U) := hP
        have HE : Hid (L0 ++ bodyTo P m tot = xs ++ fixedOf v p) := by
          unfold Hid fixedOf
          have h1 := dig_wid U p
          rw [← hdl0, ← hpad2] at h1
          have h2 : (dig (U / 10 ^ p)).length = m := by
            have := congrArg List.length h1
            rw [List.length_append, List.length_append, wid_len, zer_len] at this
            omega
          have h3 := bodyTo_all (dig (U / 10 ^ p)) (wid U p) (by rw [wid_len]; omega)
          rw [wid_len, h2, h1, ← hP, hmt] at h3
          rw [HL0.out, h3, ← HU.out]
          simp [List.append_assoc]
        have hsel : (dl < p + 1 ∧ tot = p + 1) ∨ (¬ dl < p + 1 ∧ tot = dl) := by omega
        have ep : (tot : Int) - (dl : Int) = (pad : Int) := by omega
        clear hP htot hpad hm hpad2 hf5 hdl0 hM3
        rcases hsel with ⟨hs1, hs2⟩ | ⟨hs1, hs2⟩
        · have hs1' : decide ((dl : Int) < (p : Int) + 1) = true := decide_eq_true (by omega)
          have hs3 : (p : Int) + 1 = (tot : Int) := by omega
          have hs4 : decide (dl < tot) = true := decide_eq_true (by omega)
          clear hs2
          go_wp2
          clear ep hs3
          go_loopw [7, 12] (fun ov iv wr => ∃ (i : Nat) (L : List Int), i ≤ tot ∧ iv = .int .i64 i ∧ ov = .slice (some ⟨H, 0, none⟩) L.length (xs.length + 48) ∧ FMem w H (xs.length + 48) L wr ∧ Hid (L = L0 ++ bodyTo P m i) ∧ Hid (wr.heap[db]? = w5.heap[db]?) ∧ db < wr.heap.size) (fun _ iv _ => tot - (intOf iv).toNat)
          case atStart => exact ⟨0, L0, Nat.zero_le _, rfl, rfl, hM5, by simp [bodyTo, Hid], rfl, hdbl⟩
          case round =>
            clear hM5
            obtain ⟨i, LL, hi, rfl, rfl, hM, HLL0, HDS, hdbw⟩ := hrel
            have hown := hM.own
            have hLLl : LL.length ≤ xs.length + i + 2 := by
              rw [HLL0.out, List.length_append]
              have := (bodyTo_len P m i).1
              omega
            by_cases hlt : i < tot
            · have em : (tot : Int) - (p : Int) = (m : Int) := by omega
              by_cases hm0 : i = m
              · have hm1 : ((i : Int) == (m : Int)) = true := beq_iff_eq.2 (by omega)
                have hroom0 : Hid (LL.length + 1 ≤ xs.length + 48) := by unfold Hid; omega
                have Hm0 : Hid (i = m) := hm0
                clear hm0
                go_wp2_with (at_builtin; refine wpList_append_fits _ rfl (.tmp 60) (.tmp 61) 22 rfl H 5 i0 1 Tryd.underlying22 hi5 hz1 H LL.length (xs.length + 48) (LL.map (Value.int .u8)) rfl (hown.alloc _) ⟨wr.heap.size, 0, none⟩ 1 1 [.int .u8 46] rfl rfl (cell_one_new _ _ _) (ints_oneCell .u8 [46]) hroom0.out ?_; intro w7 hown7 hgr7; refine Hid.out ?_)
                refine Lib.hid ?_
                have hM7 := hM.push 46 hown7 hgr7
                have HDS7 : Hid (w7.heap[db]? = w5.heap[db]?) := (hgr7.block db (by simp; omega) (fun e => by injection e with e; omega)).trans ((Below.heap_alloc _ _ _ hdbw).trans HDS.out)
                have hdb7 : db < w7.heap.size := by have := hgr7.size; simp at this; omega
                have HLL : Hid (LL ++ [46] = L0 ++ (bodyTo P m i ++ [46])) := by unfold Hid; rw [HLL0.out, List.append_assoc]
                have hLL7 : (LL ++ [(46 : Int)]).length ≤ xs.length + i + 3 := by simp; omega
                have hll7 : LL.length + 1 = (LL ++ [(46 : Int)]).length := by simp
                rw [hll7]
                clear hown hM hown7 hgr7 HDS hdbw hLLl HLL0 hll7
                generalize LL ++ [(46 : Int)] = LL at *
                have hM := hM7
                have hown := hM.own
                have HDS := HDS7
                have hdbw := hdb7
                clear hM7 HDS7 hdb7
                by_cases hpd : i < pad
                · have hpd' : decide ((i : Int) < (pad : Int)) = true := decide_eq_true (by omega)
                  have hxv : Hid (nth P i = 48) := by unfold Hid; rw [HP.out, nth_app_left _ _ _ (by rw [zer_len]; exact hpd)]; simp [zer, nth, hpd]
                  have hroom : Hid (LL.length + 1 ≤ xs.length + 48) := by unfold Hid; omega
                  go_wp2_with (at_builtin; refine wpList_append_fits _ rfl (.tmp 66) (.tmp 67) 22 rfl H 5 i0 1 Tryd.underlying22 hi5 hz1 H LL.length (xs.length + 48) (LL.map (Value.int .u8)) rfl (hown.alloc _) ⟨w7.heap.size, 0, none⟩ 1 1 [.int .u8 48] rfl rfl (cell_one_new _ _ _) (ints_oneCell .u8 [48]) hroom.out ?_; intro w8 hown8 hgr8; refine Hid.out ?_)
                  refine Lib.hid ?_
                  have hM8 := hM.push 48 hown8 hgr8
                  have HDS8 : Hid (w8.heap[db]? = w5.heap[db]?) := (hgr8.block db (by simp; omega) (fun e => by injection e with e; omega)).trans ((Below.heap_alloc _ _ _ hdbw).trans HDS.out)
                  have hdb8 : db < w8.heap.size := by have := hgr8.size; simp at this; omega
                  have HL8 : Hid (LL ++ [48] = L0 ++ bodyTo P m (i + 1)) := by unfold Hid; rw [HLL.out, bodyTo_next, hxv.out, if_pos Hm0.out]; simp [List.append_assoc]
                  have Hlen8 : Hid ((LL ++ [(48 : Int)]).length = LL.length + 1) := by unfold Hid; simp
                  clear hown8 hgr8 hM hown
                  go_wp2
                  go_roundw
                  case rel => exact ⟨i + 1, LL ++ [48], by omega, by go_num, by rw [Hlen8.out], hM8, HL8.out, HDS8.out, hdb8⟩
                  case measure => simp [intOf]; omega
                · have hpd' : decide ((i : Int) < (pad : Int)) = false := decide_eq_false (by omega)
                  have hdl : i - pad < dl := by omega
                  have hxv : Hid (nth P i = nth (dig U) (i - pad)) := by
                    unfold Hid
                    rw [HP.out]
                    have h1 := nth_app_right (zer pad) (dig U) (i - pad)
                    rw [zer_len, show pad + (i - pad) = i by omega] at h1
                    exact h1
                  have y : w7.cell? ⟨db, i - pad, none⟩ = some (.int .u8 (nth (dig U) (i - pad))) := by
                    rw [World.cell?_of_block (w := w5) (a := ⟨db, i - pad, none⟩) (HDS.out)]
                    exact hrow.cell (i - pad) (by rw [← Hdl.out]; exact hdl)
                  have ji : (i : Int) - (pad : Int) = ((i - pad : Nat) : Int) := by omega
                  obtain ⟨ip, hip⟩ : ∃ ip, ip = i - pad := ⟨_, rfl⟩
                  rw [← hip] at y ji hdl hxv
                  have hroom : Hid (LL.length + 1 ≤ xs.length + 48) := by unfold Hid; omega
                  have hdl' : (ip : Int) < (dl : Int) := by omega
                  clear hip
                  go_wp2_with (at_builtin; refine wpList_append_fits _ rfl (.tmp 69) (.tmp 76) 22 rfl H 5 i0 1 Tryd.underlying22 hi5 hz1 H LL.length (xs.length + 48) (LL.map (Value.int .u8)) rfl (hown.alloc _) ⟨w7.heap.size, 0, none⟩ 1 1 [.int .u8 (nth (dig U) ip)] rfl rfl (cell_one_new _ _ _) (ints_oneCell .u8 [nth (dig U) ip]) hroom.out ?_; intro w8 hown8 hgr8; refine Hid.out ?_)
                  refine Lib.hid ?_
                  have hM8 := hM.push (nth (dig U) ip) hown8 hgr8
                  have HDS8 : Hid (w8.heap[db]? = w5.heap[db]?) := (hgr8.block db (by simp; omega) (fun e => by injection e with e; omega)).trans ((Below.heap_alloc _ _ _ hdbw).trans HDS.out)
                  have hdb8 : db < w8.heap.size := by have := hgr8.size; simp at this; omega
                  have HL8 : Hid (LL ++ [nth (dig U) ip] = L0 ++ bodyTo P m (i + 1)) := by unfold Hid; rw [HLL.out, bodyTo_next, hxv.out, if_pos Hm0.out]; simp [List.append_assoc]
                  have Hlen8 : Hid ((LL ++ [nth (dig U) ip]).length = LL.length + 1) := by unfold Hid; simp
                  clear hown8 hgr8 hM hown y
                  go_wp2
                  go_roundw
                  case rel => exact ⟨i + 1, LL ++ [nth (dig U) ip], by omega, by go_num, by rw [Hlen8.out], hM8, HL8.out, HDS8.out, hdb8⟩
                  case measure => simp [intOf]; omega
              · have hm1 : ((i : Int) == (m : Int)) = false := beq_eq_false_iff_ne.2 (by omega)
                have Hm0 : Hid (¬ i = m) := hm0
                have HLL : Hid (LL = L0 ++ (bodyTo P m i ++ [])) := by unfold Hid; rw [List.append_nil]; exact HLL0.out
                clear hm0
                by_cases hpd : i < pad
                · have hpd' : decide ((i : Int) < (pad : Int)) = true := decide_eq_true (by omega)
                  have hxv : Hid (nth P i = 48) := by unfold Hid; rw [HP.out, nth_app_left _ _ _ (by rw [zer_len]; exact hpd)]; simp [zer, nth, hpd]
                  have hroom : Hid (LL.length + 1 ≤ xs.length + 48) := by unfold Hid; omega
                  go_wp2_with (at_builtin; refine wpList_append_fits _ rfl (.tmp 66) (.tmp 67) 22 rfl H 5 i0 1 Tryd.underlying22 hi5 hz1 H LL.length (xs.length + 48) (LL.map (Value.int .u8)) rfl (hown.alloc _) ⟨wr.heap.size, 0, none⟩ 1 1 [.int .u8 48] rfl rfl (cell_one_new _ _ _) (ints_oneCell .u8 [48]) hroom.out ?_; intro w8 hown8 hgr8; refine Hid.out ?_)
                  refine Lib.hid ?_
                  have hM8 := hM.push 48 hown8 hgr8
                  have HDS8 : Hid (w8.heap[db]? = w5.heap[db]?) := (hgr8.block db (by simp; omega) (fun e => by injection e with e; omega)).trans ((Below.heap_alloc _ _ _ hdbw).trans HDS.out)
                  have hdb8 : db < w8.heap.size := by have := hgr8.size; simp at this; omega
                  have HL8 : Hid (LL ++ [48] = L0 ++ bodyTo P m (i + 1)) := by unfold Hid; rw [HLL.out, bodyTo_next, hxv.out, if_neg Hm0.out]; simp [List.append_assoc]
                  have Hlen8 : Hid ((LL ++ [(48 : Int)]).length = LL.length + 1) := by unfold Hid; simp
                  clear hown8 hgr8 hM hown
                  go_wp2
                  go_roundw
                  case rel => exact ⟨i + 1, LL ++ [48], by omega, by go_num, by rw [Hlen8.out], hM8, HL8.out, HDS8.out, hdb8⟩
                  case measure => simp [intOf]; omega
                · have hpd' : decide ((i : Int) < (pad : Int)) = false := decide_eq_false (by omega)
                  have hdl : i - pad < dl := by omega
                  have hxv : Hid (nth P i = nth (dig U) (i - pad)) := by
                    unfold Hid
                    rw [HP.out]
                    have h1 := nth_app_right (zer pad) (dig U) (i - pad)
                    rw [zer_len, show pad + (i - pad) = i by omega] at h1
                    exact h1
                  have y : wr.cell? ⟨db, i - pad, none⟩ = some (.int .u8 (nth (dig U) (i - pad))) := by
                    rw [World.cell?_of_block (w := w5) (a := ⟨db, i - pad, none⟩) (HDS.out)]
                    exact hrow.cell (i - pad) (by rw [← Hdl.out]; exact hdl)
                  have ji : (i : Int) - (pad : Int) = ((i - pad : Nat) : Int) := by omega
                  obtain ⟨ip, hip⟩ : ∃ ip, ip = i - pad := ⟨_, rfl⟩
                  rw [← hip] at y ji hdl hxv
                  have hroom : Hid (LL.length + 1 ≤ xs.length + 48) := by unfold Hid; omega
                  have hdl' : (ip : Int) < (dl : Int) := by omega
                  clear hip
                  go_wp2_with (at_builtin; refine wpList_append_fits _ rfl (.tmp 69) (.tmp 76) 22 rfl H 5 i0 1 Tryd.underlying22 hi5 hz1 H LL.length (xs.length + 48) (LL.map (Value.int .u8)) rfl (hown.alloc _) ⟨wr.heap.size, 0, none⟩ 1 1 [.int .u8 (nth (dig U) ip)] rfl rfl (cell_one_new _ _ _) (ints_oneCell .u8 [nth (dig U) ip]) hroom.out ?_; intro w8 hown8 hgr8; refine Hid.out ?_)
                  refine Lib.hid ?_
                  have hM8 := hM.push (nth (dig U) ip) hown8 hgr8
                  have HDS8 : Hid (w8.heap[db]? = w5.heap[db]?) := (hgr8.block db (by simp; omega) (fun e => by injection e with e; omega)).trans ((Below.heap_alloc _ _ _ hdbw).trans HDS.out)
                  have hdb8 : db < w8.heap.size := by have := hgr8.size; simp at this; omega
                  have HL8 : Hid (LL ++ [nth (dig U) ip] = L0 ++ bodyTo P m (i + 1)) := by unfold Hid; rw [HLL.out, bodyTo_next, hxv.out, if_neg Hm0.out]; simp [List.append_assoc]
                  have Hlen8 : Hid ((LL ++ [nth (dig U) ip]).length = LL.length + 1) := by unfold Hid; simp
                  clear hown8 hgr8 hM hown y
                  go_wp2
                  go_roundw
                  case rel => exact ⟨i + 1, LL ++ [nth (dig U) ip], by omega, by go_num, by rw [Hlen8.out], hM8, HL8.out, HDS8.out, hdb8⟩
                  case measure => simp [intOf]; omega
            · obtain rfl : i = tot := by omega
              have hfin : wr.ownsRow H 5 1 (.slice (some ⟨H, 0, none⟩) LL.length (xs.length + 48)) (xs.length + (fixedOf v p).length) (xs.map (Value.int .u8) ++ (fixedOf v p).map (Value.int .u8)) := by
                have e : LL = xs ++ fixedOf v p := by rw [HLL0.out, HE.out]
                have h2 := hown
                rw [e, List.map_append, List.length_append] at h2
                rw [e, List.length_append]
                exact h2
              have hbel := hM.bel
              clear hown hM
              go_wp2
              go_ret
              exact ⟨_, rfl, by rw [HH.out]; exact hfin, by rw [HH.out]; exact hbel⟩
        · subst hs2
          have hs5 : decide (tot < p + 1) = false := decide_eq_false (by omega)
          have hs6 : decide ((tot : Int) < (p : Int) + 1) = false := decide_eq_false (by omega)
          go_wp2
          clear ep
          go_loopw [7, 12] (fun ov iv wr => ∃ (i : Nat) (L : List Int), i ≤ tot ∧ iv = .int .i64 i ∧ ov = .slice (some ⟨H, 0, none⟩) L.length (xs.length + 48) ∧ FMem w H (xs.length + 48) L wr ∧ Hid (L = L0 ++ bodyTo P m i) ∧ Hid (wr.heap[db]? = w5.heap[db]?) ∧ db < wr.heap.size) (fun _ iv _ => tot - (intOf iv).toNat)
          case atStart => exact ⟨0, L0, Nat.zero_le _, rfl, rfl, hM5, by simp [bodyTo, Hid], rfl, hdbl⟩
          case round =>
            clear hM5
            obtain ⟨i, LL, hi, rfl, rfl, hM, HLL0, HDS, hdbw⟩ := hrel
            have hown := hM.own
            have hLLl : LL.length ≤ xs.length + i + 2 := by
              rw [HLL0.out, List.length_append]
              have := (bodyTo_len P m i).1
              omega
            by_cases hlt : i < tot
            · have em : (tot : Int) - (p : Int) = (m : Int) := by omega
              by_cases hm0 : i = m
              · have hm1 : ((i : Int) == (m : Int)) = true := beq_iff_eq.2 (by omega)
                have hroom0 : Hid (LL.length + 1 ≤ xs.length + 48) := by unfold Hid; omega
                have Hm0 : Hid (i = m) := hm0
                clear hm0
                go_wp2_with (at_builtin; refine wpList_append_fits _ rfl (.tmp 60) (.tmp 61) 22 rfl H 5 i0 1 Tryd.underlying22 hi5 hz1 H LL.length (xs.length + 48) (LL.map (Value.int .u8)) rfl (hown.alloc _) ⟨wr.heap.size, 0, none⟩ 1 1 [.int .u8 46] rfl rfl (cell_one_new _ _ _) (ints_oneCell .u8 [46]) hroom0.out ?_; intro w7 hown7 hgr7; refine Hid.out ?_)
                refine Lib.hid ?_
                have hM7 := hM.push 46 hown7 hgr7
                have HDS7 : Hid (w7.heap[db]? = w5.heap[db]?) := (hgr7.block db (by simp; omega) (fun e => by injection e with e; omega)).trans ((Below.heap_alloc _ _ _ hdbw).trans HDS.out)
                have hdb7 : db < w7.heap.size := by have := hgr7.size; simp at this; omega
                have HLL : Hid (LL ++ [46] = L0 ++ (bodyTo P m i ++ [46])) := by unfold Hid; rw [HLL0.out, List.append_assoc]
                have hLL7 : (LL ++ [(46 : Int)]).length ≤ xs.length + i + 3 := by simp; omega
                have hll7 : LL.length + 1 = (LL ++ [(46 : Int)]).length := by simp
                rw [hll7]
                clear hown hM hown7 hgr7 HDS hdbw hLLl HLL0 hll7
                generalize LL ++ [(46 : Int)] = LL at *
                have hM := hM7
                have hown := hM.own
                have HDS := HDS7
                have hdbw := hdb7
                clear hM7 HDS7 hdb7
                by_cases hpd : i < pad
                · exact absurd hpd (by omega)
                · have hpd' : decide ((i : Int) < (pad : Int)) = false := decide_eq_false (by omega)
                  have hdl : i - pad < tot := by omega
                  have hxv : Hid (nth P i = nth (dig U) (i - pad)) := by
                    unfold Hid
                    rw [HP.out]
                    have h1 := nth_app_right (zer pad) (dig U) (i - pad)
                    rw [zer_len, show pad + (i - pad) = i by omega] at h1
                    exact h1
                  have y : w7.cell? ⟨db, i - pad, none⟩ = some (.int .u8 (nth (dig U) (i - pad))) := by
                    rw [World.cell?_of_block (w := w5) (a := ⟨db, i - pad, none⟩) (HDS.out)]
                    exact hrow.cell (i - pad) (by rw [← Hdl.out]; exact hdl)
                  have ji : (i : Int) - (pad : Int) = ((i - pad : Nat) : Int) := by omega
                  obtain ⟨ip, hip⟩ : ∃ ip, ip = i - pad := ⟨_, rfl⟩
                  rw [← hip] at y ji hdl hxv
                  have hroom : Hid (LL.length + 1 ≤ xs.length + 48) := by unfold Hid; omega
                  have hdl' : (ip : Int) < (tot : Int) := by omega
                  clear hip
                  go_wp2_with (at_builtin; refine wpList_append_fits _ rfl (.tmp 69) (.tmp 76) 22 rfl H 5 i0 1 Tryd.underlying22 hi5 hz1 H LL.length (xs.length + 48) (LL.map (Value.int .u8)) rfl (hown.alloc _) ⟨w7.heap.size, 0, none⟩ 1 1 [.int .u8 (nth (dig U) ip)] rfl rfl (cell_one_new _ _ _) (ints_oneCell .u8 [nth (dig U) ip]) hroom.out ?_; intro w8 hown8 hgr8; refine Hid.out ?_)
                  refine Lib.hid ?_
                  have hM8 := hM.push (nth (dig U) ip) hown8 hgr8
                  have HDS8 : Hid (w8.heap[db]? = w5.heap[db]?) := (hgr8.block db (by simp; omega) (fun e => by injection e with e; omega)).trans ((Below.heap_alloc _ _ _ hdbw).trans HDS.out)
                  have hdb8 : db < w8.heap.size := by have := hgr8.size; simp at this; omega
                  have HL8 : Hid (LL ++ [nth (dig U) ip] = L0 ++ bodyTo P m (i + 1)) := by unfold Hid; rw [HLL.out, bodyTo_next, hxv.out, if_pos Hm0.out]; simp [List.append_assoc]
                  have Hlen8 : Hid ((LL ++ [nth (dig U) ip]).length = LL.length + 1) := by unfold Hid; simp
                  clear hown8 hgr8 hM hown y
                  go_wp2
                  go_roundw
                  case rel => exact ⟨i + 1, LL ++ [nth (dig U) ip], by omega, by go_num, by rw [Hlen8.out], hM8, HL8.out, HDS8.out, hdb8⟩
                  case measure => simp [intOf]; omega
              · have hm1 : ((i : Int) == (m : Int)) = false := beq_eq_false_iff_ne.2 (by omega)
                have Hm0 : Hid (¬ i = m) := hm0
                have HLL : Hid (LL = L0 ++ (bodyTo P m i ++ [])) := by unfold Hid; rw [List.append_nil]; exact HLL0.out
                clear hm0
                by_cases hpd : i < pad
                · exact absurd hpd (by omega)
                · have hpd' : decide ((i : Int) < (pad : Int)) = false := decide_eq_false (by omega)
                  have hdl : i - pad < tot := by omega
                  have hxv : Hid (nth P i = nth (dig U) (i - pad)) := by
                    unfold Hid
                    rw [HP.out]
                    have h1 := nth_app_right (zer pad) (dig U) (i - pad)
                    rw [zer_len, show pad + (i - pad) = i by omega] at h1
                    exact h1
                  have y : wr.cell? ⟨db, i - pad, none⟩ = some (.int .u8 (nth (dig U) (i - pad))) := by
                    rw [World.cell?_of_block (w := w5) (a := ⟨db, i - pad, none⟩) (HDS.out)]
                    exact hrow.cell (i - pad) (by rw [← Hdl.out]; exact hdl)
                  have ji : (i : Int) - (pad : Int) = ((i - pad : Nat) : Int) := by omega
                  obtain ⟨ip, hip⟩ : ∃ ip, ip = i - pad := ⟨_, rfl⟩
                  rw [← hip] at y ji hdl hxv
                  have hroom : Hid (LL.length + 1 ≤ xs.length + 48) := by unfold Hid; omega
                  have hdl' : (ip : Int) < (tot : Int) := by omega
                  clear hip
                  go_wp2_with (at_builtin; refine wpList_append_fits _ rfl (.tmp 69) (.tmp 76) 22 rfl H 5 i0 1 Tryd.underlying22 hi5 hz1 H LL.length (xs.length + 48) (LL.map (Value.int .u8)) rfl (hown.alloc _) ⟨wr.heap.size, 0, none⟩ 1 1 [.int .u8 (nth (dig U) ip)] rfl rfl (cell_one_new _ _ _) (ints_oneCell .u8 [nth (dig U) ip]) hroom.out ?_; intro w8 hown8 hgr8; refine Hid.out ?_)
                  refine Lib.hid ?_
                  have hM8 := hM.push (nth (dig U) ip) hown8 hgr8
                  have HDS8 : Hid (w8.heap[db]? = w5.heap[db]?) := (hgr8.block db (by simp; omega) (fun e => by injection e with e; omega)).trans ((Below.heap_alloc _ _ _ hdbw).trans HDS.out)
                  have hdb8 : db < w8.heap.size := by have := hgr8.size; simp at this; omega
                  have HL8 : Hid (LL ++ [nth (dig U) ip] = L0 ++ bodyTo P m (i + 1)) := by unfold Hid; rw [HLL.out, bodyTo_next, hxv.out, if_neg Hm0.out]; simp [List.append_assoc]
                  have Hlen8 : Hid ((LL ++ [nth (dig U) ip]).length = LL.length + 1) := by unfold Hid; simp
                  clear hown8 hgr8 hM hown y
                  go_wp2
                  go_roundw
                  case rel => exact ⟨i + 1, LL ++ [nth (dig U) ip], by omega, by go_num, by rw [Hlen8.out], hM8, HL8.out, HDS8.out, hdb8⟩
                  case measure => simp [intOf]; omega
            · obtain rfl : i = tot := by omega
              have hfin : wr.ownsRow H 5 1 (.slice (some ⟨H, 0, none⟩) LL.length (xs.length + 48)) (xs.length + (fixedOf v p).length) (xs.map (Value.int .u8) ++ (fixedOf v p).map (Value.int .u8)) := by
                have e : LL = xs ++ fixedOf v p := by rw [HLL0.out, HE.out]
                have h2 := hown
                rw [e, List.map_append, List.length_append] at h2
                rw [e, List.length_append]
                exact h2
              have hbel := hM.bel
              clear hown hM
              go_wp2
              go_ret
              exact ⟨_, rfl, by rw [HH.out]; exact hfin, by rw [HH.out]; exact hbel⟩
      · have hng : decide (v < 0) = false := by simp; omega
        have Hneg : Hid (¬ v < 0) := hneg
        have HL0 : Hid (xs = xs ++ sgn v) := by unfold Hid sgn; rw [if_neg Hneg.out]; simp
        obtain ⟨w3, hw3⟩ : ∃ w3 : World, w3 = wr := ⟨_, rfl⟩
        subst hw3
        have hM3 := hM
        have hL0l : xs.length ≤ xs.length + 1 := by omega
        obtain ⟨L0, hL0⟩ : ∃ L0, L0 = xs := ⟨_, rfl⟩
        have hM3 : FMem w H (xs.length + 48) L0 w3 := by rw [hL0]; exact hM
        have HL0 : Hid (L0 = xs ++ sgn v) := by rw [hL0]; exact HL0
        have hL0l : L0.length ≤ xs.length + 1 := by rw [hL0]; omega
        have HLx : Hid (xs.length = L0.length) := by rw [hL0]; rfl
        clear hneg hM hown hL0
        have HMc := HM.out w3 hv
        have HDc : Hid _ := dec_any U w3 (by omega)
        go_wp2_with fail
        rw [← HU.out] at HMc
        refine Calls.mono HMc ?_
        rintro e w4 ⟨rfl, rfl⟩
        go_wp2_with fail
        refine Calls.mono HDc.out ?_
        rintro e w5 ⟨db, rfl, hdb, hrow, hf5⟩
        have hM5 := hM3.keep hf5
        have hdbl : db < w5.heap.size := Row.lt hrow
        have hHdb : H < db := by have := hM3.lt; omega
        obtain ⟨dl, hdl0⟩ : ∃ dl, dl = (dig U).length := ⟨_, rfl⟩
        have Hdl : Hid (dl = (dig U).length) := hdl0
        have hdl1 : 1 ≤ dl := by rw [hdl0]; exact dig_pos U
        have hdl2 : dl ≤ 19 := by rw [hdl0]; exact dig_len_pow U 19 (by omega) (by omega)
        rw [← hdl0]
        obtain ⟨tot, htot⟩ : ∃ tot, tot = max dl (p + 1) := ⟨_, rfl⟩
        obtain ⟨pad, hpad⟩ : ∃ pad, pad = tot - dl := ⟨_, rfl⟩
        obtain ⟨m, hm⟩ : ∃ m, m = tot - p := ⟨_, rfl⟩
        have ht20 : tot ≤ 20 := by omega
        have hpt : pad + dl = tot := by omega
        have hmt : m + p = tot := by omega
        have hpad2 : pad = p + 1 - dl := by omega
        obtain ⟨P, hP⟩ : ∃ P, P = zer pad ++ dig U := ⟨_, rfl⟩
        have HP : Hid (P = zer pad ++ dig U) := hP
        have HE : Hid (L0 ++ bodyTo P m tot = xs ++ fixedOf v p) := by
          unfold Hid fixedOf
          have h1 := dig_wid U p
          rw [← hdl0, ← hpad2] at h1
          have h2 : (dig (U / 10 ^ p)).length = m := by
            have := congrArg List.length h1
            rw [List.length_append, List.length_append, wid_len, zer_len] at this
            omega
          have h3 := bodyTo_all (dig (U / 10 ^ p)) (wid U p) (by rw [wid_len]; omega)
          rw [wid_len, h2, h1, ← hP, hmt] at h3
          rw [HL0.out, h3, ← HU.out]
          simp [List.append_assoc]
        have hsel : (dl < p + 1 ∧ tot = p + 1) ∨ (¬ dl < p + 1 ∧ tot = dl) := by omega
        have ep : (tot : Int) - (dl : Int) = (pad : Int) := by omega
        clear hP htot hpad hm hpad2 hf5 hdl0 hM3
        rcases hsel with ⟨hs1, hs2⟩ | ⟨hs1, hs2⟩
        · have hs1' : decide ((dl : Int) < (p : Int) + 1) = true := decide_eq_true (by omega)
          have hs3 : (p : Int) + 1 = (tot : Int) := by omega
          have hs4 : decide (dl < tot) = true := decide_eq_true (by omega)
          clear hs2
          go_wp2
          clear ep hs3
          go_loopw [7, 12] (fun ov iv wr => ∃ (i : Nat) (L : List Int), i ≤ tot ∧ iv = .int .i64 i ∧ ov = .slice (some ⟨H, 0, none⟩) L.length (xs.length + 48) ∧ FMem w H (xs.length + 48) L wr ∧ Hid (L = L0 ++ bodyTo P m i) ∧ Hid (wr.heap[db]? = w5.heap[db]?) ∧ db < wr.heap.size) (fun _ iv _ => tot - (intOf iv).toNat)
          case atStart => exact ⟨0, L0, Nat.zero_le _, rfl, by rw [HLx.out], hM5, by simp [bodyTo, Hid], rfl, hdbl⟩
          case round =>
            clear hM5
            obtain ⟨i, LL, hi, rfl, rfl, hM, HLL0, HDS, hdbw⟩ := hrel
            have hown := hM.own
            have hLLl : LL.length ≤ xs.length + i + 2 := by
              rw [HLL0.out, List.length_append]
              have := (bodyTo_len P m i).1
              omega
            by_cases hlt : i < tot
            · have em : (tot : Int) - (p : Int) = (m : Int) := by omega
              by_cases hm0 : i = m
              · have hm1 : ((i : Int) == (m : Int)) = true := beq_iff_eq.2 (by omega)
                have hroom0 : Hid (LL.length + 1 ≤ xs.length + 48) := by unfold Hid; omega
                have Hm0 : Hid (i = m) := hm0
                clear hm0
                go_wp2_with (at_builtin; refine wpList_append_fits _ rfl (.tmp 60) (.tmp 61) 22 rfl H 5 i0 1 Tryd.underlying22 hi5 hz1 H LL.length (xs.length + 48) (LL.map (Value.int .u8)) rfl (hown.alloc _) ⟨wr.heap.size, 0, none⟩ 1 1 [.int .u8 46] rfl rfl (cell_one_new _ _ _) (ints_oneCell .u8 [46]) hroom0.out ?_; intro w7 hown7 hgr7; refine Hid.out ?_)
                refine Lib.hid ?_
                have hM7 := hM.push 46 hown7 hgr7
                have HDS7 : Hid (w7.heap[db]? = w5.heap[db]?) := (hgr7.block db (by simp; omega) (fun e => by injection e with e; omega)).trans ((Below.heap_alloc _ _ _ hdbw).trans HDS.out)
                have hdb7 : db < w7.heap.size := by have := hgr7.size; simp at this; omega
                have HLL : Hid (LL ++ [46] = L0 ++ (bodyTo P m i ++ [46])) := by unfold Hid; rw [HLL0.out, List.append_assoc]
                have hLL7 : (LL ++ [(46 : Int)]).length ≤ xs.length + i + 3 := by simp; omega
                have hll7 : LL.length + 1 = (LL ++ [(46 : Int)]).length := by simp
                rw [hll7]
                clear hown hM hown7 hgr7 HDS hdbw hLLl HLL0 hll7
                generalize LL ++ [(46 : Int)] = LL at *
                have hM := hM7
                have hown := hM.own
                have HDS := HDS7
                have hdbw := hdb7
                clear hM7 HDS7 hdb7
                by_cases hpd : i < pad
                · have hpd' : decide ((i : Int) < (pad : Int)) = true := decide_eq_true (by omega)
                  have hxv : Hid (nth P i = 48) := by unfold Hid; rw [HP.out, nth_app_left _ _ _ (by rw [zer_len]; exact hpd)]; simp [zer, nth, hpd]
                  have hroom : Hid (LL.length + 1 ≤ xs.length + 48) := by unfold Hid; omega
                  go_wp2_with (at_builtin; refine wpList_append_fits _ rfl (.tmp 66) (.tmp 67) 22 rfl H 5 i0 1 Tryd.underlying22 hi5 hz1 H LL.length (xs.length + 48) (LL.map (Value.int .u8)) rfl (hown.alloc _) ⟨w7.heap.size, 0, none⟩ 1 1 [.int .u8 48] rfl rfl (cell_one_new _ _ _) (ints_oneCell .u8 [48]) hroom.out ?_; intro w8 hown8 hgr8; refine Hid.out ?_)
                  refine Lib.hid ?_
                  have hM8 := hM.push 48 hown8 hgr8
                  have HDS8 : Hid (w8.heap[db]? = w5.heap[db]?) := (hgr8.block db (by simp; omega) (fun e => by injection e with e; omega)).trans ((Below.heap_alloc _ _ _ hdbw).trans HDS.out)
                  have hdb8 : db < w8.heap.size := by have := hgr8.size; simp at this; omega
                  have HL8 : Hid (LL ++ [48] = L0 ++ bodyTo P m (i + 1)) := by unfold Hid; rw [HLL.out, bodyTo_next, hxv.out, if_pos Hm0.out]; simp [List.append_assoc]
                  have Hlen8 : Hid ((LL ++ [(48 : Int)]).length = LL.length + 1) := by unfold Hid; simp
                  clear hown8 hgr8 hM hown
                  go_wp2
                  go_roundw
                  case rel => exact ⟨i + 1, LL ++ [48], by omega, by go_num, by rw [Hlen8.out], hM8, HL8.out, HDS8.out, hdb8⟩
                  case measure => simp [intOf]; omega
                · have hpd' : decide ((i : Int) < (pad : Int)) = false := decide_eq_false (by omega)
                  have hdl : i - pad < dl := by omega
                  have hxv : Hid (nth P i = nth (dig U) (i - pad)) := by
                    unfold Hid
                    rw [HP.out]
                    have h1 := nth_app_right (zer pad) (dig U) (i - pad)
                    rw [zer_len, show pad + (i - pad) = i by omega] at h1
                    exact h1
                  have y : w7.cell? ⟨db, i - pad, none⟩ = some (.int .u8 (nth (dig U) (i - pad))) := by
                    rw [World.cell?_of_block (w := w5) (a := ⟨db, i - pad, none⟩) (HDS.out)]
                    exact hrow.cell (i - pad) (by rw [← Hdl.out]; exact hdl)
                  have ji : (i : Int) - (pad : Int) = ((i - pad : Nat) : Int) := by omega
                  obtain ⟨ip, hip⟩ : ∃ ip, ip = i - pad := ⟨_, rfl⟩
                  rw [← hip] at y ji hdl hxv
                  have hroom : Hid (LL.length + 1 ≤ xs.length + 48) := by unfold Hid; omega
                  have hdl' : (ip : Int) < (dl : Int) := by omega
                  clear hip
                  go_wp2_with (at_builtin; refine wpList_append_fits _ rfl (.tmp 69) (.tmp 76) 22 rfl H 5 i0 1 Tryd.underlying22 hi5 hz1 H LL.length (xs.length + 48) (LL.map (Value.int .u8)) rfl (hown.alloc _) ⟨w7.heap.size, 0, none⟩ 1 1 [.int .u8 (nth (dig U) ip)] rfl rfl (cell_one_new _ _ _) (ints_oneCell .u8 [nth (dig U) ip]) hroom.out ?_; intro w8 hown8 hgr8; refine Hid.out ?_)
                  refine Lib.hid ?_
                  have hM8 := hM.push (nth (dig U) ip) hown8 hgr8
                  have HDS8 : Hid (w8.heap[db]? = w5.heap[db]?) := (hgr8.block db (by simp; omega) (fun e => by injection e with e; omega)).trans ((Below.heap_alloc _ _ _ hdbw).trans HDS.out)
                  have hdb8 : db < w8.heap.size := by have := hgr8.size; simp at this; omega
                  have HL8 : Hid (LL ++ [nth (dig U) ip] = L0 ++ bodyTo P m (i + 1)) := by unfold Hid; rw [HLL.out, bodyTo_next, hxv.out, if_pos Hm0.out]; simp [List.append_assoc]
                  have Hlen8 : Hid ((LL ++ [nth (dig U) ip]).length = LL.length + 1) := by unfold Hid; simp
                  clear hown8 hgr8 hM hown y
                  go_wp2
                  go_roundw
                  case rel => exact ⟨i + 1, LL ++ [nth (dig U) ip], by omega, by go_num, by rw [Hlen8.out], hM8, HL8.out, HDS8.out, hdb8⟩
                  case measure => simp [intOf]; omega
              · have hm1 : ((i : Int) == (m : Int)) = false := beq_eq_false_iff_ne.2 (by omega)
                have Hm0 : Hid (¬ i = m) := hm0
                have HLL : Hid (LL = L0 ++ (bodyTo P m i ++ [])) := by unfold Hid; rw [List.append_nil]; exact HLL0.out
                clear hm0
                by_cases hpd : i < pad
                · have hpd' : decide ((i : Int) < (pad : Int)) = true := decide_eq_true (by omega)
                  have hxv : Hid (nth P i = 48) := by unfold Hid; rw [HP.out, nth_app_left _ _ _ (by rw [zer_len]; exact hpd)]; simp [zer, nth, hpd]
                  have hroom : Hid (LL.length + 1 ≤ xs.length + 48) := by unfold Hid; omega
                  go_wp2_with (at_builtin; refine wpList_append_fits _ rfl (.tmp 66) (.tmp 67) 22 rfl H 5 i0 1 Tryd.underlying22 hi5 hz1 H LL.length (xs.length + 48) (LL.map (Value.int .u8)) rfl (hown.alloc _) ⟨wr.heap.size, 0, none⟩ 1 1 [.int .u8 48] rfl rfl (cell_one_new _ _ _) (ints_oneCell .u8 [48]) hroom.out ?_; intro w8 hown8 hgr8; refine Hid.out ?_)
                  refine Lib.hid ?_
                  have hM8 := hM.push 48 hown8 hgr8
                  have HDS8 : Hid (w8.heap[db]? = w5.heap[db]?) := (hgr8.block db (by simp; omega) (fun e => by injection e with e; omega)).trans ((Below.heap_alloc _ _ _ hdbw).trans HDS.out)
                  have hdb8 : db < w8.heap.size := by have := hgr8.size; simp at this; omega
                  have HL8 : Hid (LL ++ [48] = L0 ++ bodyTo P m (i + 1)) := by unfold Hid; rw [HLL.out, bodyTo_next, hxv.out, if_neg Hm0.out]; simp [List.append_assoc]
                  have Hlen8 : Hid ((LL ++ [(48 : Int)]).length = LL.length + 1) := by unfold Hid; simp
                  clear hown8 hgr8 hM hown
                  go_wp2
                  go_roundw
                  case rel => exact ⟨i + 1, LL ++ [48], by omega, by go_num, by rw [Hlen8.out], hM8, HL8.out, HDS8.out, hdb8⟩
                  case measure => simp [intOf]; omega
                · have hpd' : decide ((i : Int) < (pad : Int)) = false := decide_eq_false (by omega)
                  have hdl : i - pad < dl := by omega
                  have hxv : Hid (nth P i = nth (dig U) (i - pad)) := by
                    unfold Hid
                    rw [HP.out]
                    have h1 := nth_app_right (zer pad) (dig U) (i - pad)
                    rw [zer_len, show pad + (i - pad) = i by omega] at h1
                    exact h1
                  have y : wr.cell? ⟨db, i - pad, none⟩ = some (.int .u8 (nth (dig U) (i - pad))) := by
                    rw [World.cell?_of_block (w := w5) (a := ⟨db, i - pad, none⟩) (HDS.out)]
                    exact hrow.cell (i - pad) (by rw [← Hdl.out]; exact hdl)
                  have ji : (i : Int) - (pad : Int) = ((i - pad : Nat) : Int) := by omega
                  obtain ⟨ip, hip⟩ : ∃ ip, ip = i - pad := ⟨_, rfl⟩
                  rw [← hip] at y ji hdl hxv
                  have hroom : Hid (LL.length + 1 ≤ xs.length + 48) := by unfold Hid; omega
                  have hdl' : (ip : Int) < (dl : Int) := by omega
                  clear hip
                  go_wp2_with (at_builtin; refine wpList_append_fits _ rfl (.tmp 69) (.tmp 76) 22 rfl H 5 i0 1 Tryd.underlying22 hi5 hz1 H LL.length (xs.length + 48) (LL.map (Value.int .u8)) rfl (hown.alloc _) ⟨wr.heap.size, 0, none⟩ 1 1 [.int .u8 (nth (dig U) ip)] rfl rfl (cell_one_new _ _ _) (ints_oneCell .u8 [nth (dig U) ip]) hroom.out ?_; intro w8 hown8 hgr8; refine Hid.out ?_)
                  refine Lib.hid ?_
                  have hM8 := hM.push (nth (dig U) ip) hown8 hgr8
                  have HDS8 : Hid (w8.heap[db]? = w5.heap[db]?) := (hgr8.block db (by simp; omega) (fun e => by injection e with e; omega)).trans ((Below.heap_alloc _ _ _ hdbw).trans HDS.out)
                  have hdb8 : db < w8.heap.size := by have := hgr8.size; simp at this; omega
                  have HL8 : Hid (LL ++ [nth (dig U) ip] = L0 ++ bodyTo P m (i + 1)) := by unfold Hid; rw [HLL.out, bodyTo_next, hxv.out, if_neg Hm0.out]; simp [List.append_assoc]
                  have Hlen8 : Hid ((LL ++ [nth (dig U) ip]).length = LL.length + 1) := by unfold Hid; simp
                  clear hown8 hgr8 hM hown y
                  go_wp2
                  go_roundw
                  case rel => exact ⟨i + 1, LL ++ [nth (dig U) ip], by omega, by go_num, by rw [Hlen8.out], hM8, HL8.out, HDS8.out, hdb8⟩
                  case measure => simp [intOf]; omega
            · obtain rfl : i = tot := by omega
              have hfin : wr.ownsRow H 5 1 (.slice (some ⟨H, 0, none⟩) LL.length (xs.length + 48)) (xs.length + (fixedOf v p).length) (xs.map (Value.int .u8) ++ (fixedOf v p).map (Value.int .u8)) := by
                have e : LL = xs ++ fixedOf v p := by rw [HLL0.out, HE.out]
                have h2 := hown
                rw [e, List.map_append, List.length_append] at h2
                rw [e, List.length_append]
                exact h2
              have hbel := hM.bel
              clear hown hM
              go_wp2
              go_ret
              exact ⟨_, rfl, by rw [HH.out]; exact hfin, by rw [HH.out]; exact hbel⟩
        · subst hs2
          have hs5 : decide (tot < p + 1) = false := decide_eq_false (by omega)
          have hs6 : decide ((tot : Int) < (p : Int) + 1) = false := decide_eq_false (by omega)
          go_wp2
          clear ep
          go_loopw [7, 12] (fun ov iv wr => ∃ (i : Nat) (L : List Int), i ≤ tot ∧ iv = .int .i64 i ∧ ov = .slice (some ⟨H, 0, none⟩) L.length (xs.length + 48) ∧ FMem w H (xs.length + 48) L wr ∧ Hid (L = L0 ++ bodyTo P m i) ∧ Hid (wr.heap[db]? = w5.heap[db]?) ∧ db < wr.heap.size) (fun _ iv _ => tot - (intOf iv).toNat)
          case atStart => exact ⟨0, L0, Nat.zero_le _, rfl, by rw [HLx.out], hM5, by simp [bodyTo, Hid], rfl, hdbl⟩
          case round =>
            clear hM5
            obtain ⟨i, LL, hi, rfl, rfl, hM, HLL0, HDS, hdbw⟩ := hrel
            have hown := hM.own
            have hLLl : LL.length ≤ xs.length + i + 2 := by
              rw [HLL0.out, List.length_append]
              have := (bodyTo_len P m i).1
              omega
            by_cases hlt : i < tot
            · have em : (tot : Int) - (p : Int) = (m : Int) := by omega
              by_cases hm0 : i = m
              · have hm1 : ((i : Int) == (m : Int)) = true := beq_iff_eq.2 (by omega)
                have hroom0 : Hid (LL.length + 1 ≤ xs.length + 48) := by unfold Hid; omega
                have Hm0 : Hid (i = m) := hm0
                clear hm0
                go_wp2_with (at_builtin; refine wpList_append_fits _ rfl (.tmp 60) (.tmp 61) 22 rfl H 5 i0 1 Tryd.underlying22 hi5 hz1 H LL.length (xs.length + 48) (LL.map (Value.int .u8)) rfl (hown.alloc _) ⟨wr.heap.size, 0, none⟩ 1 1 [.int .u8 46] rfl rfl (cell_one_new _ _ _) (ints_oneCell .u8 [46]) hroom0.out ?_; intro w7 hown7 hgr7; refine Hid.out ?_)
                refine Lib.hid ?_
                have hM7 := hM.push 46 hown7 hgr7
                have HDS7 : Hid (w7.heap[db]? = w5.heap[db]?) := (hgr7.block db (by simp; omega) (fun e => by injection e with e; omega)).trans ((Below.heap_alloc _ _ _ hdbw).trans HDS.out)
                have hdb7 : db < w7.heap.size := by have := hgr7.size; simp at this; omega
                have HLL : Hid (LL ++ [46] = L0 ++ (bodyTo P m i ++ [46])) := by unfold Hid; rw [HLL0.out, List.append_assoc]
                have hLL7 : (LL ++ [(46 : Int)]).length ≤ xs.length + i + 3 := by simp; omega
                have hll7 : LL.length + 1 = (LL ++ [(46 : Int)]).length := by simp
                rw [hll7]
                clear hown hM hown7 hgr7 HDS hdbw hLLl HLL0 hll7
                generalize LL ++ [(46 : Int)] = LL at *
                have hM := hM7
                have hown := hM.own
                have HDS := HDS7
                have hdbw := hdb7
                clear hM7 HDS7 hdb7
                by_cases hpd : i < pad
                · exact absurd hpd (by omega)
                · have hpd' : decide ((i : Int) < (pad : Int)) = false := decide_eq_false (by omega)
                  have hdl : i - pad < tot := by omega
                  have hxv : Hid (nth P i = nth (dig U) (i - pad)) := by
                    unfold Hid
                    rw [HP.out]
                    have h1 := nth_app_right (zer pad) (dig U) (i - pad)
                    rw [zer_len, show pad + (i - pad) = i by omega] at h1
                    exact h1
                  have y : w7.cell? ⟨db, i - pad, none⟩ = some (.int .u8 (nth (dig U) (i - pad))) := by
                    rw [World.cell?_of_block (w := w5) (a := ⟨db, i - pad, none⟩) (HDS.out)]
                    exact hrow.cell (i - pad) (by rw [← Hdl.out]; exact hdl)
                  have ji : (i : Int) - (pad : Int) = ((i - pad : Nat) : Int) := by omega
                  obtain ⟨ip, hip⟩ : ∃ ip, ip = i - pad := ⟨_, rfl⟩
                  rw [← hip] at y ji hdl hxv
                  have hroom : Hid (LL.length + 1 ≤ xs.length + 48) := by unfold Hid; omega
                  have hdl' : (ip : Int) < (tot : Int) := by omega
                  clear hip
                  go_wp2_with (at_builtin; refine wpList_append_fits _ rfl (.tmp 69) (.tmp 76) 22 rfl H 5 i0 1 Tryd.underlying22 hi5 hz1 H LL.length (xs.length + 48) (LL.map (Value.int .u8)) rfl (hown.alloc _) ⟨w7.heap.size, 0, none⟩ 1 1 [.int .u8 (nth (dig U) ip)] rfl rfl (cell_one_new _ _ _) (ints_oneCell .u8 [nth (dig U) ip]) hroom.out ?_; intro w8 hown8 hgr8; refine Hid.out ?_)
                  refine Lib.hid ?_
                  have hM8 := hM.push (nth (dig U) ip) hown8 hgr8
                  have HDS8 : Hid (w8.heap[db]? = w5.heap[db]?) := (hgr8.block db (by simp; omega) (fun e => by injection e with e; omega)).trans ((Below.heap_alloc _ _ _ hdbw).trans HDS.out)
                  have hdb8 : db < w8.heap.size := by have := hgr8.size; simp at this; omega
                  have HL8 : Hid (LL ++ [nth (dig U) ip] = L0 ++ bodyTo P m (i + 1)) := by unfold Hid; rw [HLL.out, bodyTo_next, hxv.out, if_pos Hm0.out]; simp [List.append_assoc]
                  have Hlen8 : Hid ((LL ++ [nth (dig U) ip]).length = LL.length + 1) := by unfold Hid; simp
                  clear hown8 hgr8 hM hown y
                  go_wp2
                  go_roundw
                  case rel => exact ⟨i + 1, LL ++ [nth (dig U) ip], by omega, by go_num, by rw [Hlen8.out], hM8, HL8.out, HDS8.out, hdb8⟩
                  case measure => simp [intOf]; omega
              · have hm1 : ((i : Int) == (m : Int)) = false := beq_eq_false_iff_ne.2 (by omega)
                have Hm0 : Hid (¬ i = m) := hm0
                have HLL : Hid (LL = L0 ++ (bodyTo P m i ++ [])) := by unfold Hid; rw [List.append_nil]; exact HLL0.out
                clear hm0
                by_cases hpd : i < pad
                · exact absurd hpd (by omega)
                · have hpd' : decide ((i : Int) < (pad : Int)) = false := decide_eq_false (by omega)
                  have hdl : i - pad < tot := by omega
                  have hxv : Hid (nth P i = nth (dig U) (i - pad)) := by
                    unfold Hid
                    rw [HP.out]
                    have h1 := nth_app_right (zer pad) (dig U) (i - pad)
                    rw [zer_len, show pad + (i - pad) = i by omega] at h1
                    exact h1
                  have y : wr.cell? ⟨db, i - pad, none⟩ = some (.int .u8 (nth (dig U) (i - pad))) := by
                    rw [World.cell?_of_block (w := w5) (a := ⟨db, i - pad, none⟩) (HDS.out)]
                    exact hrow.cell (i - pad) (by rw [← Hdl.out]; exact hdl)
                  have ji : (i : Int) - (pad : Int) = ((i - pad : Nat) : Int) := by omega
                  obtain ⟨ip, hip⟩ : ∃ ip, ip = i - pad := ⟨_, rfl⟩
                  rw [← hip] at y ji hdl hxv
                  have hroom : Hid (LL.length + 1 ≤ xs.length + 48) := by unfold Hid; omega
                  have hdl' : (ip : Int) < (tot : Int) := by omega
                  clear hip
                  go_wp2_with (at_builtin; refine wpList_append_fits _ rfl (.tmp 69) (.tmp 76) 22 rfl H 5 i0 1 Tryd.underlying22 hi5 hz1 H LL.length (xs.length + 48) (LL.map (Value.int .u8)) rfl (hown.alloc _) ⟨wr.heap.size, 0, none⟩ 1 1 [.int .u8 (nth (dig U) ip)] rfl rfl (cell_one_new _ _ _) (ints_oneCell .u8 [nth (dig U) ip]) hroom.out ?_; intro w8 hown8 hgr8; refine Hid.out ?_)
                  refine Lib.hid ?_
                  have hM8 := hM.push (nth (dig U) ip) hown8 hgr8
                  have HDS8 : Hid (w8.heap[db]? = w5.heap[db]?) := (hgr8.block db (by simp; omega) (fun e => by injection e with e; omega)).trans ((Below.heap_alloc _ _ _ hdbw).trans HDS.out)
                  have hdb8 : db < w8.heap.size := by have := hgr8.size; simp at this; omega
                  have HL8 : Hid (LL ++ [nth (dig U) ip] = L0 ++ bodyTo P m (i + 1)) := by unfold Hid; rw [HLL.out, bodyTo_next, hxv.out, if_neg Hm0.out]; simp [List.append_assoc]
                  have Hlen8 : Hid ((LL ++ [nth (dig U) ip]).length = LL.length + 1) := by unfold Hid; simp
                  clear hown8 hgr8 hM hown y
                  go_wp2
                  go_roundw
                  case rel => exact ⟨i + 1, LL ++ [nth (dig U) ip], by omega, by go_num, by rw [Hlen8.out], hM8, HL8.out, HDS8.out, hdb8⟩
                  case measure => simp [intOf]; omega
            · obtain rfl : i = tot := by omega
              have hfin : wr.ownsRow H 5 1 (.slice (some ⟨H, 0, none⟩) LL.length (xs.length + 48)) (xs.length + (fixedOf v p).length) (xs.map (Value.int .u8) ++ (fixedOf v p).map (Value.int .u8)) := by
                have e : LL = xs ++ fixedOf v p := by rw [HLL0.out, HE.out]
                have h2 := hown
                rw [e, List.map_append, List.length_append] at h2
                rw [e, List.length_append]
                exact h2
              have hbel := hM.bel
              clear hown hM
              go_wp2
              go_ret
              exact ⟨_, rfl, by rw [HH.out]; exact hfin, by rw [HH.out]; exact hbel⟩
end Go.Proofs.Qxb6603870aDoor
