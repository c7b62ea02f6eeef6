import Derived.Test.Qxb6605187aCompInv
import Derived.Deep.Cut
namespace Go.Proofs.Qxb6605187a
open Go.RowKit
set_option linter.unusedVariables false

theorem adjTo_mono (S A of : List Int) (c : Int) (u v : Nat) (h : u ≤ v) : (adjTo S A of c u).length ≤ (adjTo S A of c v).length := by
  induction v with
  | zero => rw [show u = 0 by omega]; exact Nat.le_refl _
  | succ v ih =>
    by_cases e : u = v + 1
    · rw [e]; exact Nat.le_refl _
    · have := ih (by omega)
      by_cases hq : nth of v = c
      · rw [adjTo_yes _ _ _ _ _ hq, List.length_append]; omega
      · rw [adjTo_no _ _ _ _ _ hq]; omega
/-- the links of class c, behind j neighbours of peer v -/
def adjIn (S A of : List Int) (c : Int) (v j : Nat) : List Int := adjTo S A of c v ++ ((nbr S A v).take j).map (fun w => (rk of w.toNat : Int))
theorem adjIn_zero (S A of : List Int) (c : Int) (v : Nat) : adjIn S A of c v 0 = adjTo S A of c v := by simp [adjIn]
theorem adjIn_full (S A of : List Int) (c : Int) (v : Nat) (h : nth of v = c) : adjIn S A of c v (nbr S A v).length = adjTo S A of c (v + 1) := by rw [adjTo_yes _ _ _ _ _ h, adjIn, List.take_length]
theorem adjIn_succ (S A of : List Int) (c : Int) (v j : Nat) (h : j < (nbr S A v).length) : adjIn S A of c v (j + 1) = adjIn S A of c v j ++ [(rk of (nth (nbr S A v) j).toNat : Int)] := by
  unfold adjIn
  rw [take_nth _ _ h, List.map_append, List.append_assoc]
  rfl
theorem adjIn_len (S A of : List Int) (c : Int) (v j : Nat) (h : nth of v = c) (hj : j < (nbr S A v).length) (hv : v < of.length) : (adjIn S A of c v j).length < totOf S A of c := by
  have h1 := adjTo_mono S A of c (v + 1) of.length hv
  rw [← adjIn_full _ _ _ _ _ h] at h1
  unfold totOf
  unfold adjIn at h1 ⊢
  simp at h1 ⊢
  omega

/-- what stands at the end -/
theorem CInv3.done {S A of sizes : List Int} {size : Int} {w w1 : World} {rb : Nat} {g a : Int → Nat} {R : List Int} {av : Option Addr} {cv : Nat} {wr : World} (hP : Part S A of sizes) (h : CInv3 S A of sizes size w1 rb g a R (.slice av (keptTo of sizes size of.length).length cv) (fun c => adjTo S A of c of.length) wr)
    (hn : size + 1 ≠ S.length) (hf : Fix (fun b => b < w.heap.size) w w1) (hrb : w.heap.size < rb) : CompPost S A of sizes size w (.returned (.slice av (keptTo of sizes size of.length).length cv)) wr := by
  obtain ⟨ad, hM, hK, hA, had⟩ := h
  have e : subsOf S A of sizes size = (keptTo of sizes size of.length).map fun c => (stTo S A of c of.length, adjTo S A of c of.length) := by unfold subsOf; rw [if_neg hn]
  unfold CompPost
  rw [e, List.length_map]
  refine ⟨av, cv, rfl, hf.trans (hM.fix.mono fun b hb => by omega), ?_⟩
  obtain ⟨av', cv', hv', hform⟩ := hK.form
  injection hv' with e1 e2 e3
  subst e1
  rcases hform with h0 | ⟨b, rfl, hb1, hb2, hb3, hb4⟩
  · rw [h0]; exact .inl rfl
  · refine .inr ⟨b, 0, hb2, rfl, fun i hi => ?_⟩
    have hi2 : i < (keptTo of sizes size of.length).length := by simpa using hi
    have hc := nth_mem _ _ hi2
    have eg : (keptTo of sizes size of.length)[i] = nth (keptTo of sizes size of.length) i := by simp [nth, hi2]
    refine ⟨g (nth (keptTo of sizes size of.length) i), by rw [Nat.zero_add]; exact hb4 i hi2, ?_⟩
    rw [List.getElem_map, eg]
    generalize nth (keptTo of sizes size of.length) i = c at hc
    obtain ⟨hc0, hcm, hsz⟩ := kept_size hP hc
    have hl := stTo_len S A of c of.length
    have r1 := hM.row c hc
    have r2 := hA.row c hc
    rw [pad_full _ _ (by omega)] at r1
    rw [pad_full (adjTo S A of c of.length) (totOf S A of c) rfl] at r2
    have s1 := (hM.st c hc).cell 1
    have s1' : wr.cell? ⟨g c, 1, none⟩ = some (.slice (some ⟨a c, 0, none⟩) (adjTo S A of c of.length).length (totOf S A of c)) := s1.trans (congrArg some (had c hc))
    exact ⟨(hM.st c hc).lt, _, _, _, _, (hM.st c hc).cell 0, s1', Nat.le_refl _, (fun h => by cases h), r1.view (Row.lt r1), r2.view (Row.lt r2)⟩

set_option maxHeartbeats 4000000 in
set_option maxRecDepth 100000 in
theorem comp_any {w : World} {gb : Nat} {S A of sizes : List Int} (size : Int) {oa za : Option Addr} {oc zc : Nat} (hG : Graph (fun b => b < w.heap.size) w gb S A) (hP : Part S A of sizes) (hm : sizes.length ≤ 70000)
    (v2 : View (fun b => b < w.heap.size) w .i64 oa of) (v3 : View (fun b => b < w.heap.size) w .i64 za sizes) (hsz : -9223372036854775808 ≤ size ∧ size ≤ 9223372036854775807) :
    Calls Try.prog 36 #[.pointer (some ⟨gb, 0, none⟩), .agg #[.slice oa of.length oc, .slice za sizes.length zc], .int .i64 size] w (CompPost S A of sizes size w) := by
  have hcsr := hG.csr
  have hl := hcsr.len
  have hS := hG.hS
  have hA := hG.hA
  obtain ⟨sa, sc, aa, ac, g0, g1, hac, hnone, u0, u1⟩ := hG.ex
  have hgb : gb < w.heap.size := hG.Ug
  have en : (S.length : Int) - 1 = (of.length : Nat) := by have := hP.len; omega
  have Hen : Hid (of.length + 1 = S.length) := hP.len
  obtain ⟨W1, hW1⟩ : ∃ W1 : World, W1 = w.alloc (.cells #[.slice oa of.length oc, .slice za sizes.length zc] 40) := ⟨_, rfl⟩
  have hf1 : Fix (fun b => b < w.heap.size) w W1 := by rw [hW1]; exact (Fix.refl _ _).alloc (fun k hk => hk) _
  have hs1 : W1.heap.size = w.heap.size + 1 := by rw [hW1]; simp
  have hb0 : W1.cell? ⟨w.heap.size, 0, none⟩ = some (.slice oa of.length oc) := by rw [hW1]; exact Row.cell (vs := [.slice oa of.length oc, .slice za sizes.length zc]) (heap_alloc_new _ _) 0
  have hb1 : W1.cell? ⟨w.heap.size, 1, none⟩ = some (.slice za sizes.length zc) := by rw [hW1]; exact Row.cell (vs := [.slice oa of.length oc, .slice za sizes.length zc]) (heap_alloc_new _ _) 1
  have pe := peers_any gb S.length sc sa W1 hS ((hf1.cell (p := ⟨gb, 0, none⟩) hgb).trans g0)
  have Pe : Hid _ := pe
  have Hs1 : Hid (W1.heap.size = w.heap.size + 1) := hs1
  clear pe hs1
  go_enter Try.func36, Try.ntmps36
  go_wp2_with fail
  rw [← hW1]
  clear hW1
  refine Calls.mono Pe.out ?_
  rintro e w2 ⟨rfl, rfl⟩
  rw [en]
  by_cases hn : size = (of.length : Int)
  · have Hn : Hid (size = (of.length : Int)) := hn
    go_wp2
    go_ret
    have e1 : subsOf S A of sizes size = [(S, A)] := by
      unfold subsOf
      rw [if_pos (by have := Hen.out; have := Hn.out; omega)]
    unfold CompPost
    rw [e1]
    have hf2 : Fix (fun b => b < w.heap.size) w (w2.alloc (.cells #[.pointer (some ⟨gb, 0, none⟩)] 30)) := hf1.alloc (fun k hk => by have := Hs1.out; omega) _
    have ew : ∀ b, b < w.heap.size → b < (w2.alloc (.cells #[.pointer (some ⟨gb, 0, none⟩)] 30)).heap.size := fun b hb => by have := Hs1.out; simp; omega
    have hrow : Row (w2.alloc (.cells #[.pointer (some ⟨gb, 0, none⟩)] 30)) (w.heap.size + 1) 30 [.pointer (some ⟨gb, 0, none⟩)] := by rw [← Hs1.out]; exact heap_alloc_new _ _
    refine ⟨_, _, rfl, hf2, .inr ⟨w.heap.size + 1, 0, by have := Hs1.out; simp; omega, by rw [← Hs1.out], fun i hi => ?_⟩⟩
    have hi0 : i = 0 := by simpa using hi
    subst hi0
    refine ⟨gb, hrow.cell 0, ew gb hgb, sa, sc, aa, ac, (hf2.cell (p := ⟨gb, 0, none⟩) hgb).trans g0, (hf2.cell (p := ⟨gb, 1, none⟩) hgb).trans g1, hac, hnone, (u0.fix hf2).weaken ew, (u1.fix hf2).weaken ew⟩
  · have hn' : decide (size = (of.length : Int)) = false := by simp [hn]
    have Hn : Hid (size ≠ (of.length : Int)) := hn
    have hmk1 := run_make_row' (P := Try.prog) 23 21 (.int .i32 0) 4 Try.underlying23 (by kernel_rfl) rfl .i64 .i64 of.length (by omega) (by omega)
    have hmk2 := run_make_row' (P := Try.prog) 37 30 (.pointer none) 8 (by kernel_rfl) (by kernel_rfl) rfl .i64 .i64 sizes.length (by omega) (by omega)
    go_wp2_with fail
    refine Calls.mono Pe.out ?_
    rintro e w3 ⟨rfl, rfl⟩
    rw [en]
    obtain ⟨rb, hrb⟩ : ∃ rb, w3.heap.size = rb := ⟨_, rfl⟩
    have hrb1 : w.heap.size < rb := by have := Hs1.out; omega
    have Hrb : Hid (w3.heap.size = rb) := hrb
    go_wp2
    clear hmk1 hmk2
    clear hrb
    have HP : Hid _ := hP
    have HG : Hid _ := hG
    have hofl : of.length ≤ 70000 := by omega
    have Hn' : Hid _ := hn'
    clear hP hG hn' en hn
    go_loopw [9, 34] (fun kv i wr => ∃ k : Nat, k ≤ of.length ∧ i = .int .i64 k ∧ CInv1 S A of sizes size w3 rb k kv wr) (fun _ i _ => of.length - (intOf i).toNat)
    case atStart =>
      refine ⟨0, Nat.zero_le _, rfl, ?_⟩
      rw [← Hrb.out]
      exact CInv1.zero _ _ _ _ _ _
    case round =>
      obtain ⟨k, hk, rfl, hI⟩ := hrel
      by_cases hlt : k < of.length
      · obtain ⟨g, ad, R, hM, hK, hda, hR⟩ := id hI
        have hfw : Fix (fun b => b < w.heap.size) w wr := hf1.trans (hM.fix.mono fun b hb => by omega)
        obtain ⟨b2, o2, hb2, rfl, hc2⟩ := v2.at (by omega)
        have z2 := (hfw.cell (p := ⟨b2, o2 + k, none⟩) hb2).trans (hc2 k hlt)
        have hrng := HP.out.rng k hlt
        obtain ⟨c, hc⟩ : ∃ c : Nat, nth of k = c := ⟨(nth of k).toNat, by omega⟩
        rw [hc] at z2 hrng
        have hcm : c < sizes.length := by omega
        obtain ⟨b3, o3, hb3, rfl, hc3⟩ := v3.at (by omega)
        have z3 := (hfw.cell (p := ⟨b3, o3 + c, none⟩) hb3).trans (hc3 c hcm)
        have y1 := (hM.fix.cell (p := ⟨w.heap.size, 1, none⟩) (by show w.heap.size < rb; omega)).trans hb1
        have Hc : Hid (nth of k = c) := hc
        clear hc hc2 hc3 v2 v3
        by_cases hq : nth sizes c = size
        · have hcnt := HP.out.cnt c hcm
          have hcl := cntTo_lt of k of.length hlt
          obtain ⟨sz, hszn⟩ : ∃ sz : Nat, (sz : Int) = size := ⟨cntTo of c of.length, by omega⟩
          subst hszn
          have hsz1 : sz = cntTo of c of.length := by omega
          rw [← Hc.out] at hsz1
          have Hsz1 : Hid (sz = cntTo of (nth of k) of.length) := hsz1
          have hszl : sz ≤ 70000 := by have := cntTo_le of (nth of k) of.length; omega
          have hq' : (nth sizes c != (sz : Int)) = false := by simp [hq]
          rw [Int.toNat_natCast] at hM
          have Hq : Hid (nth sizes c = (sz : Int)) := hq
          have Hq2 : Hid (nth sizes (nth of k).toNat = (sz : Int)) := by unfold Hid; rw [Hc.out]; exact hq
          have hrk : cntTo of (nth of k) k < sz := by omega
          rw [Hc.out] at hrk
          clear hq hcnt hI hsz1 hcl
          by_cases hcK : (c : Int) ∈ keptTo of sizes (sz : Int) k
          · have p1 := (hM.sub.cell c).trans (ptrs_yes _ _ _ _ hcm hcK)
            have HcK : Hid ((c : Int) ∈ keptTo of sizes (sz : Int) (k + 1)) := by unfold Hid; rw [keptTo_old _ _ _ _ (by rw [Hc.out]; exact hcK)]; exact hcK
            rw [← keptTo_old _ _ _ _ (by rw [Hc.out]; exact hcK)] at hM hK hda
            have HM : Hid _ := hM
            have HKp : Hid _ := hK
            have Hda : Hid _ := hda
            clear hM hcK hK hda
            go_wp2_with fail
            have p2 := (HM.out.st c HcK.out).cell 0
            have hlen := stTo_len S A of c k
            have pe2 := peers_any (g c) (stTo S A of c k).length (sz + 1) (some ⟨g c - 1, 0, none⟩) wr (by have := cntTo_le of c k; omega) p2
            refine Calls.mono pe2 ?_
            rintro e w4 ⟨rfl, rfl⟩
            have hck := cntTo_le of c k
            rw [show ((stTo S A of c k).length : Int) - 1 = (cntTo of c k : Nat) by omega]
            have f1 := HM.out.rank.cell k (by rw [HM.out.rl]; exact hlt)
            have f2 := HM.out.rank.frozen k
            have hck2 : cntTo of c k ≤ 70000 := by omega
            clear pe2 hlen
            go_upto_region 14 with fail
            have hM5 := HM.out.setRank k (cntTo of c k : Nat)
            have hfw5 : Fix (fun b => b < w.heap.size) w (w4.setCell ⟨rb, k, none⟩ (.int .i32 (cntTo of c k : Nat))) := hfw.setCell (by show ¬ rb < w.heap.size; omega) _
            have hkS : k + 1 < S.length := by have := Hen.out; omega
            have hst := stTo_len S A of c k
            have hx := stTo_last S A of c k
            have hxl := adjTo_le hcsr of c k (by omega)
            have hxl2 := hcsr.st_le k (by omega)
            have r1 := (hM5.sub.cell c).trans (ptrs_yes _ _ _ _ hcm HcK.out)
            have r2 := (hM5.st c HcK.out).cell 0
            have r3 := (hM5.st c HcK.out).frozen 0
            have r4 := (hM5.row c HcK.out).cell (cntTo of c k) (by rw [pad_len _ _ (by omega)]; omega)
            rw [pad_nth _ _ _ (by omega)] at r4
            have r5 := (hM5.row c HcK.out).cell (stTo S A of c k).length (by rw [pad_len _ _ (by omega)]; omega)
            have r6 := (hM5.row c HcK.out).frozen (stTo S A of c k).length
            have r7 := hM5.rank.cell k (by rw [hM5.rl]; exact hlt)
            rw [nth_set _ _ _ _ (by rw [HM.out.rl]; exact hlt), if_pos rfl] at r7
            have hlo := hM5.lo c HcK.out
            refine reg14 (fun b => b < w.heap.size) S A gb (rb + 1) sizes.length (g c) c (g c - 1) (stTo S A of c k).length (sz + 1) rb of.length k (cntTo of c k) (nth (stTo S A of c k) (cntTo of c k)) _ ?_ _ _ (by rfl) (by rfl) (by rfl) (by rfl) (by rfl) (by rfl) (HG.out.fix hfw5) hkS hcm hlt (by omega) ⟨r1, r2, r7, r4⟩ (by omega) (by omega) (by omega) r3 (by omega) (by omega) (by omega) _ r5 r6 ?_
            · intro c a d v w h
              cases d <;> exact h
            intro n4 a4 c4
            clear r1 r2 r3 r4 r5 r6 r7
            simp only [Act.put, List.setIfInBounds_toArray, List.set_cons_zero, List.set_cons_succ]
            have Hst : Hid _ := hst
            have Hx : Hid _ := hx
            have hM6 := (hM5.drewN (1 + n4)).alloc (.cells #[.int .i64 (nth (stTo S A of c k) (cntTo of c k) + (nbr S A k).length)] 3)
            have hM7 := hM6.push c HcK.out (nth (stTo S A of c k) (cntTo of c k) + (nbr S A k).length) (by show (stTo S A of c k).length < sz + 1; omega)
            have hK7 := (((((HKp.out.set ⟨rb, k, none⟩ (.inl (by show rb < rb + 2; omega)) (.int .i32 (cntTo of c k : Nat))).drewN (1 + n4)).alloc (.cells #[.int .i64 (nth (stTo S A of c k) (cntTo of c k) + (nbr S A k).length)] 3))).set ⟨g c - 1, (stTo S A of c k).length, none⟩ (.inr ⟨c, HcK.out, .inr rfl⟩) (.int .i64 (nth (stTo S A of c k) (cntTo of c k) + (nbr S A k).length))).set ⟨g c, 0, none⟩ (.inr ⟨c, HcK.out, .inl rfl⟩) (.slice (some ⟨g c - 1, 0, none⟩) ((stTo S A of c k).length + 1) (sz + 1))
            have hI7 := CInv1.step Hc.out hlt hM7 hK7 Hda.out hR
            clear hM5 hM6 hM7 hK7 hst hx
            go_wp2
            go_roundw
            case rel => exact ⟨k + 1, by omega, by go_num, hI7⟩
            case measure => simp [intOf]; omega
          · have p1 := (hM.sub.cell c).trans (ptrs_no _ _ _ _ hcm hcK)
            have p1f := hM.sub.frozen c
            have hmk3 : ∀ W : World, (Instr.makeSlice 22 (.int .i64 1) (.int .i64 ((sz : Int) + 1))).run Try.prog W = .ok (.slice (some ⟨W.heap.size, 0, none⟩) 1 (sz + 1)) (W.alloc (.cells (madeCells #[.int .i64 0] (sz + 1)) 3)) := by
              intro W
              obtain ⟨i0, hi, hz0, hz1, hz2⟩ := info_parts Try.i3
              have := run_make (P := Try.prog) W 22 3 i0 (.int .i64 0) Try.underlying22 hi hz0 .i64 .i64 1 (sz + 1) (by omega) (by omega) (by rw [hz2]; omega) (by omega)
              have e : (Value.int .i64 0).cells = #[.int .i64 0] := rfl
              rw [hz1, e] at this
              simpa using this
            have hMA := (hM.alloc (.cells (madeCells #[.int .i64 0] (sz + 1)) 3)).alloc (.cells #[.slice (some ⟨wr.heap.size, 0, none⟩) 1 (sz + 1), .slice none 0 0] 55)
            have q1 := (hMA.sub.cell c).trans (ptrs_no _ _ _ _ hcm hcK)
            have q2 := hMA.sub.frozen c
            have hKE := hK.enter c hcK (.cells (madeCells #[.int .i64 0] (sz + 1)) 3) (.cells #[.slice (some ⟨wr.heap.size, 0, none⟩) 1 (sz + 1), .slice none 0 0] 55) (.pointer (some ⟨wr.heap.size + 1, 0, none⟩))
            have hkn := keptTo_new of sizes sz k Hq2.out (by rw [Hc.out]; exact hcK)
            rw [Hc.out] at hkn
            have hME0 := hM.enter c hcK
            have hME := hME0.congr (T' := fun c => stTo S A of c k) (ad' := fun _ => .slice none 0 0)
              (fun d hd => by
                by_cases e : d = c
                · subst e; rw [upd_eq, stTo_fresh S A k (fresh_class (by rw [Int.toNat_natCast]; exact Hq.out) hcK)]
                · rw [upd_ne _ _ e])
              (fun d hd => by
                by_cases e : d = c
                · subst e; rw [upd_eq]
                · rw [upd_ne _ _ e]
                  refine hda d ?_
                  rcases List.mem_append.1 hd with h | h
                  · exact h
                  · exact absurd (by simpa using h) e)
            rw [← hkn] at hME hKE
            have hcE : (c : Int) ∈ keptTo of sizes (sz : Int) (k + 1) := by rw [hkn]; simp
            have q3 := (hME.sub.cell c).trans (ptrs_yes _ _ _ _ hcm hcE)
            rw [upd_eq] at q3
            have HcK : Hid ((c : Int) ∈ keptTo of sizes (sz : Int) (k + 1)) := hcE
            have Hkn : Hid _ := hkn
            have HM : Hid _ := hME
            have HKp : Hid _ := hKE
            clear hM hcK hK hda hMA hKE hME0 hME hcE hkn
            go_upto_region 12 with fail
            generalize hV : (((wr.alloc (.cells (madeCells #[.int .i64 0] (sz + 1)) 3)).alloc (.cells #[.slice (some ⟨wr.heap.size, 0, none⟩) 1 (sz + 1), .slice none 0 0] 55)).setCell ⟨rb + 1, c, none⟩ (.pointer (some ⟨wr.heap.size + 1, 0, none⟩))) = V at HM HKp q3 ⊢
            clear hV q1 q2 hmk3
            obtain ⟨g', hg'⟩ : ∃ g', upd g c (wr.heap.size + 1) = g' := ⟨_, rfl⟩
            have hgc : wr.heap.size + 1 = g' c := by rw [← hg', upd_eq]
            rw [hg'] at HM HKp
            rw [hgc] at q3
            clear hg' hgc
            have hkl := keptTo_len of sizes sz k
            obtain ⟨av, cv, hv, _⟩ := HKp.out.form
            subst hv
            have hown := HKp.out.own
            obtain ⟨i0, hi, hz0, hz1, hz2⟩ := info_parts Try.i30
            have hfwV : Fix (fun b => b < w.heap.size) w V := hf1.trans (HM.out.fix.mono fun b hb => by omega)
            clear hfw z2 z3 y1 p1 p1f
            go_wp2_with (at_builtin; refine wpList_append_lies _ rfl (.tmp 59) (.tmp 64) 37 rfl (rb + 2) 30 i0 (.pointer none) 1 8 (by kernel_rfl) hi hz0 hz1 hz2 rfl (by omega) _ _ _ rfl (hown.alloc _) ⟨V.heap.size, 0, none⟩ 1 1 [.pointer (some ⟨g' c, 0, none⟩)] rfl rfl (cell_one_new _ _ _) ?c1 (by omega) ?c2 ?c3 ?c4 (V.heap.size + 1) (by simp) ?_)
            case c1 => intro u hu; rw [List.mem_singleton] at hu; subst hu; rfl
            case c2 => unfold maxLen; omega
            case c3 => omega
            case c4 => have := HM.out.sub.lt; simp; omega
            intro gg cap w6 hown2 hgrow hat hlt2
            have hM1 := HM.out.alloc (.cells #[.pointer (some ⟨g' c, 0, none⟩)] 30)
            have hK1 := HKp.out.alloc (.cells #[.pointer (some ⟨g' c, 0, none⟩)] 30)
            have hM6 := hM1.grown hK1 hgrow
            have hK6 := Kept.grown (c := c) hM1 hK1 hown2 (by simpa using hat)
            rw [← Hkn.out] at hK6
            have p1 := (hM6.sub.cell c).trans (ptrs_yes _ _ _ _ hcm HcK.out)
            have hfw : Fix (fun b => b < w.heap.size) w w6 := hf1.trans (hM6.fix.mono fun b hb => by omega)
            clear HM HKp hM1 hK1 hown hown2 hgrow hat hlt2 hfwV q3
            have HM : Hid _ := hM6
            have HKp : Hid _ := hK6
            clear hM6 hK6
            go_wp2_with fail
            have p2 := (HM.out.st c HcK.out).cell 0
            have hlen := stTo_len S A of c k
            have pe2 := peers_any (g' c) (stTo S A of c k).length (sz + 1) (some ⟨g' c - 1, 0, none⟩) w6 (by have := cntTo_le of c k; omega) p2
            refine Calls.mono pe2 ?_
            rintro e w4 ⟨rfl, rfl⟩
            have hck := cntTo_le of c k
            rw [show ((stTo S A of c k).length : Int) - 1 = (cntTo of c k : Nat) by omega]
            have f1 := HM.out.rank.cell k (by rw [HM.out.rl]; exact hlt)
            have f2 := HM.out.rank.frozen k
            have hck2 : cntTo of c k ≤ 70000 := by omega
            clear pe2 hlen
            go_upto_region 14 with fail
            have hM5 := HM.out.setRank k (cntTo of c k : Nat)
            have hfw5 : Fix (fun b => b < w.heap.size) w (w4.setCell ⟨rb, k, none⟩ (.int .i32 (cntTo of c k : Nat))) := hfw.setCell (by show ¬ rb < w.heap.size; omega) _
            have hkS : k + 1 < S.length := by have := Hen.out; omega
            have hst := stTo_len S A of c k
            have hx := stTo_last S A of c k
            have hxl := adjTo_le hcsr of c k (by omega)
            have hxl2 := hcsr.st_le k (by omega)
            have r1 := (hM5.sub.cell c).trans (ptrs_yes _ _ _ _ hcm HcK.out)
            have r2 := (hM5.st c HcK.out).cell 0
            have r3 := (hM5.st c HcK.out).frozen 0
            have r4 := (hM5.row c HcK.out).cell (cntTo of c k) (by rw [pad_len _ _ (by omega)]; omega)
            rw [pad_nth _ _ _ (by omega)] at r4
            have r5 := (hM5.row c HcK.out).cell (stTo S A of c k).length (by rw [pad_len _ _ (by omega)]; omega)
            have r6 := (hM5.row c HcK.out).frozen (stTo S A of c k).length
            have r7 := hM5.rank.cell k (by rw [hM5.rl]; exact hlt)
            rw [nth_set _ _ _ _ (by rw [HM.out.rl]; exact hlt), if_pos rfl] at r7
            have hlo := hM5.lo c HcK.out
            refine reg14 (fun b => b < w.heap.size) S A gb (rb + 1) sizes.length (g' c) c (g' c - 1) (stTo S A of c k).length (sz + 1) rb of.length k (cntTo of c k) (nth (stTo S A of c k) (cntTo of c k)) _ ?_ _ _ (by rfl) (by rfl) (by rfl) (by rfl) (by rfl) (by rfl) (HG.out.fix hfw5) hkS hcm hlt (by omega) ⟨r1, r2, r7, r4⟩ (by omega) (by omega) (by omega) r3 (by omega) (by omega) (by omega) _ r5 r6 ?_
            · intro c a d v w h
              cases d <;> exact h
            intro n4 a4 c4
            clear r1 r2 r3 r4 r5 r6 r7
            simp only [Act.put, List.setIfInBounds_toArray, List.set_cons_zero, List.set_cons_succ]
            have Hst : Hid _ := hst
            have Hx : Hid _ := hx
            have hM6 := (hM5.drewN (1 + n4)).alloc (.cells #[.int .i64 (nth (stTo S A of c k) (cntTo of c k) + (nbr S A k).length)] 3)
            have hM7 := hM6.push c HcK.out (nth (stTo S A of c k) (cntTo of c k) + (nbr S A k).length) (by show (stTo S A of c k).length < sz + 1; omega)
            have hK7 := (((((HKp.out.set ⟨rb, k, none⟩ (.inl (by show rb < rb + 2; omega)) (.int .i32 (cntTo of c k : Nat))).drewN (1 + n4)).alloc (.cells #[.int .i64 (nth (stTo S A of c k) (cntTo of c k) + (nbr S A k).length)] 3))).set ⟨g' c - 1, (stTo S A of c k).length, none⟩ (.inr ⟨c, HcK.out, .inr rfl⟩) (.int .i64 (nth (stTo S A of c k) (cntTo of c k) + (nbr S A k).length))).set ⟨g' c, 0, none⟩ (.inr ⟨c, HcK.out, .inl rfl⟩) (.slice (some ⟨g' c - 1, 0, none⟩) ((stTo S A of c k).length + 1) (sz + 1))
            have hI7 := CInv1.step Hc.out hlt hM7 hK7 (fun _ _ => rfl) hR
            clear hM5 hM6 hM7 hK7 hst hx
            go_wp2
            go_roundw
            case rel => exact ⟨k + 1, by omega, by go_num, hI7⟩
            case measure => simp [intOf]; omega
        · have hq' : (nth sizes c != size) = true := by simp [hq]
          have Hq : Hid (nth sizes c ≠ size) := hq
          clear hM hK hda hR
          go_wp2
          go_roundw
          case rel => exact ⟨k + 1, by omega, by go_num, hI.skip (by rw [Hc.out]; exact Hq.out) 0⟩
          case measure => simp [intOf]; omega
      · have hkn : k = of.length := by omega
        subst hkn
        obtain ⟨g, ad, R, hM, hK, hda, hR⟩ := hI
        obtain ⟨av, cv, hv, hform⟩ := hK.form
        have hI2 : CInv2 S A of sizes size w3 rb 0 g R u9 wr := ⟨ad, fun _ => 0, hM, hK, AMem.nil _, fun c hc => absurd hc (by simp)⟩
        have HR : Hid _ := hR
        have hkl := keptTo_len of sizes size of.length
        obtain ⟨KL, hKL⟩ : ∃ KL, KL = keptTo of sizes size of.length := ⟨_, rfl⟩
        have HKL : Hid (KL = keptTo of sizes size of.length) := hKL
        rw [← hKL] at hv hform hkl
        clear hKL hR hM hK hda
        subst hv
        go_wp2
        go_loopw [111] (fun i wr => ∃ j : Nat, j ≤ KL.length ∧ i = .int .i64 j ∧ CInv2 S A of sizes size w3 rb j g R (.slice av KL.length cv) wr) (fun i _ => KL.length - (intOf i).toNat)
        case atStart => exact ⟨0, Nat.zero_le _, rfl, hI2⟩
        case round =>
          clear hI2 hform
          obtain ⟨j, hj, rfl, hI2⟩ := hrel
          by_cases hlj : j < KL.length
          · have hcK : nth KL j ∈ keptTo of sizes size of.length := by rw [← HKL.out]; exact nth_mem _ _ hlj
            obtain ⟨hc0, hcm, hszc⟩ := kept_size HP.out hcK
            obtain ⟨sz, hszn⟩ : ∃ sz : Nat, (sz : Int) = size := ⟨_, hszc.symm⟩
            subst hszn
            have hszl : sz ≤ 70000 := by have := cntTo_le of (nth KL j) of.length; omega
            have hstep := hI2.step (by rw [← HKL.out]; exact hlj)
            rw [← HKL.out] at hstep
            obtain ⟨ad, a, hM, hK, hA2, had⟩ := hI2
            rw [Int.toNat_natCast] at hM
            obtain ⟨c, hc⟩ : ∃ c, c = nth KL j := ⟨_, rfl⟩
            rw [← hc] at hcK hstep hc0 hcm hszc
            have hsz2 : sz = cntTo of c of.length := by omega
            have hlen := stTo_len S A of c of.length
            have hlast := stTo_last S A of c of.length
            rw [← hsz2] at hlast hlen
            have htl := adjTo_le hcsr of c of.length (by have := Hen.out; omega)
            have htl2 := hcsr.st_le of.length (by have := Hen.out; omega)
            have htot : totOf S A of c ≤ 70000 := by unfold totOf; omega
            obtain ⟨av', cv', hv', hform⟩ := hK.form
            rw [← HKL.out] at hform
            obtain ⟨kb, hav, hkb1, hkb2, hkb3, hkb4⟩ : ∃ b, av = some ⟨b, 0, none⟩ ∧ rb + 2 ≤ b ∧ b < wr.heap.size ∧ (∀ c, c ∈ keptTo of sizes sz of.length → b ≠ g c ∧ b ≠ g c - 1) ∧ ∀ i, i < KL.length → wr.cell? ⟨b, i, none⟩ = some (.pointer (some ⟨g (nth KL i), 0, none⟩)) := by
              rcases hform with h | ⟨b, h1, h2, h3, h4, h5⟩
              · rw [h] at hlj; exact absurd hlj (Nat.not_lt_zero _)
              · refine ⟨b, ?_, h2, h3, ?_, h5⟩
                · rw [← HKL.out] at hv'
                  injection hv' with e1 e2 e3
                  rw [e1, h1]
                · rw [← HKL.out]; exact h4
            subst hav
            have q0 := hkb4 j hlj
            rw [← hc] at q0
            have q1 := (hM.st c hcK).cell 0
            have q2 := (hM.row c hcK).cell sz (by rw [pad_len _ _ (by omega)]; omega)
            rw [pad_nth _ _ _ (by omega), hlast] at q2
            have q2' : wr.cell? ⟨g c - 1, sz, none⟩ = some (.int .i64 (totOf S A of c : Nat)) := q2
            have hmA := hM.alloc (.cells (madeCells #[.int .i32 0] (totOf S A of c)) 21)
            have q3 := (hmA.st c hcK).cell 1
            have q4 := (hmA.st c hcK).frozen 1
            have hmk4 : ∀ W : World, (Instr.makeSlice 23 (.int .i64 0) (.int .i64 (totOf S A of c : Nat))).run Try.prog W = .ok (.slice (some ⟨W.heap.size, 0, none⟩) 0 (totOf S A of c)) (W.alloc (.cells (madeCells #[.int .i32 0] (totOf S A of c)) 21)) := by
              intro W
              obtain ⟨i0, hi, hz0, hz1, hz2⟩ := info_parts Try.i21
              have := run_make (P := Try.prog) W 23 21 i0 (.int .i32 0) Try.underlying23 hi hz0 .i64 .i64 0 (totOf S A of c) (by omega) (by omega) (by rw [hz2]; omega) (by omega)
              have e : (Value.int .i32 0).cells = #[.int .i32 0] := rfl
              rw [hz1, e] at this
              simpa using this
            have hsl : sz < (stTo S A of c of.length).length := by omega
            have hsl2 : (sz : Int) < (stTo S A of c of.length).length := by omega
            have hsl3 : (stTo S A of c of.length).length ≤ 70001 := by omega
            have Hstep : Hid _ := hstep
            clear hc hM hK hA2 had hmA hstep q2 hlen hlast htl htl2 hszc hform hkb3 hkb4 hsz2 hv' hc0 hcm hcK
            go_wp2
            go_roundw
            case rel => exact ⟨j + 1, by omega, by go_num, Hstep.out⟩
            case measure => simp [intOf]; omega
          · have hjn : j = KL.length := by omega
            subst hjn
            obtain ⟨ad, a, hM, hK, hA2, had⟩ := hI2
            have htk : (keptTo of sizes size of.length).take KL.length = keptTo of sizes size of.length := by rw [HKL.out, List.take_length]
            rw [htk] at hA2 had
            have y0 := (hM.fix.cell (p := ⟨w.heap.size, 0, none⟩) (by show w.heap.size < rb; omega)).trans hb0
            have hI3 : CInv3 S A of sizes size w3 rb g a R (.slice av KL.length cv) (fun c => adjTo S A of c 0) wr := ⟨ad, hM, hK, hA2, had⟩
            clear hM hK hA2 had htk
            go_wp2
            go_loopw [130] (fun i wr => ∃ v : Nat, v ≤ of.length ∧ i = .int .i64 v ∧ CInv3 S A of sizes size w3 rb g a R (.slice av KL.length cv) (fun c => adjTo S A of c v) wr) (fun i _ => of.length - (intOf i).toNat)
            case atStart => exact ⟨0, Nat.zero_le _, rfl, hI3⟩
            case round =>
              clear hI3 y0
              obtain ⟨v, hv, rfl, hI3⟩ := hrel
              by_cases hlv : v < of.length
              · obtain ⟨ad, hM, hK, hA3, had⟩ := id hI3
                have hfw : Fix (fun b => b < w.heap.size) w wr := hf1.trans (hM.fix.mono fun b hb => by omega)
                obtain ⟨b2, o2, hb2, rfl, hc2⟩ := v2.at (by omega)
                have z2 := (hfw.cell (p := ⟨b2, o2 + v, none⟩) hb2).trans (hc2 v hlv)
                have hrng := HP.out.rng v hlv
                obtain ⟨c, hc⟩ : ∃ c : Nat, nth of v = c := ⟨(nth of v).toNat, by omega⟩
                rw [hc] at z2 hrng
                have hcm : c < sizes.length := by omega
                have Hc : Hid (nth of v = c) := hc
                clear hc hc2 v2 v3
                by_cases hcK : (c : Int) ∈ keptTo of sizes size of.length
                · have p1 := (hM.sub.cell c).trans (ptrs_yes _ _ _ _ hcm hcK)
                  have hvS : v + 1 < S.length := by have := Hen.out; omega
                  have hnb := nbrs_any (HG.out.fix hfw) v hvS
                  have hnl := hcsr.nbr_len v hvS
                  have hle := hcsr.st_le (v + 1) hvS
                  have hnl70 : (nbr S A v).length ≤ 70000 := by omega
                  have Hrng : Hid (∀ j, j < (nbr S A v).length → 0 ≤ nth (nbr S A v) j ∧ nth (nbr S A v) j + 1 < S.length) := hcsr.nbr_range v hvS
                  have HcK : Hid ((c : Int) ∈ keptTo of sizes size of.length) := hcK
                  have hb131 : decide ((v : Int) < (of.length : Int)) = true := by simp; omega
                  clear hM hK hA3 had hcK hnl hle
                  go_wp2_with fail
                  refine Calls.mono hnb ?_
                  rintro e w4 ⟨a4, c4, n4, rfl, hv4, rfl⟩
                  replace hI3 := hI3.drewN n4
                  obtain ⟨wo, hwo⟩ : ∃ wo, wo = wr.drewN n4 := ⟨_, rfl⟩
                  replace hfw := hfw.drewN n4
                  replace hv4 := hv4.fix ((Fix.refl _ _).drewN n4)
                  rw [← hwo] at hI3 hfw hv4 ⊢
                  clear hwo hnb p1 z2
                  go_wp2
                  go_loopw [144] (fun i wr => ∃ j : Nat, j ≤ (nbr S A v).length ∧ i = .int .i64 j ∧ CInv3 S A of sizes size w3 rb g a R (.slice av KL.length cv) (upd (fun d => adjTo S A of d v) c (adjIn S A of c v j)) wr) (fun i _ => (nbr S A v).length - (intOf i).toNat)
                  case atStart =>
                    refine ⟨0, Nat.zero_le _, rfl, hI3.congr fun d hd => ?_⟩
                    by_cases e : d = c
                    · subst e; rw [upd_eq, adjIn_zero]
                    · rw [upd_ne _ _ e]
                  case round =>
                    clear hI3
                    obtain ⟨j, hj, rfl, hI3⟩ := hrel
                    by_cases hlj : j < (nbr S A v).length
                    · obtain ⟨ad, hM, hK, hA3, had⟩ := id hI3
                      have hfw2 : Fix (fun b => b < w.heap.size) w wr := hf1.trans (hM.fix.mono fun b hb => by omega)
                      obtain ⟨b4, o4, hb4, rfl, hc4⟩ := hv4.at (by omega)
                      have z4 := ((hfw2.cell (p := ⟨b4, o4 + j, none⟩) hb4).trans (hfw.cell (p := ⟨b4, o4 + j, none⟩) hb4).symm).trans (hc4 j hlj)
                      have hr := Hrng.out j hlj
                      have hlk := HP.out.link v hlv j hlj
                      obtain ⟨u, hu⟩ : ∃ u : Nat, nth (nbr S A v) j = u := ⟨(nth (nbr S A v) j).toNat, by omega⟩
                      have hsucc := adjIn_succ S A of c v j hlj
                      rw [hu] at z4 hr hlk hsucc
                      rw [Int.toNat_natCast] at hlk hsucc
                      have hun : u < of.length := by have := Hen.out; omega
                      have hRu := HR.out u hun (by rw [hlk, Hc.out]; exact ((keptTo_mem _ _ _ _ _).1 HcK.out).1)
                      have hl := adjIn_len S A of c v j Hc.out hlj hlv
                      have t1 := (hM.sub.cell c).trans (ptrs_yes _ _ _ _ hcm HcK.out)
                      have t2 := (hM.st c HcK.out).cell 1
                      have t3 := (hM.st c HcK.out).frozen 1
                      have t4 := hM.rank.cell u (by rw [hM.rl]; exact hun)
                      rw [hRu] at t4
                      have had2 := had c HcK.out
                      rw [upd_eq] at had2
                      have t5 := (hA3.row c HcK.out).cell (adjIn S A of c v j).length (by rw [upd_eq, pad_len _ _ (by omega)]; omega)
                      have t6 := (hA3.row c HcK.out).frozen (adjIn S A of c v j).length
                      have l1 := hA3.lo c HcK.out
                      have l2 := (hA3.off c c HcK.out HcK.out).1
                      have hst := hI3.step c HcK.out (rk of u) (by rw [upd_eq]; exact hl) 1 (.cells #[.int .i32 (rk of u)] 21)
                      rw [upd_eq] at hst
                      have hst2 := hst.congr (D' := upd (fun d => adjTo S A of d v) c (adjIn S A of c v (j + 1))) (fun d hd => by
                        by_cases e : d = c
                        · subst e; rw [upd_eq, upd_eq, hsucc]
                        · rw [upd_ne _ _ e, upd_ne _ _ e, upd_ne _ _ e])
                      have Hst2 : Hid _ := hst2
                      have Hu : Hid (nth (nbr S A v) j = u) := hu
                      have t2' : wr.cell? ⟨g c, 1, none⟩ = some (.slice (some ⟨a c, 0, none⟩) (adjIn S A of c v j).length (totOf S A of c)) := t2.trans (congrArg some had2)
                      clear hst hst2 hsucc hu hc4 hM hK hA3 had had2 t2 hI3
                      go_upto_region 28 with fail
                      refine reg28 (rb + 1) sizes.length (g c) c (a c) (adjIn S A of c v j).length (totOf S A of c) rb of.length u (rk of u) _ ?_ _ _ (by rfl) (by rfl) (by rfl) (by rfl) (by rfl) hcm hun ⟨t1, t2', t4⟩ (by omega) (fun h => l2 h.symm) (by omega) t3 (by omega) _ t5 t6 ?_
                      · intro c a d v w h
                        cases d <;> exact h
                      simp only [Act.put, List.setIfInBounds_toArray, List.set_cons_zero, List.set_cons_succ]
                      clear t1 t2' t3 t4 t5 t6
                      go_wp2
                      go_roundw
                      case rel => exact ⟨j + 1, by omega, by go_num, Hst2.out⟩
                      case measure => simp [intOf]; omega
                    · have hjn : j = (nbr S A v).length := by omega
                      subst hjn
                      have hI5 := hI3.congr (D' := fun c => adjTo S A of c (v + 1)) (fun d hd => by
                        by_cases e : d = c
                        · subst e; rw [upd_eq, adjIn_full _ _ _ _ _ Hc.out]
                        · rw [upd_ne _ _ e, adjTo_no _ _ _ _ _ (by rw [Hc.out]; exact fun h => e h.symm)])
                      clear hI3
                      go_wp2
                      go_roundw
                      case rel => exact ⟨v + 1, by omega, by go_num, hI5⟩
                      case measure => simp [intOf]; omega
                · have p1 := (hM.sub.cell c).trans (ptrs_no _ _ _ _ hcm hcK)
                  have hI4 := hI3.congr (D' := fun c => adjTo S A of c (v + 1)) (fun d hd => by
                    rw [adjTo_no]
                    rw [Hc.out]
                    exact fun e => hcK (e ▸ hd))
                  have HcK : Hid ((c : Int) ∉ keptTo of sizes size of.length) := hcK
                  clear hM hK hA3 had hcK hI3
                  go_wp2
                  go_roundw
                  case rel => exact ⟨v + 1, by omega, by go_num, hI4⟩
                  case measure => simp [intOf]; omega
              · have hvn : v = of.length := by omega
                subst hvn
                rw [HKL.out] at hI3
                have hdone := CInv3.done HP.out hI3 (by have := Hen.out; have := Hn.out; omega) hf1 hrb1
                rw [← HKL.out] at hdone
                clear hI3
                go_wp2
                go_ret
                exact hdone
end Go.Proofs.Qxb6605187a
