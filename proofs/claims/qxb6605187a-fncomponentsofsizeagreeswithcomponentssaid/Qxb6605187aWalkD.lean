import Derived.Test.Qxb6605187aBfsMem
import Derived.Deep.Cut
namespace Go.Proofs.Qxb6605187a
open Go.RowKit
set_option linter.unusedVariables false
theorem View.back {U : Nat → Prop} {w w' : World} {k : IntKind} {a : Option Addr} {xs : List Int} (h : View U w' k a xs) (hf : Fix U w w') : View U w k a xs := by
  rcases h with h | ⟨b, off, hb, ha, hc⟩
  · exact .inl h
  · exact .inr ⟨b, off, hb, ha, fun i hi => (hf.cell (p := ⟨b, off + i, none⟩) hb).symm.trans (hc i hi)⟩
/-- what Components leaves -/
def CompsPost (S A : List Int) (w : World) (e : Ending) (w' : World) : Prop :=
  ∃ of sizes oa za oc zc, e = .returned (.agg #[.slice oa (List.length of) oc, .slice za (List.length sizes) zc]) ∧ CC S A of sizes ∧ sizes.length + 1 ≤ S.length ∧ View (fun b => b < w'.heap.size) w' .i64 oa of ∧ View (fun b => b < w'.heap.size) w' .i64 za sizes ∧ Fix (fun b => b < w.heap.size) w w'

set_option maxHeartbeats 4000000 in
set_option maxRecDepth 100000 in
/-- Components -/
theorem comps_any {w : World} {gb : Nat} {S A : List Int} (hG : Graph (fun b => b < w.heap.size) w gb S A) (hsym : Sym S A) :
    Calls Try.prog 27 #[.pointer (some ⟨gb, 0, none⟩)] w (CompsPost S A w) := by
  have hcsr := hG.csr
  have hl := hcsr.len
  have hS := hG.hS
  have hA := hG.hA
  have hgb : gb < w.heap.size := hG.Ug
  obtain ⟨n, hn⟩ : ∃ n, n + 1 = S.length := ⟨S.length - 1, by omega⟩
  have Hn : Hid (n + 1 = S.length) := hn
  have hn1 : n + 1 ≤ S.length := by omega
  have hn2 : S.length ≤ n + 1 := by omega
  have en : (S.length : Int) - 1 = (n : Int) := by omega
  obtain ⟨B, hB⟩ : ∃ B, w.heap.size = B := ⟨_, rfl⟩
  have HB : Hid (w.heap.size = B) := hB
  have hmk1 := run_make_row' (P := Try.prog) 22 3 (.int .i64 0) 8 Try.underlying22 (by kernel_rfl) rfl .i64 .i64 n (by omega) (by omega)
  have hmk2 := run_make_row' (P := Try.prog) 24 4 (.bool false) 1 Try.underlying24 (by kernel_rfl) rfl .i64 .i64 n (by omega) (by omega)
  have hmk3 : ∀ W : World, (Instr.makeSlice 23 (.int .i64 0) (.int .i64 (n : Int))).run Try.prog W = .ok (.slice (some ⟨W.heap.size, 0, none⟩) 0 n) (W.alloc (.cells (madeCells #[.int .i32 0] n) 21)) := by
    intro W
    obtain ⟨i0, hi, hz0, hz1, hz2⟩ := info_parts Try.i21
    have := run_make (P := Try.prog) W 23 21 i0 (.int .i32 0) Try.underlying23 hi hz0 .i64 .i64 0 n (by omega) (by omega) (by rw [hz2]; omega) (by omega)
    have e : (Value.int .i32 0).cells = #[.int .i32 0] := rfl
    rw [hz1, e] at this
    simpa using this
  obtain ⟨W1, hW1⟩ : ∃ W1 : World, W1 = w.alloc (.cells #[.slice none 0 0, .slice none 0 0] 40) := ⟨_, rfl⟩
  have hf1 : Fix (fun b => b < w.heap.size) w W1 := by rw [hW1]; exact (Fix.refl _ _).alloc (fun k hk => hk) _
  have hP : Calls Try.prog 28 #[.pointer (some ⟨gb, 0, none⟩)] W1 fun e w' => e = .returned (.int .i64 ((S.length : Int) - 1)) ∧ w' = W1 := by
    obtain ⟨sa, sc, aa, ac, g0, g1, _⟩ := (hG.fix hf1).ex
    exact peers_any gb S.length sc sa W1 (by omega) g0
  have HP : Hid _ := hP
  have HG : Hid _ := hG
  have Hsym : Hid (Sym S A) := hsym
  clear hn hP hG hsym hf1
  go_enter Try.func27, Try.ntmps27
  go_wp2_with fail
  rw [← hW1]
  refine Calls.mono HP.out ?_
  rintro e w1 ⟨rfl, rfl⟩
  rw [hW1]
  have hM0 := BMem.base w n (by omega)
  rw [HB.out] at hM0
  have hO0 : OutI S A n 0 _ _ _ _ := OutI.zero Hn.out
  go_wp2
  clear hmk1 hmk2 hmk3 en hW1 HP
  go_loopw [6, 22] (fun qv iv wr => ∃ (k : Nat) (L of : List Int) (seen : List Bool) (Q sizes : List Int) (sv : Value), k ≤ n ∧ iv = .int .i64 k ∧ qv = .slice (some ⟨B + 1 + 1 + 1 + 1, 0, none⟩) Q.length n ∧ BMem w B n of seen Q sizes sv wr ∧ OutI S A n k L of seen sizes) (fun _ iv _ => n - (intOf iv).toNat)
  case atStart => exact ⟨0, _, _, _, [], [], _, Nat.zero_le _, rfl, rfl, hM0, hO0⟩
  case round =>
    clear hM0 hO0 hB
    obtain ⟨k, L, of, seen, Q, sizes, sv, hk, rfl, rfl, hM, hO⟩ := hrel
    by_cases hlt : k < n
    · have z := hM.seenr.cell k (by rw [hO.sl]; exact hlt)
      have fz := hM.seenr.frozen k
      cases hb : nthB seen k with
      | true =>
        rw [hb] at z
        have hO' := hO.skip hlt hb
        clear hO
        go_wp2
        go_roundw
        case rel => exact ⟨k + 1, L, of, seen, Q, sizes, sv, by omega, by go_num, rfl, hM, hO'⟩
        case measure => simp [intOf]; omega
      | false =>
        rw [hb] at z
        have hI0 := hO.start hlt hb
        have hM1 := (hM.setSeen k).clearQ
        have hn0 : ¬ n = 0 := by omega
        have hsk := hO.sk
        clear hO hM hb
        go_upto_region 10 with fail
        generalize wr.setCell ⟨B + 1 + 1 + 1, k, none⟩ (.bool true) = w2 at *
        clear z fz
        obtain ⟨i0, hi, hz0, hz1, hz2⟩ := info_parts Try.i21
        have hown := hM1.q
        go_wp2_with (at_builtin; refine wpList_append_fits _ rfl (.tmp 33) (.tmp 36) 23 rfl (B + 1 + 1 + 1 + 1) 21 i0 1 Try.underlying23 hi hz1 (B + 1 + 1 + 1 + 1) 0 n _ rfl (hown.alloc _) ⟨w2.heap.size, 0, none⟩ 1 1 [.int .i32 k] rfl rfl (cell_one_new _ _ _) ?e1 ?e2 ?_)
        case e1 => first | rfl | exact ints_oneCell .i32 [(k : Int)]
        case e2 => omega
        intro w7 hown7 hgrow7
        have hM7 : BMem w B n of (seen.set k true) [(k : Int)] sizes sv w7 := (hM1.alloc (.cells #[.int .i32 (k : Int)] 21)).pushQ (Q := []) k hown7 hgrow7
        clear hown7 hgrow7 hown hM1 hi hz0 hz1 hz2
        go_wp2
        go_loopw [6, 8] (fun qv iv wr => ∃ (i : Nat) (L of : List Int) (seen : List Bool) (Q : List Int), i ≤ Q.length ∧ iv = .int .i64 i ∧ qv = .slice (some ⟨B + 1 + 1 + 1 + 1, 0, none⟩) Q.length n ∧ BMem w B n of seen Q sizes sv wr ∧ InI S A n k L of seen Q sizes i 0 i) (fun _ iv _ => n - (intOf iv).toNat)
        case atStart => exact ⟨0, _, _, _, [(k : Int)], Nat.zero_le _, rfl, rfl, hM7, hI0⟩
        case round =>
          clear hM7 hI0
          obtain ⟨i, L, of, seen, Q, hi, rfl, rfl, hM, hI⟩ := hrel
          have hql := hI.qlen
          obtain ⟨za, zc, hsv, hsc⟩ := owns_form hM.s
          by_cases hlti : i < Q.length
          · have y := hM.qcell i hlti
            have hq1 := hI.srch.q1 i hlti
            obtain ⟨u, hu⟩ : ∃ u : Nat, nth Q i = u := ⟨(nth Q i).toNat, by omega⟩
            rw [hu] at y hq1
            have hun : u < n := by have := hI.ll; omega
            have y0 := hM.recr.cell 0
            have y1 := hM.recr.cell 1
            have y1' : wr.cell? ⟨B + 1 + 1, 1, none⟩ = some (.slice za sizes.length zc) := by rw [← hsv]; exact y1
            have y0' : wr.cell? ⟨B + 1 + 1, 0, none⟩ = some (.slice (some ⟨B + 1, 0, none⟩) n n) := y0
            have x0 := hM.ofr.cell u (by rw [hI.ofl]; exact hun)
            have x1 := hM.ofr.frozen u
            have hM2 := hM.setOf u (sizes.length : Int)
            have hI2 := hI.setOf hlti hu
            have Hu : Hid (nth Q i = u) := hu
            have hcsr2 : u + 1 < S.length := by have := Hn.out; omega
            clear hM hI hu hq1 y0 y1 hsc hsv
            go_upto_region 16 with fail
            generalize wr.setCell ⟨B + 1, u, none⟩ (.int .i64 (sizes.length : Int)) = w3 at *
            clear y y1' y0' x0 x1
            have hG3 : Graph (fun b => b < B) w3 gb S A := by
              have := HG.out
              rw [HB.out] at this
              exact this.fix hM2.fix
            have HNb : Hid _ := nbrs_any hG3 u hcsr2
            go_wp2_with fail
            refine Calls.mono HNb.out ?_
            rintro e w9 ⟨a9, c9, n9, rfl, hview, rfl⟩
            have hview0 := hview.back hM2.fix
            have hM4 := hM2.drewN n9
            generalize w3.drewN n9 = w4 at *
            clear hview hM2 hG3 HNb
            obtain ⟨d, hd⟩ : ∃ d, d = (nbr S A u).length := ⟨_, rfl⟩
            have Hd : Hid (d = (nbr S A u).length) := hd
            have hd70 : d ≤ 70000 := by
              have h1 := hcsr.nbr_len u hcsr2
              have h2 := hcsr.st_le (u + 1) hcsr2
              omega
            rw [← hd]
            clear hd
            go_wp2
            go_loopw [6, 60] (fun qv jv wr => ∃ (j : Nat) (L : List Int) (seen : List Bool) (Q : List Int), j ≤ d ∧ jv = .int .i64 j ∧ qv = .slice (some ⟨B + 1 + 1 + 1 + 1, 0, none⟩) Q.length n ∧ BMem w B n (of.set u (sizes.length : Int)) seen Q sizes sv wr ∧ InI S A n k L (of.set u (sizes.length : Int)) seen Q sizes i j (i + 1) ∧ Hid (i < Q.length ∧ nth Q i = u)) (fun _ jv _ => d - (intOf jv).toNat)
            case atStart => exact ⟨0, _, _, Q, Nat.zero_le _, rfl, rfl, hM4, hI2, hlti, Hu.out⟩
            case round =>
              clear hM4 hI2 Hu hlti hi hql L seen
              obtain ⟨j, L, seen, Q, hj, rfl, rfl, hM, hI, hQ⟩ := hrel
              have hql := hI.qlen
              by_cases hltj : j < d
              · have hnb : j < (nbr S A u).length := by rw [← Hd.out]; exact hltj
                have hr := hcsr.nbr_range u hcsr2 j hnb
                obtain ⟨b9, o9, hb9, rfl, hc9⟩ := hview0.at (by omega)
                have y := (hM.fix.cell (p := ⟨b9, o9 + j, none⟩) hb9).trans (hc9 j hnb)
                obtain ⟨x, hx⟩ : ∃ x : Nat, nth (nbr S A u) j = x := ⟨(nth (nbr S A u) j).toNat, by omega⟩
                rw [hx] at y hr
                have hxn : x < n := by have := Hn.out; omega
                have z := hM.seenr.cell x (by rw [hI.sl]; exact hxn)
                have fz := hM.seenr.frozen x
                have hQ1 := hQ.out.1
                have hj' : j < (nbr S A (nth Q i).toNat).length := by rw [hQ.out.2, Int.toNat_natCast]; exact hnb
                have hx' : nth (nbr S A (nth Q i).toNat) j = x := by rw [hQ.out.2, Int.toNat_natCast]; exact hx
                clear hc9 hx hnb
                cases hb : nthB seen x with
                | true =>
                  rw [hb] at z
                  have hI' := hI.old hcsr Hsym.out hQ1 hj' hx' hxn hb
                  clear hI hx' hj' hb fz hQ1
                  go_wp2
                  go_roundw
                  case rel => exact ⟨j + 1, L, seen, Q, by omega, by go_num, rfl, hM, hI', hQ.out⟩
                  case measure => simp [intOf]; omega
                | false =>
                  rw [hb] at z
                  have hI' := hI.add hcsr hQ1 hj' hx' hxn hb
                  have hql' := hI'.qlen
                  rw [List.length_append] at hql'
                  have hqn : Q.length + 1 ≤ n := hql'
                  have hQ' : Hid (i < (Q ++ [(x : Int)]).length ∧ nth (Q ++ [(x : Int)]) i = u) := ⟨by simp; omega, by rw [nth_append_left _ _ _ hQ1]; exact hQ.out.2⟩
                  have hM1 := hM.setSeen x
                  clear hI hx' hj' hb hM hql' hQ hQ1
                  go_upto_region 21 with fail
                  generalize wr.setCell ⟨B + 1 + 1 + 1, x, none⟩ (.bool true) = w2 at *
                  clear z fz y
                  obtain ⟨i0, hi, hz0, hz1, hz2⟩ := info_parts Try.i21
                  have hown := hM1.q
                  go_wp2_with (at_builtin; refine wpList_append_fits _ rfl (.tmp 72) (.tmp 74) 23 rfl (B + 1 + 1 + 1 + 1) 21 i0 1 Try.underlying23 hi hz1 (B + 1 + 1 + 1 + 1) Q.length n _ rfl (hown.alloc _) ⟨w2.heap.size, 0, none⟩ 1 1 [.int .i32 x] rfl rfl (cell_one_new _ _ _) ?f1 ?f2 ?_)
                  case f1 => first | rfl | exact ints_oneCell .i32 [(x : Int)]
                  case f2 => omega
                  intro w7 hown7 hgrow7
                  have hM7 := (hM1.alloc (.cells #[.int .i32 (x : Int)] 21)).pushQ x hown7 hgrow7
                  have hql2 : Hid ((Q ++ [(x : Int)]).length = Q.length + 1) := by unfold Hid; simp
                  clear hown7 hgrow7 hown hM1 hi hz0 hz1 hz2
                  go_wp2
                  go_roundw
                  case rel => exact ⟨j + 1, _, _, _, by omega, by go_num, by rw [hql2.out], hM7, hI', hQ'.out⟩
                  case measure => simp [intOf]; omega
              · obtain rfl : j = d := by omega
                have hI3 : InI S A n k L (of.set u (sizes.length : Int)) seen Q sizes (i + 1) 0 (i + 1) := by
                  refine InI.next ?_
                  rw [hQ.out.2, Int.toNat_natCast, ← Hd.out]
                  exact hI
                have hQ1 := hQ.out.1
                clear hI
                go_wp2
                go_roundw
                case rel => exact ⟨i + 1, L, _, seen, Q, by omega, by go_num, rfl, hM, hI3⟩
                case measure => simp [intOf]; omega
          · obtain rfl : i = Q.length := by omega
            have hO' := hI.finish
            have y1 := hM.recr.cell 1
            have y1' : wr.cell? ⟨B + 1 + 1, 1, none⟩ = some (.slice za sizes.length zc) := by rw [← hsv]; exact y1
            have Hsv : Hid (sv = .slice za sizes.length zc) := hsv
            have hown := hM.s
            rw [hsv] at hown
            obtain ⟨i0, hi, hz0, hz1, hz2⟩ := info_parts Try.i3
            have hbig := hM.big
            clear hI y1 hsv hsc hlti
            go_wp2_with (at_builtin; refine wpList_append_lies _ rfl (.tmp 78) (.tmp 81) 22 rfl (B + 5) 3 i0 (.int .i64 0) 1 8 Try.underlying22 hi hz0 hz1 hz2 rfl (by omega) _ _ _ rfl (hown.alloc _) ⟨wr.heap.size, 0, none⟩ 1 1 [.int .i64 (Q.length : Int)] rfl rfl (cell_one_new _ _ _) ?c1 (by omega) ?c2 ?c3 ?c4 (wr.heap.size + 1) (by simp) ?_)
            case c1 => first | rfl | exact ints_oneCell .i64 [(Q.length : Int)]
            case c2 => unfold maxLen; omega
            case c3 => omega
            case c4 => simp; omega
            intro g cap w7 hown7 hgrow7 hat hlt7
            rw [← Hsv.out] at hgrow7
            have hM1 := hM.alloc (.cells #[.int .i64 (Q.length : Int)] 3)
            have hM7 := hM1.pushS (Q.length : Int) g cap hown7 hgrow7
            have hf1 : ∀ k, k < B + 5 → w7.heap[k]? = (wr.alloc (.cells #[.int .i64 (Q.length : Int)] 3)).heap[k]? := by
              intro k hk
              refine hgrow7.block k (by simp; omega) fun e => ?_
              have := (hM1.s.lt k e.symm).1
              omega
            have q1 : w7.cell? ⟨B + 1 + 1, 1, none⟩ = some (.slice za sizes.length zc) := by
              have h1 := hM1.recr.cell 1
              rw [World.cell?_of_block (a := ⟨B + 1 + 1, 1, none⟩) (hf1 (B + 1 + 1) (by omega)), h1, ← Hsv.out]
              rfl
            have q2 : w7.frozen? ⟨B + 1 + 1, 1, none⟩ = false := by
              rw [World.frozen?_of_block (a := ⟨B + 1 + 1, 1, none⟩) (hf1 (B + 1 + 1) (by omega))]
              exact hM1.recr.frozen 1
            clear hown7 hgrow7 hat hlt7 hown hM1 hM hf1 hi hz0 hz1 hz2 y1'
            go_wp2
            go_roundw
            case rel => exact ⟨k + 1, _, _, _, _, _, _, by omega, by go_num, rfl, hM7, hO'⟩
            case measure => simp [intOf]; omega
    · obtain rfl : k = n := by omega
      obtain ⟨za, zc, hsv, hsc⟩ := owns_form hM.s
      have hcc : CC S A of sizes := by
        have hl2 := hO.ll
        exact hO.labs.cc hcsr (fun u hu => hO.done u (by omega)) (by rw [hO.ofl, hl2]) (fun u hu => hO.ofv u (by omega) (hO.done u (by omega))) rfl (fun c hc => by rw [hl2]; exact hO.sz c hc)
      have y0 : wr.cell? ⟨B + 1 + 1, 0, none⟩ = some (.slice (some ⟨B + 1, 0, none⟩) k k) := hM.recr.cell 0
      have y1 : wr.cell? ⟨B + 1 + 1, 1, none⟩ = some (.slice za sizes.length zc) := by rw [← hsv]; exact hM.recr.cell 1
      have x0 := hM.res.cell 0
      have x1 := hM.res.cell 1
      have f0 := hM.res.frozen 0
      have f1 := hM.res.frozen 1
      have Hsv : Hid (sv = .slice za sizes.length zc) := hsv
      have Hof : Hid (of.length = k) := hO.ofl
      have HM : Hid _ := hM
      have Hsc : Hid (sizes = [] ∨ ∃ g, za = some ⟨g, 0, none⟩ ∧ B + 5 ≤ g ∧ ∀ i, i < sizes.length → wr.cell? ⟨g, i, none⟩ = some (.int .i64 (nth sizes i))) := hsc
      have Hcc : Hid (CC S A of sizes) := hcc
      have Hsk : Hid (sizes.length ≤ k) := hO.sk
      clear hM hO hsv hsc hcc
      go_wp2
      have rr0 := HM.out.res.set 0 (.slice (some ⟨B + 1, 0, none⟩) k k)
      have rr1 := rr0.set 1 (.slice za sizes.length zc)
      have t0 : (wr.setCell ⟨B, 0, none⟩ (.slice (some ⟨B + 1, 0, none⟩) k k)).cell? ⟨B, 0, none⟩ = some (.slice (some ⟨B + 1, 0, none⟩) k k) := rr0.cell 0
      have t1 : ((wr.setCell ⟨B, 0, none⟩ (.slice (some ⟨B + 1, 0, none⟩) k k)).setCell ⟨B, 1, none⟩ (.slice za sizes.length zc)).cell? ⟨B, 1, none⟩ = some (.slice za sizes.length zc) := rr1.cell 1
      refine bodyPost_ret (v := .agg #[.slice (some ⟨B + 1, 0, none⟩) k k, .slice za sizes.length zc]) (by simp [results, go_sem, t0, t1]) rfl ?_
      have hfx : Fix (fun b => b < B) w ((wr.setCell ⟨B, 0, none⟩ (.slice (some ⟨B + 1, 0, none⟩) k k)).setCell ⟨B, 1, none⟩ (.slice za sizes.length zc)) := (HM.out.fix.setCell (by simp) _).setCell (by simp) _
      have hrow : IRow ((wr.setCell ⟨B, 0, none⟩ (.slice (some ⟨B + 1, 0, none⟩) k k)).setCell ⟨B, 1, none⟩ (.slice za sizes.length zc)) (B + 1) 3 .i64 of := Row.setOther (Row.setOther HM.out.ofr (by simp) _) (by simp) _
      have hvz : View (fun b => b < ((wr.setCell ⟨B, 0, none⟩ (.slice (some ⟨B + 1, 0, none⟩) k k)).setCell ⟨B, 1, none⟩ (.slice za sizes.length zc)).heap.size) ((wr.setCell ⟨B, 0, none⟩ (.slice (some ⟨B + 1, 0, none⟩) k k)).setCell ⟨B, 1, none⟩ (.slice za sizes.length zc)) .i64 za sizes := by
        rcases Hsc.out with h | ⟨g, rfl, hg, hc⟩
        · exact .inl h
        · by_cases h0 : 0 < sizes.length
          · refine .inr ⟨g, 0, ?_, rfl, fun i hi => ?_⟩
            · have := World.block_lt_of_cell? wr ⟨g, 0, none⟩ (hc 0 h0)
              simpa [World.setCell] using this
            · rw [Nat.zero_add, World.cell?_of_block (a := ⟨g, i, none⟩) (Below.heap_setCell _ ⟨B, 1, none⟩ _ g (show g ≠ B by omega)), World.cell?_of_block (a := ⟨g, i, none⟩) (Below.heap_setCell _ ⟨B, 0, none⟩ _ g (show g ≠ B by omega))]
              exact hc i hi
          · exact .inl (List.length_eq_zero_iff.1 (by omega))
      refine ⟨of, sizes, some ⟨B + 1, 0, none⟩, za, k, zc, by rw [Hof.out], Hcc.out, by have := Hsk.out; have := Hn.out; omega, hrow.view hrow.lt, hvz, ?_⟩
      rw [HB.out]
      exact hfx
end Go.Proofs.Qxb6605187a
