import Derived.Test.Qxb6603870aDoorAppV
import Derived.Test.Qxb6603870aDoorRep
namespace Go.Proofs.Qxb6603870aDoor
open Go.RowKit
set_option linter.unusedVariables false

/-- a slice without room: nil, or a row of its own, just as long -/
def Full (w : World) (a : Option Addr) (xs : List Int) : Prop := (a = none ∧ xs = []) ∨ ∃ nb, a = some ⟨nb, 0, none⟩ ∧ IRow w nb 5 .u8 xs
theorem Full.cells {w : World} {nb : Nat} {xs : List Int} (h : IRow w nb 5 .u8 xs) : ∀ j v, (xs.map (Value.int .u8))[j]? = some v → w.cell? ((⟨nb, 0, none⟩ : Addr).add j) = some v := by
  intro j v hj
  rw [Lib.add_plain, Nat.zero_add, Row.cell h j]
  exact hj
theorem tab_below {w w' : World} {nm : String} {k : IntKind} {zs : List Int} (h : Lib.TabIs Tryd.prog w nm k zs) (hb : Below w.heap.size w w') : Lib.TabIs Tryd.prog w' nm k zs := by
  unfold Lib.TabIs World.var? at *
  cases hg : Tryd.prog.globalNamed nm with
  | none => simp [hg] at h
  | some g =>
    simp only [hg, Option.bind_some] at h ⊢
    have hlt : g < w.heap.size := by
      rcases Nat.lt_or_ge g w.heap.size with h' | h'
      · exact h'
      · rw [Array.getElem?_eq_none h'] at h; simp at h
    rw [hb.block g hlt]
    exact h
/-- AppendUint at a slice without room -/
theorem appu_start (a : Option Addr) (xs : List Int) (u : Nat) (w : World) (hF : Full w a xs) (hu64 : u < 18446744073709551616) (hx : xs.length ≤ 1048576) (htab : Lib.TabIs Tryd.prog w "internal/strconv.uint64pow10" .u64 Lib.pow10Tab) :
    Calls Tryd.prog 25 #[.slice a xs.length xs.length, .int .u64 u, .int .i64 10] w (ApPost w.heap.size xs.length (xs.map (Value.int .u8)) (dig u) w) := by
  rcases hF with ⟨rfl, rfl⟩ | ⟨nb, rfl, hr⟩
  · exact appu_own w.heap.size 0 u hu64 (.slice none 0 0) [] w (World.ownsRow_nil _ _ _ _) (Nat.le_refl _) (by omega) htab
  · exact appu_full ⟨nb, 0, none⟩ xs.length u hu64 _ w (by simp) (Full.cells hr) hr.lt (by omega) htab
theorem pow_le19 (k : Nat) (h : k ≤ 19) : 1 ≤ 10 ^ k ∧ 10 ^ k ≤ 10000000000000000000 := by
  have h1 : 10 ^ k ≤ 10 ^ 19 := Nat.pow_le_pow_right (by omega) h
  have h2 : 10 ^ 19 = 10000000000000000000 := by decide
  exact ⟨Nat.pow_pos (by omega), by omega⟩
theorem grown_below {w w1 w2 : World} {B : Nat} {r : Option Nat} (h : Below B w w1) (hB : B ≤ w.heap.size) (k : w1.grownBy w2 r) (hr : ∀ i, r = some i → B ≤ i) : Below B w w2 :=
  ⟨k.os.trans h.os, k.tape.trans h.tape, k.output.trans h.output, Nat.le_trans h.size k.size, fun i hi => (k.block i (by have := h.size; omega) (fun e => by have := hr i e.symm; omega)).trans (h.block i hi)⟩

theorem below_al {w w2 : World} {B : Nat} (h : Below B w w2) (hs : B ≤ w2.heap.size) (o : Obj) : Below B w (w2.alloc o) :=
  ⟨h.os, h.tape, h.output, by have := h.size; simp; omega, fun i hi => (Below.heap_alloc w2 o i (by omega)).trans (h.block i hi)⟩
theorem owns_keep {w w' : World} {B : Nat} {v : Value} {n : Nat} {xs : List Value} (h : w.ownsRow B 5 1 v n xs) (hb : Below w.heap.size w w') : w'.ownsRow B 5 1 v n xs := by
  refine ⟨h.1, ?_⟩
  rcases h.2 with h2 | ⟨g, cap, cur, rfl, a1, a2, a3⟩
  · exact .inl h2
  · exact .inr ⟨g, cap, cur, rfl, a1, (hb.block g (h.lt g rfl).2).trans a2, a3⟩
theorem owns_some {w : World} {B : Nat} {v : Value} {n : Nat} {xs : List Value} (h : w.ownsRow B 5 1 v n xs) (h0 : 0 < n) : ∃ g cap, v = .slice (some ⟨g, 0, none⟩) n cap ∧ B ≤ g ∧ ∀ j u, xs[j]? = some u → w.cell? ((⟨g, 0, none⟩ : Addr).add j) = some u := by
  rcases h.2 with ⟨rfl, h2⟩ | ⟨g, cap, cur, rfl, a1, a2, a3⟩
  · omega
  · exact ⟨g, cap, rfl, a1, h.cells rfl⟩

set_option maxHeartbeats 8000000 in
set_option maxRecDepth 100000 in
/-- appendFixed -/
theorem fixed_any (a : Option Addr) (xs : List Int) (v : Int) (p : Nat) (w : World) (hF : Full w a xs) (hx : xs.length ≤ 1048576) (hv : -9223372036854775808 ≤ v ∧ v ≤ 9223372036854775807) (hp : 1 ≤ p ∧ p ≤ 19) (htab : Lib.TabIs Tryd.prog w "internal/strconv.uint64pow10" .u64 Lib.pow10Tab) :
    Calls Tryd.prog 21 #[.slice a xs.length xs.length, .int .i64 v, .int .i64 p] w (ApPost w.heap.size xs.length (xs.map (Value.int .u8)) (fixedOf v p) w) := by
  obtain ⟨i0, hi, hz0, hz1, hz2⟩ := info_parts Tryd.i5
  obtain ⟨U, hU⟩ : ∃ U, U = v.natAbs := ⟨_, rfl⟩
  have hU63 : U ≤ 9223372036854775808 := by omega
  have HU : Hid (U = v.natAbs) := hU
  have HT : Hid _ := htab
  have HF : Hid (Full w a xs) := hF
  clear htab hF
  by_cases hneg : v < 0
  · have hng : decide (v < 0) = true := by simp; omega
    have hw1 : IntKind.u64.wrap v = 18446744073709551616 - (U : Int) := by rw [IntKind.wrap_u64]; omega
    have hw2 : IntKind.u64.wrap (-(18446744073709551616 - (U : Int))) = (U : Int) := by rw [IntKind.wrap_u64]; omega
    clear hU
    go_enter Tryd.func21, Tryd.ntmps21
    go_upto_region 3 with fail
    have hold : Hid (∀ bb, a = some bb → ∀ j u, (xs.map (Value.int .u8))[j]? = some u → (w.alloc (.cells #[.int .u8 45] 5)).cell? (bb.add j) = some u) := by
      intro bb hbb j u hj
      rcases HF.out with ⟨h1, h2⟩ | ⟨nb, h1, hr⟩
      · rw [h1] at hbb; cases hbb
      · rw [h1] at hbb
        injection hbb with hbb
        subst hbb
        exact Full.cells (Row.alloc hr _) j u hj
    have hnone : Hid (a = none → xs.length = 0 ∧ xs.length = 0) := by
      intro h
      rcases HF.out with ⟨h1, h2⟩ | ⟨nb, h1, hr⟩
      · rw [h2]; exact ⟨rfl, rfl⟩
      · rw [h] at h1; cases h1
    have hone : Hid (∀ u ∈ [Value.int .u8 45], u.oneCell' = true) := by intro u hu; simp at hu; subst hu; rfl
    have hmax : Hid (xs.length + 1 ≤ maxLen) := by unfold Hid maxLen; omega
    have hlen : Hid ((xs.map (Value.int .u8)).length = xs.length * 1) := by unfold Hid; simp
    go_wp2_with (at_builtin; refine wpList_append_grows _ rfl (.tmp 14) (.tmp 15) 22 rfl 5 i0 (.int .u8 0) 1 1 Tryd.underlying22 hi hz0 hz1 hz2 rfl (by decide) a xs.length xs.length (xs.map (Value.int .u8)) rfl hnone.out hlen.out hold.out ⟨w.heap.size, 0, none⟩ 1 1 [.int .u8 45] rfl rfl (cell_one_new _ _ _) hone.out (by omega) hmax.out (by omega) ?_; intro v1 w1 hown1 hgr1; refine Hid.out ?_)
    refine Lib.hid ?_
    have hb1 : Below w.heap.size w w1 := ⟨hgr1.os, hgr1.tape, hgr1.output, by have := hgr1.size; simp at this; omega, fun i hi => (hgr1.block i (by simp; omega) (by simp)).trans (Below.heap_alloc _ _ _ hi)⟩
    have hown2 := owns_base (B := w.heap.size) hown1 (by simp)
    clear hown1 hgr1 hold hnone hone hlen
    have HC : Hid _ := appu_own w.heap.size (xs.length + 1) (U / 10 ^ p) (Nat.lt_of_le_of_lt (Nat.div_le_self _ _) (by omega)) v1 (xs.map (Value.int .u8) ++ [.int .u8 45]) w1 hown2 hb1.size (by omega) (tab_below HT.out hb1)
    have HL : Hid (xs.map (Value.int .u8) ++ [Value.int .u8 45] = (xs ++ sgn v).map (Value.int .u8) ∧ xs.length + 1 = (xs ++ sgn v).length) := by unfold Hid sgn; rw [if_pos hneg]; simp
    generalize xs.map (Value.int .u8) ++ [Value.int .u8 45] = XS at *
    have hNN : xs.length + 1 ≤ 1048577 := by omega
    generalize xs.length + 1 = NN at *
    clear hown2 hmax hneg hng hw1
    go_wp2
    clear hw2
    go_loop [8, 20] (fun uv iv => ∃ k : Nat, k ≤ p ∧ iv = .int .i64 k ∧ uv = .int .u64 (10 ^ k : Nat)) (fun _ iv => p - (intOf iv).toNat)
    case atStart => exact ⟨0, Nat.zero_le _, rfl, rfl⟩
    case round =>
      obtain ⟨k, hk, rfl, rfl⟩ := hrel
      by_cases hlt : k < p
      · obtain ⟨t, ht⟩ : ∃ t, t = 10 ^ k := ⟨_, rfl⟩
        have htl := pow_le19 (k + 1) (by omega)
        have Ht : Hid (10 ^ (k + 1) = t * 10) := by unfold Hid; rw [ht, Nat.pow_succ]
        rw [Ht.out] at htl
        rw [← ht]
        have hm : IntKind.u64.wrap ((t : Int) * 10) = ((t * 10 : Nat) : Int) := by rw [IntKind.wrap_u64]; omega
        clear ht
        go_wp2
        go_round
        case rel => exact ⟨k + 1, by omega, by go_num, by rw [Ht.out]; go_num⟩
        case measure => simp [intOf]; omega
      · obtain rfl : k = p := by omega
        obtain ⟨t, ht⟩ : ∃ t, t = 10 ^ k := ⟨_, rfl⟩
        have htl := pow_le19 k (by omega)
        have Ht : Hid (t = 10 ^ k) := ht
        rw [← ht] at htl HC ⊢
        obtain ⟨q, hq⟩ : ∃ q, q = U / t := ⟨_, rfl⟩
        obtain ⟨r, hr⟩ : ∃ r, r = U % t := ⟨_, rfl⟩
        have Hq : Hid (q = U / t) := hq
        have Hr : Hid (r = U % t) := hr
        have hql : q ≤ U := by rw [hq]; exact Nat.div_le_self _ _
        have hrl : r < t := by rw [hr]; exact Nat.mod_lt _ (by omega)
        have hq1 : (U : Int).tdiv (t : Int) = (q : Int) := by rw [Int.tdiv_eq_ediv_of_nonneg (by omega), hq]; rfl
        have hq2 : (U : Int).tmod (t : Int) = (r : Int) := by rw [Int.tmod_eq_emod_of_nonneg (by omega), hr]; rfl
        have hq3 : ((t : Int) == 0) = false := beq_eq_false_iff_ne.2 (by omega)
        have hq4 : IntKind.u64.wrap (q : Int) = (q : Int) := by rw [IntKind.wrap_u64]; omega
        have hq5 : IntKind.u64.wrap (r : Int) = (r : Int) := by rw [IntKind.wrap_u64]; omega
        rw [← hq] at HC
        clear ht hlt hq hr
        go_wp2_with fail
        refine Calls.mono HC.out ?_
        rintro e w2 ⟨b2, rfl, hown2, hbel2⟩
        have hb2 := hb1.trans hbel2
        have hN2 : NN + (dig q).length ≤ 1048600 := by
          have := dig_len_pow q 20 (by omega) (by omega)
          omega
        have HL2 : Hid (XS ++ (dig q).map (Value.int .u8) = (xs ++ sgn v ++ dig q).map (Value.int .u8) ∧ NN + (dig q).length = (xs ++ sgn v ++ dig q).length) := by
          exact ⟨by rw [HL.out.1, ← List.map_append], by rw [HL.out.2, ← List.length_append]⟩
        generalize XS ++ (dig q).map (Value.int .u8) = X2 at *
        generalize NN + (dig q).length = N2 at *
        clear HL HC hbel2 hb1
        have hone : Hid (∀ u ∈ [Value.int .u8 46], u.oneCell' = true) := by intro u hu; simp at hu; subst hu; rfl
        have hmax : Hid (N2 + 1 ≤ maxLen) := by unfold Hid maxLen; omega
        have hs2 := hb2.size
        have hHw : Hid (w.heap.size ≤ (w2.alloc (.cells #[.int .u8 46] 5)).heap.size) := by unfold Hid; simp; omega
        go_wp2_with (at_builtin; refine wpList_append_own _ rfl (.tmp 30) (.tmp 31) 22 rfl w.heap.size 5 i0 (.int .u8 0) 1 1 Tryd.underlying22 hi hz0 hz1 hz2 rfl (by decide) b2 N2 X2 rfl (hown2.alloc _) ⟨w2.heap.size, 0, none⟩ 1 1 [.int .u8 46] rfl rfl (cell_one_new _ _ _) hone.out hmax.out (by omega) hHw.out ?_; intro b3 w3 hown3 hgr3 _; refine Hid.out ?_)
        refine Lib.hid ?_
        have hb3 : Below w.heap.size w w3 := grown_below (below_al hb2 hs2 _) (Nat.le_refl _) hgr3 (fun i hi => (hown2.lt i hi).1)
        clear hown2 hgr3 hb2 hone hmax hHw hs2
        have HC3 : Hid _ := appu_own w3.heap.size 0 r (by omega) (.slice none 0 0) [] w3 (World.ownsRow_nil _ _ _ _) (Nat.le_refl _) (by omega) (tab_below HT.out hb3)
        go_wp2_with fail
        refine Calls.mono HC3.out ?_
        rintro e w4 ⟨fv, rfl, hownf, hbel4⟩
        have hown4 := owns_keep hown3 hbel4
        have hs4 := hbel4.size
        have hb4 : Below w.heap.size w w4 := hb3.trans (hbel4.mono hb3.size)
        obtain ⟨fg, fcap, rfl, hfg, hfcells⟩ := owns_some hownf (by have := dig_pos r; omega)
        have hnf := dig_pos r
        have hnf2 : (dig r).length ≤ k := by
          refine dig_len_pow r k (by omega) ?_
          rw [← Ht.out]; exact hrl
        have hbg : ∀ g, b3.ownBlock = some g → g < w3.heap.size := fun g hg => (hown3.lt g hg).2
        clear hown3 HC3 hbel4 hownf hb3
        rw [Nat.zero_add]
        have Hrep : Hid _ := rep_any w4.heap.size (k - (dig r).length) (w4.alloc (.cells #[.int .u8 48] 5)) (by omega) (Row.cell (vs := [.int .u8 48]) (heap_alloc_new _ _) 0)
        have hsub : ((k : Int) - ((dig r).length : Int)) = ((k - (dig r).length : Nat) : Int) := by omega
        obtain ⟨nz, hnz⟩ : ∃ nz, nz = k - (dig r).length := ⟨_, rfl⟩
        have Hnz : Hid (nz = k - (dig r).length) := hnz
        obtain ⟨nf, hnfe⟩ : ∃ nf, nf = (dig r).length := ⟨_, rfl⟩
        have Hnf : Hid (nf = (dig r).length) := hnfe
        rw [← hnz] at hsub Hrep
        rw [← hnfe] at hsub hnf hnf2 ⊢
        rw [List.nil_append] at hfcells
        have hnzl : nz ≤ 18 := by omega
        clear hnz hnfe
        go_wp2_with fail
        refine Calls.mono Hrep.out ?_
        rintro e w5 ⟨rb, rcap, rfl, hrc, hbel5⟩
        have hown5 := owns_keep (hown4.alloc (.cells #[.int .u8 48] 5)) hbel5
        have hs5 := hbel5.size
        simp only [World.size_alloc] at hs5
        have hb5 : Below w.heap.size w w5 := (below_al hb4 (by have := hb4.size; omega) _).trans (hbel5.mono (by have := hb4.size; simp; omega))
        have hfgl : fg < w4.heap.size := by
          have h0 := hfcells 0 (.int .u8 (nth (dig r) 0)) (by have := Hnf.out; rw [List.getElem?_map]; simp [nth, show 0 < (dig r).length by omega])
          have := World.block_lt_of_cell? w4 _ h0
          rw [Lib.add_plain] at this
          exact this
        have hf5 : ∀ j u, ((dig r).map (Value.int .u8))[j]? = some u → w5.cell? ((⟨fg, 0, none⟩ : Addr).add j) = some u := by
          intro j u hj
          have := hfcells j u hj
          rw [Lib.add_plain] at this ⊢
          rw [hbel5.cell (p := ⟨fg, 0 + j, none⟩) (by show fg < _; simp; omega)]
          rw [World.cell?_of_block (a := ⟨fg, 0 + j, none⟩) (Below.heap_alloc _ _ _ hfgl)]
          exact this
        have hnews : Hid (∀ j u, ((zer nz).map (Value.int .u8))[j]? = some u → w5.cell? ((⟨rb, 0, none⟩ : Addr).add j) = some u) := by
          intro j u hj
          have hjl := (List.getElem?_eq_some_iff.1 hj).1
          rw [List.length_map, zer_len] at hjl
          rw [List.getElem?_map, zer, List.getElem?_replicate, if_pos hjl] at hj
          simp at hj
          rw [Lib.add_plain, Nat.zero_add, ← hj]
          exact hrc j hjl
        have hzl : Hid (((zer nz).map (Value.int .u8)).length = nz * 1) := by unfold Hid; rw [List.length_map, zer_len, Nat.mul_one]
        have hzo : Hid (∀ u ∈ (zer nz).map (Value.int .u8), u.oneCell' = true) := by
          intro u hu
          obtain ⟨x, _, rfl⟩ := List.mem_map.1 hu
          rfl
        have hmax : Hid (N2 + 1 + nz ≤ maxLen) := by unfold Hid maxLen; omega
        have hHw : Hid (w.heap.size ≤ w5.heap.size) := hb5.size
        clear hown4 hb4 hbel5 hrc hfcells Hrep hsub
        go_wp2_with (at_builtin; refine wpList_append_own _ rfl (.tmp 37) (.tmp 43) 22 rfl w.heap.size 5 i0 (.int .u8 0) 1 1 Tryd.underlying22 hi hz0 hz1 hz2 rfl (by decide) b3 (N2 + 1) (X2 ++ [.int .u8 46]) rfl hown5 ⟨rb, 0, none⟩ nz rcap ((zer nz).map (Value.int .u8)) rfl hzl.out hnews.out hzo.out hmax.out (by omega) hHw.out ?_; intro b6 w6 hown6 hgr6 _; refine Hid.out ?_)
        refine Lib.hid ?_
        have hf6 : Hid (∀ j u, ((dig r).map (Value.int .u8))[j]? = some u → w6.cell? ((⟨fg, 0, none⟩ : Addr).add j) = some u) := by
          intro j u hj
          have := hf5 j u hj
          rw [Lib.add_plain] at this ⊢
          rw [World.cell?_of_block (a := ⟨fg, 0 + j, none⟩) (hgr6.block fg (by omega) (fun e => by have := hbg fg e.symm; omega))]
          exact this
        have hb6 : Below w.heap.size w w6 := grown_below hb5 (Nat.le_refl _) hgr6 (fun i hi => (hown5.lt i hi).1)
        have hdl : Hid (((dig r).map (Value.int .u8)).length = nf * 1) := by unfold Hid; rw [List.length_map, Nat.mul_one, Hnf.out]
        have hdo : Hid (∀ u ∈ (dig r).map (Value.int .u8), u.oneCell' = true) := by
          intro u hu
          obtain ⟨x, _, rfl⟩ := List.mem_map.1 hu
          rfl
        have hmax2 : Hid (N2 + 1 + nz + nf ≤ maxLen) := by unfold Hid maxLen; omega
        have hHw2 : Hid (w.heap.size ≤ w6.heap.size) := hb6.size
        clear hgr6 hown5 hf5 hb5 hnews hzl hzo hmax hHw
        go_wp2_with (at_builtin; refine wpList_append_own _ rfl (.tmp 45) (.tmp 46) 22 rfl w.heap.size 5 i0 (.int .u8 0) 1 1 Tryd.underlying22 hi hz0 hz1 hz2 rfl (by decide) b6 (N2 + 1 + nz) (X2 ++ [.int .u8 46] ++ (zer nz).map (Value.int .u8)) rfl hown6 ⟨fg, 0, none⟩ nf fcap ((dig r).map (Value.int .u8)) rfl hdl.out hf6.out hdo.out hmax2.out (by omega) hHw2.out ?_; intro b7 w7 hown7 hgr7 _; refine Hid.out ?_)
        refine Lib.hid ?_
        have hb7 : Below w.heap.size w w7 := grown_below hb6 (Nat.le_refl _) hgr7 (fun i hi => (hown6.lt i hi).1)
        have hfin : w7.ownsRow w.heap.size 5 1 b7 (xs.length + (fixedOf v k).length) (xs.map (Value.int .u8) ++ (fixedOf v k).map (Value.int .u8)) := by
          have hfe := frac_eq U k (by omega)
          rw [← Ht.out, ← Hr.out] at hfe
          have e1 : X2 ++ [Value.int .u8 46] ++ (zer nz).map (Value.int .u8) ++ (dig r).map (Value.int .u8) = xs.map (Value.int .u8) ++ (fixedOf v k).map (Value.int .u8) := by
            rw [HL2.out.1, ← List.map_append]
            unfold fixedOf
            rw [← HU.out, ← Ht.out, ← Hq.out, ← hfe.2, Hnz.out]
            simp [List.map_append, List.append_assoc]
          have e2 : N2 + 1 + nz + nf = xs.length + (fixedOf v k).length := by
            have := congrArg List.length e1
            simp only [List.length_append, List.length_map, zer_len, List.length_cons, List.length_nil] at this
            have h2 := HL2.out.2
            have h1 := congrArg List.length HL2.out.1
            rw [List.length_map] at h1
            have := Hnf.out
            omega
          rw [e1, e2] at hown7
          exact hown7
        clear hown6 hgr7 hown7
        go_wp2
        go_ret
        exact ⟨b7, rfl, hfin, hb7⟩
  · have hng : decide (v < 0) = false := by simp; omega
    have hw3 : IntKind.u64.wrap v = (U : Int) := by rw [IntKind.wrap_u64]; omega
    clear hU
    have hb1 : Below w.heap.size w w := Below.refl _ _
    have HC : Hid _ := appu_start a xs (U / 10 ^ p) w HF.out (Nat.lt_of_le_of_lt (Nat.div_le_self _ _) (by omega)) hx HT.out
    have HL : Hid (xs.map (Value.int .u8) = (xs ++ sgn v).map (Value.int .u8) ∧ xs.length = (xs ++ sgn v).length) := by unfold Hid sgn; rw [if_neg hneg]; simp
    obtain ⟨XS, hXS⟩ : ∃ XS, xs.map (Value.int .u8) = XS := ⟨_, rfl⟩
    obtain ⟨NN, hNN0⟩ : ∃ NN, xs.length = NN := ⟨_, rfl⟩
    have HC : Hid (Calls Tryd.prog 25 #[.slice a NN NN, .int .u64 ((U / 10 ^ p : Nat) : Int), .int .i64 10] w (ApPost w.heap.size NN XS (dig (U / 10 ^ p)) w)) := by rw [← hXS, ← hNN0]; exact HC
    have HL : Hid (XS = (xs ++ sgn v).map (Value.int .u8) ∧ NN = (xs ++ sgn v).length) := by rw [← hXS, ← hNN0]; exact HL
    have hNN : NN ≤ 1048577 := by omega
    rw [hNN0]
    have HNN0 : Hid (xs.length = NN) := hNN0
    have HXS : Hid (xs.map (Value.int .u8) = XS) := hXS
    clear hXS hNN0 hneg
    go_enter Tryd.func21, Tryd.ntmps21
    go_wp2
    clear hw3
    go_loop [8, 20] (fun uv iv => ∃ k : Nat, k ≤ p ∧ iv = .int .i64 k ∧ uv = .int .u64 (10 ^ k : Nat)) (fun _ iv => p - (intOf iv).toNat)
    case atStart => exact ⟨0, Nat.zero_le _, rfl, rfl⟩
    case round =>
      obtain ⟨k, hk, rfl, rfl⟩ := hrel
      by_cases hlt : k < p
      · obtain ⟨t, ht⟩ : ∃ t, t = 10 ^ k := ⟨_, rfl⟩
        have htl := pow_le19 (k + 1) (by omega)
        have Ht : Hid (10 ^ (k + 1) = t * 10) := by unfold Hid; rw [ht, Nat.pow_succ]
        rw [Ht.out] at htl
        rw [← ht]
        have hm : IntKind.u64.wrap ((t : Int) * 10) = ((t * 10 : Nat) : Int) := by rw [IntKind.wrap_u64]; omega
        clear ht
        go_wp2
        go_round
        case rel => exact ⟨k + 1, by omega, by go_num, by rw [Ht.out]; go_num⟩
        case measure => simp [intOf]; omega
      · obtain rfl : k = p := by omega
        obtain ⟨t, ht⟩ : ∃ t, t = 10 ^ k := ⟨_, rfl⟩
        have htl := pow_le19 k (by omega)
        have Ht : Hid (t = 10 ^ k) := ht
        rw [← ht] at htl HC ⊢
        obtain ⟨q, hq⟩ : ∃ q, q = U / t := ⟨_, rfl⟩
        obtain ⟨r, hr⟩ : ∃ r, r = U % t := ⟨_, rfl⟩
        have Hq : Hid (q = U / t) := hq
        have Hr : Hid (r = U % t) := hr
        have hql : q ≤ U := by rw [hq]; exact Nat.div_le_self _ _
        have hrl : r < t := by rw [hr]; exact Nat.mod_lt _ (by omega)
        have hq1 : (U : Int).tdiv (t : Int) = (q : Int) := by rw [Int.tdiv_eq_ediv_of_nonneg (by omega), hq]; rfl
        have hq2 : (U : Int).tmod (t : Int) = (r : Int) := by rw [Int.tmod_eq_emod_of_nonneg (by omega), hr]; rfl
        have hq3 : ((t : Int) == 0) = false := beq_eq_false_iff_ne.2 (by omega)
        have hq4 : IntKind.u64.wrap (q : Int) = (q : Int) := by rw [IntKind.wrap_u64]; omega
        have hq5 : IntKind.u64.wrap (r : Int) = (r : Int) := by rw [IntKind.wrap_u64]; omega
        rw [← hq] at HC
        clear ht hlt hq hr
        go_wp2_with fail
        refine Calls.mono HC.out ?_
        rintro e w2 ⟨b2, rfl, hown2, hbel2⟩
        have hb2 := hb1.trans hbel2
        have hN2 : NN + (dig q).length ≤ 1048600 := by
          have := dig_len_pow q 20 (by omega) (by omega)
          omega
        have HL2 : Hid (XS ++ (dig q).map (Value.int .u8) = (xs ++ sgn v ++ dig q).map (Value.int .u8) ∧ NN + (dig q).length = (xs ++ sgn v ++ dig q).length) := by
          exact ⟨by rw [HL.out.1, ← List.map_append], by rw [HL.out.2, ← List.length_append]⟩
        generalize XS ++ (dig q).map (Value.int .u8) = X2 at *
        generalize NN + (dig q).length = N2 at *
        clear HL HC hbel2 hb1
        have hone : Hid (∀ u ∈ [Value.int .u8 46], u.oneCell' = true) := by intro u hu; simp at hu; subst hu; rfl
        have hmax : Hid (N2 + 1 ≤ maxLen) := by unfold Hid maxLen; omega
        have hs2 := hb2.size
        have hHw : Hid (w.heap.size ≤ (w2.alloc (.cells #[.int .u8 46] 5)).heap.size) := by unfold Hid; simp; omega
        go_wp2_with (at_builtin; refine wpList_append_own _ rfl (.tmp 30) (.tmp 31) 22 rfl w.heap.size 5 i0 (.int .u8 0) 1 1 Tryd.underlying22 hi hz0 hz1 hz2 rfl (by decide) b2 N2 X2 rfl (hown2.alloc _) ⟨w2.heap.size, 0, none⟩ 1 1 [.int .u8 46] rfl rfl (cell_one_new _ _ _) hone.out hmax.out (by omega) hHw.out ?_; intro b3 w3 hown3 hgr3 _; refine Hid.out ?_)
        refine Lib.hid ?_
        have hb3 : Below w.heap.size w w3 := grown_below (below_al hb2 hs2 _) (Nat.le_refl _) hgr3 (fun i hi => (hown2.lt i hi).1)
        clear hown2 hgr3 hb2 hone hmax hHw hs2
        have HC3 : Hid _ := appu_own w3.heap.size 0 r (by omega) (.slice none 0 0) [] w3 (World.ownsRow_nil _ _ _ _) (Nat.le_refl _) (by omega) (tab_below HT.out hb3)
        go_wp2_with fail
        refine Calls.mono HC3.out ?_
        rintro e w4 ⟨fv, rfl, hownf, hbel4⟩
        have hown4 := owns_keep hown3 hbel4
        have hs4 := hbel4.size
        have hb4 : Below w.heap.size w w4 := hb3.trans (hbel4.mono hb3.size)
        obtain ⟨fg, fcap, rfl, hfg, hfcells⟩ := owns_some hownf (by have := dig_pos r; omega)
        have hnf := dig_pos r
        have hnf2 : (dig r).length ≤ k := by
          refine dig_len_pow r k (by omega) ?_
          rw [← Ht.out]; exact hrl
        have hbg : ∀ g, b3.ownBlock = some g → g < w3.heap.size := fun g hg => (hown3.lt g hg).2
        clear hown3 HC3 hbel4 hownf hb3
        rw [Nat.zero_add]
        have Hrep : Hid _ := rep_any w4.heap.size (k - (dig r).length) (w4.alloc (.cells #[.int .u8 48] 5)) (by omega) (Row.cell (vs := [.int .u8 48]) (heap_alloc_new _ _) 0)
        have hsub : ((k : Int) - ((dig r).length : Int)) = ((k - (dig r).length : Nat) : Int) := by omega
        obtain ⟨nz, hnz⟩ : ∃ nz, nz = k - (dig r).length := ⟨_, rfl⟩
        have Hnz : Hid (nz = k - (dig r).length) := hnz
        obtain ⟨nf, hnfe⟩ : ∃ nf, nf = (dig r).length := ⟨_, rfl⟩
        have Hnf : Hid (nf = (dig r).length) := hnfe
        rw [← hnz] at hsub Hrep
        rw [← hnfe] at hsub hnf hnf2 ⊢
        rw [List.nil_append] at hfcells
        have hnzl : nz ≤ 18 := by omega
        clear hnz hnfe
        go_wp2_with fail
        refine Calls.mono Hrep.out ?_
        rintro e w5 ⟨rb, rcap, rfl, hrc, hbel5⟩
        have hown5 := owns_keep (hown4.alloc (.cells #[.int .u8 48] 5)) hbel5
        have hs5 := hbel5.size
        simp only [World.size_alloc] at hs5
        have hb5 : Below w.heap.size w w5 := (below_al hb4 (by have := hb4.size; omega) _).trans (hbel5.mono (by have := hb4.size; simp; omega))
        have hfgl : fg < w4.heap.size := by
          have h0 := hfcells 0 (.int .u8 (nth (dig r) 0)) (by have := Hnf.out; rw [List.getElem?_map]; simp [nth, show 0 < (dig r).length by omega])
          have := World.block_lt_of_cell? w4 _ h0
          rw [Lib.add_plain] at this
          exact this
        have hf5 : ∀ j u, ((dig r).map (Value.int .u8))[j]? = some u → w5.cell? ((⟨fg, 0, none⟩ : Addr).add j) = some u := by
          intro j u hj
          have := hfcells j u hj
          rw [Lib.add_plain] at this ⊢
          rw [hbel5.cell (p := ⟨fg, 0 + j, none⟩) (by show fg < _; simp; omega)]
          rw [World.cell?_of_block (a := ⟨fg, 0 + j, none⟩) (Below.heap_alloc _ _ _ hfgl)]
          exact this
        have hnews : Hid (∀ j u, ((zer nz).map (Value.int .u8))[j]? = some u → w5.cell? ((⟨rb, 0, none⟩ : Addr).add j) = some u) := by
          intro j u hj
          have hjl := (List.getElem?_eq_some_iff.1 hj).1
          rw [List.length_map, zer_len] at hjl
          rw [List.getElem?_map, zer, List.getElem?_replicate, if_pos hjl] at hj
          simp at hj
          rw [Lib.add_plain, Nat.zero_add, ← hj]
          exact hrc j hjl
        have hzl : Hid (((zer nz).map (Value.int .u8)).length = nz * 1) := by unfold Hid; rw [List.length_map, zer_len, Nat.mul_one]
        have hzo : Hid (∀ u ∈ (zer nz).map (Value.int .u8), u.oneCell' = true) := by
          intro u hu
          obtain ⟨x, _, rfl⟩ := List.mem_map.1 hu
          rfl
        have hmax : Hid (N2 + 1 + nz ≤ maxLen) := by unfold Hid maxLen; omega
        have hHw : Hid (w.heap.size ≤ w5.heap.size) := hb5.size
        clear hown4 hb4 hbel5 hrc hfcells Hrep hsub
        go_wp2_with (at_builtin; refine wpList_append_own _ rfl (.tmp 37) (.tmp 43) 22 rfl w.heap.size 5 i0 (.int .u8 0) 1 1 Tryd.underlying22 hi hz0 hz1 hz2 rfl (by decide) b3 (N2 + 1) (X2 ++ [.int .u8 46]) rfl hown5 ⟨rb, 0, none⟩ nz rcap ((zer nz).map (Value.int .u8)) rfl hzl.out hnews.out hzo.out hmax.out (by omega) hHw.out ?_; intro b6 w6 hown6 hgr6 _; refine Hid.out ?_)
        refine Lib.hid ?_
        have hf6 : Hid (∀ j u, ((dig r).map (Value.int .u8))[j]? = some u → w6.cell? ((⟨fg, 0, none⟩ : Addr).add j) = some u) := by
          intro j u hj
          have := hf5 j u hj
          rw [Lib.add_plain] at this ⊢
          rw [World.cell?_of_block (a := ⟨fg, 0 + j, none⟩) (hgr6.block fg (by omega) (fun e => by have := hbg fg e.symm; omega))]
          exact this
        have hb6 : Below w.heap.size w w6 := grown_below hb5 (Nat.le_refl _) hgr6 (fun i hi => (hown5.lt i hi).1)
        have hdl : Hid (((dig r).map (Value.int .u8)).length = nf * 1) := by unfold Hid; rw [List.length_map, Nat.mul_one, Hnf.out]
        have hdo : Hid (∀ u ∈ (dig r).map (Value.int .u8), u.oneCell' = true) := by
          intro u hu
          obtain ⟨x, _, rfl⟩ := List.mem_map.1 hu
          rfl
        have hmax2 : Hid (N2 + 1 + nz + nf ≤ maxLen) := by unfold Hid maxLen; omega
        have hHw2 : Hid (w.heap.size ≤ w6.heap.size) := hb6.size
        clear hgr6 hown5 hf5 hb5 hnews hzl hzo hmax hHw
        go_wp2_with (at_builtin; refine wpList_append_own _ rfl (.tmp 45) (.tmp 46) 22 rfl w.heap.size 5 i0 (.int .u8 0) 1 1 Tryd.underlying22 hi hz0 hz1 hz2 rfl (by decide) b6 (N2 + 1 + nz) (X2 ++ [.int .u8 46] ++ (zer nz).map (Value.int .u8)) rfl hown6 ⟨fg, 0, none⟩ nf fcap ((dig r).map (Value.int .u8)) rfl hdl.out hf6.out hdo.out hmax2.out (by omega) hHw2.out ?_; intro b7 w7 hown7 hgr7 _; refine Hid.out ?_)
        refine Lib.hid ?_
        have hb7 : Below w.heap.size w w7 := grown_below hb6 (Nat.le_refl _) hgr7 (fun i hi => (hown6.lt i hi).1)
        have hfin : w7.ownsRow w.heap.size 5 1 b7 (xs.length + (fixedOf v k).length) (xs.map (Value.int .u8) ++ (fixedOf v k).map (Value.int .u8)) := by
          have hfe := frac_eq U k (by omega)
          rw [← Ht.out, ← Hr.out] at hfe
          have e1 : X2 ++ [Value.int .u8 46] ++ (zer nz).map (Value.int .u8) ++ (dig r).map (Value.int .u8) = xs.map (Value.int .u8) ++ (fixedOf v k).map (Value.int .u8) := by
            rw [HL2.out.1, ← List.map_append]
            unfold fixedOf
            rw [← HU.out, ← Ht.out, ← Hq.out, ← hfe.2, Hnz.out]
            simp [List.map_append, List.append_assoc]
          have e2 : N2 + 1 + nz + nf = xs.length + (fixedOf v k).length := by
            have := congrArg List.length e1
            simp only [List.length_append, List.length_map, zer_len, List.length_cons, List.length_nil] at this
            have h2 := HL2.out.2
            have h1 := congrArg List.length HL2.out.1
            rw [List.length_map] at h1
            have := Hnf.out
            omega
          rw [e1, e2] at hown7
          exact hown7
        clear hown6 hgr7 hown7
        go_wp2
        go_ret
        exact ⟨b7, rfl, by rw [← HNN0.out]; exact hfin, hb7⟩
end Go.Proofs.Qxb6603870aDoor
