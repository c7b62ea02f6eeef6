import Derived.Test.Qxb6605187aWalkU
import Derived.Test.Qxb6605187aGatherPlain
namespace Go.Proofs.Qxb6605187a
open Go.RowKit
set_option linter.unusedVariables false

/-- what gather is called on -/
structure GIn (U : Nat → Prop) (w : World) (gb swb sb nb : Nat) (sa fa na : Option Addr) (sc fc nc : Nat) (S A seen fr nx : List Int) (all : Int) : Prop where
  G : Graph U w gb S A
  hU : ∀ b, U b → b < w.heap.size
  usw : U swb
  c0 : w.cell? ⟨swb, 0, none⟩ = some (.pointer (some ⟨gb, 0, none⟩))
  c1 : w.cell? ⟨swb, 1, none⟩ = some (.slice sa seen.length sc)
  c2 : w.cell? ⟨swb, 2, none⟩ = some (.slice fa seen.length fc)
  c3 : w.cell? ⟨swb, 3, none⟩ = some (.slice na seen.length nc)
  sl : seen.length + 1 = S.length
  fl : fr.length = seen.length
  nl : nx.length = seen.length
  rs : 0 < seen.length → sa = some ⟨sb, 0, none⟩ ∧ IRow w sb 47 .u64 seen
  rn : 0 < seen.length → na = some ⟨nb, 0, none⟩ ∧ IRow w nb 47 .u64 nx
  vf : View U w .u64 fa fr
  us : ¬ U sb
  un : ¬ U nb
  sn : sb ≠ nb
  ws : ∀ i, W64 (nth seen i)
  fi : ∀ i, Inside (nth fr i) all

/-- the memory behind k peers -/
structure GMem (U : Nat → Prop) (w : World) (sb nb : Nat) (S A seen fr : List Int) (k : Nat) (wr : World) : Prop where
  fix : Fix U w wr
  rows : 0 < seen.length → ∃ sx nx : List Int, sx.length = seen.length ∧ nx.length = seen.length ∧ IRow wr sb 47 .u64 sx ∧ IRow wr nb 47 .u64 nx ∧
    (∀ j, j < k → nth sx j = seenNow S A seen fr j ∧ nth nx j = fresh S A seen fr j) ∧ ∀ j, k ≤ j → nth sx j = nth seen j

theorem GMem.drewN {U : Nat → Prop} {w : World} {sb nb : Nat} {S A seen fr : List Int} {k : Nat} {wr : World} (h : GMem U w sb nb S A seen fr k wr) (m : Nat) : GMem U w sb nb S A seen fr k (wr.drewN m) := by
  refine ⟨h.fix.drewN m, fun h0 => ?_⟩
  obtain ⟨sx, nx, h1, h2, h3, h4, h5⟩ := h.rows h0
  exact ⟨sx, nx, h1, h2, h3, h4, h5⟩

/-- next[k] and then seen[k] are stored -/
theorem GMem.next {U : Nat → Prop} {w : World} {sb nb : Nat} {S A seen fr : List Int} {k : Nat} {wr : World} (h : GMem U w sb nb S A seen fr k wr) (hk : k < seen.length) (us : ¬ U sb) (un : ¬ U nb) (sn : sb ≠ nb) :
    GMem U w sb nb S A seen fr (k + 1) ((wr.setCell ⟨nb, k, none⟩ (.int .u64 (fresh S A seen fr k))).setCell ⟨sb, k, none⟩ (.int .u64 (seenNow S A seen fr k))) := by
  refine ⟨(h.fix.setCell un _).setCell us _, fun h0 => ?_⟩
  obtain ⟨sx, nx, h1, h2, h3, h4, h5, h6⟩ := h.rows h0
  refine ⟨sx.set k (seenNow S A seen fr k), nx.set k (fresh S A seen fr k), by simpa using h1, by simpa using h2, IRow.set (Row.setOther h3 sn _) k _, Row.setOther (IRow.set h4 k _) (fun e => sn e.symm) _, ?_, ?_⟩
  · intro j hj
    rw [nth_set _ _ _ _ (by omega), nth_set _ _ _ _ (by omega)]
    by_cases e : j = k
    · rw [if_pos e, if_pos e, e]; exact ⟨rfl, rfl⟩
    · rw [if_neg e, if_neg e]; exact h5 j (by omega)
  · intro j hj
    rw [nth_set _ _ _ _ (by omega), if_neg (by omega)]
    exact h6 j (by omega)

/-- next[k] alone is stored: seen[k] stays -/
theorem GMem.full {U : Nat → Prop} {w : World} {sb nb : Nat} {S A seen fr : List Int} {k : Nat} {wr : World} (h : GMem U w sb nb S A seen fr k wr) (hk : k < seen.length) (us : ¬ U sb) (un : ¬ U nb) (sn : sb ≠ nb)
    (hf : fresh S A seen fr k = 0) (hw : W64 (nth seen k)) : GMem U w sb nb S A seen fr (k + 1) (wr.setCell ⟨nb, k, none⟩ (.int .u64 0)) := by
  refine ⟨h.fix.setCell un _, fun h0 => ?_⟩
  obtain ⟨sx, nx, h1, h2, h3, h4, h5, h6⟩ := h.rows h0
  refine ⟨sx, nx.set k 0, h1, by simpa using h2, Row.setOther h3 sn _, IRow.set h4 k _, ?_, fun j hj => h6 j (by omega)⟩
  intro j hj
  rw [nth_set _ _ _ _ (by omega)]
  by_cases e : j = k
  · subst e
    rw [if_pos rfl, h6 j (Nat.le_refl _), hf]
    refine ⟨?_, rfl⟩
    unfold seenNow
    rw [hf, or_zero hw]
  · rw [if_neg e]; exact h5 j (by omega)

def listOf (n : Nat) (f : Nat → Int) : List Int := (List.range n).map f
theorem listOf_len (n : Nat) (f : Nat → Int) : (listOf n f).length = n := by simp [listOf]
theorem listOf_nth (n : Nat) (f : Nat → Int) (i : Nat) (h : i < n) : nth (listOf n f) i = f i := by simp [nth, listOf, h]
theorem eq_listOf {xs : List Int} {n : Nat} {f : Nat → Int} (hl : xs.length = n) (h : ∀ i, i < n → nth xs i = f i) : xs = listOf n f :=
  nth_ext (by rw [hl, listOf_len]) fun i hi => by rw [h i (by omega), listOf_nth _ _ _ (by omega)]

/-- what gather leaves -/
def GatherPost (U : Nat → Prop) (w : World) (sb nb : Nat) (S A seen fr : List Int) (all : Int) (e : Ending) (w' : World) : Prop :=
  e = .returned (.tuple #[.int .u64 (reachTo S A seen fr seen.length), .int .i64 (pushTo S A seen fr seen.length), .int .i64 (gathTo S A seen fr all seen.length)]) ∧
  Fix U w w' ∧ (0 < seen.length → IRow w' sb 47 .u64 (listOf seen.length (seenNow S A seen fr)) ∧ IRow w' nb 47 .u64 (listOf seen.length (fresh S A seen fr)))

set_option maxHeartbeats 4000000 in
set_option maxRecDepth 100000 in
/-- gather -/
theorem gather_any {U : Nat → Prop} {w : World} {gb swb sb nb : Nat} {sa fa na : Option Addr} {sc fc nc : Nat} {S A seen fr nx : List Int} {all : Int} (h : GIn U w gb swb sb nb sa fa na sc fc nc S A seen fr nx all) :
    Calls Try.prog 43 #[.pointer (some ⟨swb, 0, none⟩), .int .u64 all] w (GatherPost U w sb nb S A seen fr all) := by
  have c0 := h.c0
  have c1 := h.c1
  have hS := h.G.hS
  have hA := h.G.hA
  have hsl : seen.length ≤ 70000 := by have := h.sl; omega
  have H : Hid _ := h
  clear h
  go_enter Try.func43, Try.ntmps43
  go_wp2
  go_loopw [4, 5, 6, 22] (fun r p g i wr => ∃ k : Nat, k ≤ seen.length ∧ i = .int .i64 k ∧ r = .int .u64 (reachTo S A seen fr k) ∧ p = .int .i64 (pushTo S A seen fr k) ∧ g = .int .i64 (gathTo S A seen fr all k) ∧ GMem U w sb nb S A seen fr k wr)
    (fun _ _ _ i _ => seen.length - (intOf i).toNat)
  case atStart =>
    refine ⟨0, Nat.zero_le _, rfl, rfl, rfl, rfl, Fix.refl _ _, fun h0 => ?_⟩
    exact ⟨seen, nx, rfl, H.out.nl, (H.out.rs h0).2, (H.out.rn h0).2, fun j hj => absurd hj (Nat.not_lt_zero _), fun j _ => rfl⟩
  case round =>
    clear c0 c1
    obtain ⟨k, hk, rfl, rfl, rfl, rfl, hM⟩ := hrel
    by_cases hlt : k < seen.length
    · obtain ⟨rfl, _⟩ := H.out.rs (by omega)
      obtain ⟨hna, _⟩ := H.out.rn (by omega)
      obtain ⟨sx, nx', hsx, hnx, rsx, rnx, hlow, hhigh⟩ := hM.rows (by omega)
      have y := rsx.cell k (by omega)
      rw [hhigh k (Nat.le_refl _)] at y
      have c3 := (hM.fix.cell (p := ⟨swb, 3, none⟩) H.out.usw).trans H.out.c3
      rw [hna] at c3
      have z := rnx.cell k (by omega)
      have fz := rnx.frozen k
      have hkS : k + 1 < S.length := by have := H.out.sl; omega
      have Hhi : Hid _ := hhigh
      have Hlo : Hid _ := hlow
      clear hna hhigh hlow
      by_cases hall : nth seen k = all
      · have hall' : (nth seen k == all) = true := by simp [hall]
        have hf0 := fresh_full (S := S) (A := A) (seen := seen) (fr := fr) (v := k) H.out.fi hall
        have hN := hM.full hlt H.out.us H.out.un H.out.sn hf0 (H.out.ws k)
        have e1 := reachTo_no S A seen fr k hf0
        have e2 : pushTo S A seen fr (k + 1) = pushTo S A seen fr k := by rw [pushTo, if_pos hf0]; rfl
        have e3 : gathTo S A seen fr all (k + 1) = gathTo S A seen fr all k := by
          rw [gathTo, if_pos (by unfold seenNow; rw [hf0, or_zero (H.out.ws k)]; exact hall)]; rfl
        have E1 : Hid _ := e1
        have E2 : Hid _ := e2
        have E3 : Hid _ := e3
        clear e1 e2 e3 hf0 hall rsx rnx hM
        go_wp2
        go_roundw
        case rel => exact ⟨k + 1, by omega, by go_num, by rw [E1.out], by rw [E2.out], by rw [E3.out], hN⟩
        case measure => simp [intOf]; omega
      · have hall' : (nth seen k == all) = false := by simp [hall]
        have G1 := Graph.fix H.out.G hM.fix
        clear c3 z fz
        go_wp2_with fail
        refine (nbrs_any G1 k hkS).mono ?_
        rintro e w4 ⟨a4, c4, n4, rfl, hview, rfl⟩
        have hM4 := hM.drewN n4
        have hv4 : View U (wr.drewN n4) .i32 a4 (nbr S A k) := hview.fix ((Fix.refl _ _).drewN _)
        have rsx4 : IRow (wr.drewN n4) sb 47 .u64 sx := rsx
        have rnx4 : IRow (wr.drewN n4) nb 47 .u64 nx' := rnx
        have y4 : (wr.drewN n4).cell? ⟨sb, k, none⟩ = some (.int .u64 (nth seen k)) := y
        clear hM rsx rnx y hview G1
        generalize wr.drewN n4 = wj at *
        have hM := hM4
        have rsx := rsx4
        have rnx := rnx4
        have y := y4
        clear hM4 rsx4 rnx4 y4
        have hnl : (nbr S A k).length ≤ 70000 := by
          have h1 := H.out.G.csr.nbr_len k hkS
          have h2 := H.out.G.csr.st_le (k + 1) hkS
          omega
        go_wp2
        go_loop [10, 40] (fun b i => ∃ j : Nat, j ≤ (nbr S A k).length ∧ i = .int .i64 j ∧ b = .int .u64 (orTo fr (nbr S A k) j)) (fun _ i => (nbr S A k).length - (intOf i).toNat)
        case atStart => exact ⟨0, Nat.zero_le _, rfl, rfl⟩
        case round =>
          obtain ⟨j, hj, rfl, rfl⟩ := hrel
          by_cases hlj : j < (nbr S A k).length
          · obtain ⟨b6, o6, hb6, rfl, hc6⟩ := hv4.at (by omega)
            have y6 := hc6 j hlj
            have hr6 := H.out.G.csr.nbr_range k hkS j hlj
            obtain ⟨b7, o7, hb7, hfa, hc7⟩ := H.out.vf.at (by have := H.out.fl; omega)
            have c2 := (hM.fix.cell (p := ⟨swb, 2, none⟩) H.out.usw).trans H.out.c2
            rw [hfa] at c2
            have hi7 : nth (nbr S A k) j < seen.length := by have := H.out.sl; omega
            have y7 := (hM.fix.cell (p := ⟨b7, o7 + (nth (nbr S A k) j).toNat, none⟩) hb7).trans (hc7 _ (by have := H.out.fl; omega))
            have hor : bits .or .u64 (orTo fr (nbr S A k) j) (nth fr (nth (nbr S A k) j).toNat) = orTo fr (nbr S A k) (j + 1) := rfl
            clear hc6 hc7 hfa
            by_cases hbr : bits .or .u64 (orTo fr (nbr S A k) (j + 1)) (nth seen k) = all
            · have hbr' : (bits .or .u64 (orTo fr (nbr S A k) (j + 1)) (nth seen k) == all) = true := by simp [hbr]
              have hE : bits .andNot .u64 (orTo fr (nbr S A k) (j + 1)) (nth seen k) = fresh S A seen fr k := fresh_early H.out.fi hlj (.inr hbr)
              have c3 := (hM.fix.cell (p := ⟨swb, 3, none⟩) H.out.usw).trans H.out.c3
              rw [(H.out.rn (by omega)).1] at c3
              have z := rnx.cell k (by omega)
              have fz := rnx.frozen k
              clear hbr
              have hE2 : bits .or .u64 (nth seen k) (fresh S A seen fr k) = seenNow S A seen fr k := rfl
              have c1 := (hM.fix.cell (p := ⟨swb, 1, none⟩) H.out.usw).trans H.out.c1
              have gm1 := Graph.fix H.out.G hM.fix
              have hN := hM.next hlt H.out.us H.out.un H.out.sn
              have hfx1 := hM.fix.setCell (p := ⟨nb, k, none⟩) H.out.un (.int .u64 (fresh S A seen fr k))
              have c1' := (hfx1.cell (p := ⟨swb, 1, none⟩) H.out.usw).trans H.out.c1
              have ysc : (wj.setCell ⟨nb, k, none⟩ (.int .u64 (fresh S A seen fr k))).cell? ⟨sb, k, none⟩ = some (.int .u64 (nth seen k)) := (World.cell?_of_block (a := ⟨sb, k, none⟩) (Below.heap_setCell wj ⟨nb, k, none⟩ _ sb H.out.sn)).trans y
              have ysf : (wj.setCell ⟨nb, k, none⟩ (.int .u64 (fresh S A seen fr k))).frozen? ⟨sb, k, none⟩ = false := (World.frozen?_of_block (a := ⟨sb, k, none⟩) (Below.heap_setCell wj ⟨nb, k, none⟩ _ sb H.out.sn)).trans (rsx.frozen k)
              have gN := Graph.fix H.out.G hN.fix
              have pl := pushTo_le H.out.G.csr seen fr k (by omega)
              have gl := gathTo_le H.out.G.csr seen fr all k (by omega)
              have stl := H.out.G.csr.st_le k (by omega)
              have nll := H.out.G.csr.nbr_len k hkS
              have stl2 := H.out.G.csr.st_le (k + 1) hkS
              have nll2 : (nbr S A k).length ≤ 70000 := by omega
              have plb : pushTo S A seen fr k ≤ 70000 := by omega
              have glb : gathTo S A seen fr all k ≤ 70000 := by omega
              have Hrt : Hid (reachTo S A seen fr (k + 1) = bits .or .u64 (reachTo S A seen fr k) (fresh S A seen fr k)) := rfl
              clear pl gl stl nll stl2 rsx rnx hM hfx1 gm1
              by_cases hf0 : fresh S A seen fr k = 0
              · have hf0' : (fresh S A seen fr k != 0) = false := by simp [hf0]
                have e1 := reachTo_no S A seen fr k hf0
                have e2 : pushTo S A seen fr (k + 1) = pushTo S A seen fr k := by rw [pushTo, if_pos hf0]; rfl
                have E1 : Hid _ := e1
                have E2 : Hid _ := e2
                clear e1 e2 hf0
                by_cases hsn : seenNow S A seen fr k = all
                · have hsn' : (seenNow S A seen fr k != all) = false := by simp [hsn]
                  have e3 : gathTo S A seen fr all (k + 1) = gathTo S A seen fr all k := by rw [gathTo, if_pos hsn]; rfl
                  have E3 : Hid _ := e3
                  clear e3 hsn
                  go_wp2
                  go_roundw
                  case rel => exact ⟨k + 1, by omega, by go_num, by rw [E1.out], by rw [E2.out], by rw [E3.out], hN⟩
                  case measure => simp [intOf]; omega
                · have hsn' : (seenNow S A seen fr k != all) = true := by simp [hsn]
                  have e3 : gathTo S A seen fr all (k + 1) = gathTo S A seen fr all k + (nbr S A k).length := by rw [gathTo, if_neg hsn]
                  have E3 : Hid _ := e3
                  clear e3 hsn
                  go_wp2_with fail
                  refine (nbrs_any gN k hkS).mono ?_
                  rintro e w9 ⟨a9, c9, n9, rfl, _, rfl⟩
                  have hN9 := hN.drewN n9
                  clear hN gN
                  go_wp2
                  go_roundw
                  case rel => exact ⟨k + 1, by omega, by go_num, by rw [E1.out], by rw [E2.out], by rw [E3.out]; go_num, hN9⟩
                  case measure => simp [intOf]; omega
              · have hf0' : (fresh S A seen fr k != 0) = true := by simp [hf0]
                have e2 : pushTo S A seen fr (k + 1) = pushTo S A seen fr k + (nbr S A k).length := by rw [pushTo, if_neg hf0]
                have E2 : Hid _ := e2
                clear e2 hf0
                by_cases hsn : seenNow S A seen fr k = all
                · have hsn' : (seenNow S A seen fr k != all) = false := by simp [hsn]
                  have e3 : gathTo S A seen fr all (k + 1) = gathTo S A seen fr all k := by rw [gathTo, if_pos hsn]; rfl
                  have E3 : Hid _ := e3
                  clear e3 hsn
                  go_wp2_with fail
                  refine (nbrs_any gN k hkS).mono ?_
                  rintro e w9 ⟨a9, c9, n9, rfl, _, rfl⟩
                  have hN9 := hN.drewN n9
                  clear hN gN
                  go_wp2
                  go_roundw
                  case rel => exact ⟨k + 1, by omega, by go_num, rfl, by rw [E2.out]; go_num, by rw [E3.out], hN9⟩
                  case measure => simp [intOf]; omega
                · have hsn' : (seenNow S A seen fr k != all) = true := by simp [hsn]
                  have e3 : gathTo S A seen fr all (k + 1) = gathTo S A seen fr all k + (nbr S A k).length := by rw [gathTo, if_neg hsn]
                  have E3 : Hid _ := e3
                  clear e3 hsn
                  go_wp2_with fail
                  refine (nbrs_any gN k hkS).mono ?_
                  rintro e w9 ⟨a9, c9, n9, rfl, _, rfl⟩
                  have hN9 := hN.drewN n9
                  have gN9 := Graph.fix H.out.G hN9.fix
                  clear hN gN
                  go_wp2_with fail
                  refine (nbrs_any gN9 k hkS).mono ?_
                  rintro e w10 ⟨a10, c10, n10, rfl, _, rfl⟩
                  have hN10 := hN9.drewN n10
                  rw [World.drewN_drewN] at hN10
                  clear hN9 gN9
                  go_wp2
                  go_roundw
                  case rel => exact ⟨k + 1, by omega, by go_num, rfl, by rw [E2.out]; go_num, by rw [E3.out]; go_num, hN10⟩
                  case measure => simp [intOf]; omega
            · have hbr' : (bits .or .u64 (orTo fr (nbr S A k) (j + 1)) (nth seen k) == all) = false := by simp [hbr]
              clear hM rsx rnx hbr y
              go_wp2
              go_round
              case rel => exact ⟨j + 1, by omega, by go_num, rfl⟩
              case measure => simp [intOf]; omega
          · have hE : bits .andNot .u64 (orTo fr (nbr S A k) j) (nth seen k) = fresh S A seen fr k := fresh_early H.out.fi hj (.inl (by omega))
            have c3 := (hM.fix.cell (p := ⟨swb, 3, none⟩) H.out.usw).trans H.out.c3
            rw [(H.out.rn (by omega)).1] at c3
            have z := rnx.cell k (by omega)
            have fz := rnx.frozen k
            have hE2 : bits .or .u64 (nth seen k) (fresh S A seen fr k) = seenNow S A seen fr k := rfl
            have c1 := (hM.fix.cell (p := ⟨swb, 1, none⟩) H.out.usw).trans H.out.c1
            have gm1 := Graph.fix H.out.G hM.fix
            have hN := hM.next hlt H.out.us H.out.un H.out.sn
            have hfx1 := hM.fix.setCell (p := ⟨nb, k, none⟩) H.out.un (.int .u64 (fresh S A seen fr k))
            have c1' := (hfx1.cell (p := ⟨swb, 1, none⟩) H.out.usw).trans H.out.c1
            have ysc : (wj.setCell ⟨nb, k, none⟩ (.int .u64 (fresh S A seen fr k))).cell? ⟨sb, k, none⟩ = some (.int .u64 (nth seen k)) := (World.cell?_of_block (a := ⟨sb, k, none⟩) (Below.heap_setCell wj ⟨nb, k, none⟩ _ sb H.out.sn)).trans y
            have ysf : (wj.setCell ⟨nb, k, none⟩ (.int .u64 (fresh S A seen fr k))).frozen? ⟨sb, k, none⟩ = false := (World.frozen?_of_block (a := ⟨sb, k, none⟩) (Below.heap_setCell wj ⟨nb, k, none⟩ _ sb H.out.sn)).trans (rsx.frozen k)
            have gN := Graph.fix H.out.G hN.fix
            have pl := pushTo_le H.out.G.csr seen fr k (by omega)
            have gl := gathTo_le H.out.G.csr seen fr all k (by omega)
            have stl := H.out.G.csr.st_le k (by omega)
            have nll := H.out.G.csr.nbr_len k hkS
            have stl2 := H.out.G.csr.st_le (k + 1) hkS
            have nll2 : (nbr S A k).length ≤ 70000 := by omega
            have plb : pushTo S A seen fr k ≤ 70000 := by omega
            have glb : gathTo S A seen fr all k ≤ 70000 := by omega
            have Hrt : Hid (reachTo S A seen fr (k + 1) = bits .or .u64 (reachTo S A seen fr k) (fresh S A seen fr k)) := rfl
            clear pl gl stl nll stl2 rsx rnx hM hfx1 gm1
            by_cases hf0 : fresh S A seen fr k = 0
            · have hf0' : (fresh S A seen fr k != 0) = false := by simp [hf0]
              have e1 := reachTo_no S A seen fr k hf0
              have e2 : pushTo S A seen fr (k + 1) = pushTo S A seen fr k := by rw [pushTo, if_pos hf0]; rfl
              have E1 : Hid _ := e1
              have E2 : Hid _ := e2
              clear e1 e2 hf0
              by_cases hsn : seenNow S A seen fr k = all
              · have hsn' : (seenNow S A seen fr k != all) = false := by simp [hsn]
                have e3 : gathTo S A seen fr all (k + 1) = gathTo S A seen fr all k := by rw [gathTo, if_pos hsn]; rfl
                have E3 : Hid _ := e3
                clear e3 hsn
                go_wp2
                go_roundw
                case rel => exact ⟨k + 1, by omega, by go_num, by rw [E1.out], by rw [E2.out], by rw [E3.out], hN⟩
                case measure => simp [intOf]; omega
              · have hsn' : (seenNow S A seen fr k != all) = true := by simp [hsn]
                have e3 : gathTo S A seen fr all (k + 1) = gathTo S A seen fr all k + (nbr S A k).length := by rw [gathTo, if_neg hsn]
                have E3 : Hid _ := e3
                clear e3 hsn
                go_wp2_with fail
                refine (nbrs_any gN k hkS).mono ?_
                rintro e w9 ⟨a9, c9, n9, rfl, _, rfl⟩
                have hN9 := hN.drewN n9
                clear hN gN
                go_wp2
                go_roundw
                case rel => exact ⟨k + 1, by omega, by go_num, by rw [E1.out], by rw [E2.out], by rw [E3.out]; go_num, hN9⟩
                case measure => simp [intOf]; omega
            · have hf0' : (fresh S A seen fr k != 0) = true := by simp [hf0]
              have e2 : pushTo S A seen fr (k + 1) = pushTo S A seen fr k + (nbr S A k).length := by rw [pushTo, if_neg hf0]
              have E2 : Hid _ := e2
              clear e2 hf0
              by_cases hsn : seenNow S A seen fr k = all
              · have hsn' : (seenNow S A seen fr k != all) = false := by simp [hsn]
                have e3 : gathTo S A seen fr all (k + 1) = gathTo S A seen fr all k := by rw [gathTo, if_pos hsn]; rfl
                have E3 : Hid _ := e3
                clear e3 hsn
                go_wp2_with fail
                refine (nbrs_any gN k hkS).mono ?_
                rintro e w9 ⟨a9, c9, n9, rfl, _, rfl⟩
                have hN9 := hN.drewN n9
                clear hN gN
                go_wp2
                go_roundw
                case rel => exact ⟨k + 1, by omega, by go_num, rfl, by rw [E2.out]; go_num, by rw [E3.out], hN9⟩
                case measure => simp [intOf]; omega
              · have hsn' : (seenNow S A seen fr k != all) = true := by simp [hsn]
                have e3 : gathTo S A seen fr all (k + 1) = gathTo S A seen fr all k + (nbr S A k).length := by rw [gathTo, if_neg hsn]
                have E3 : Hid _ := e3
                clear e3 hsn
                go_wp2_with fail
                refine (nbrs_any gN k hkS).mono ?_
                rintro e w9 ⟨a9, c9, n9, rfl, _, rfl⟩
                have hN9 := hN.drewN n9
                have gN9 := Graph.fix H.out.G hN9.fix
                clear hN gN
                go_wp2_with fail
                refine (nbrs_any gN9 k hkS).mono ?_
                rintro e w10 ⟨a10, c10, n10, rfl, _, rfl⟩
                have hN10 := hN9.drewN n10
                rw [World.drewN_drewN] at hN10
                clear hN9 gN9
                go_wp2
                go_roundw
                case rel => exact ⟨k + 1, by omega, by go_num, rfl, by rw [E2.out]; go_num, by rw [E3.out]; go_num, hN10⟩
                case measure => simp [intOf]; omega
    · obtain rfl : k = seen.length := by omega
      go_wp2
      go_ret3
      refine ⟨rfl, hM.fix, fun h0 => ?_⟩
      obtain ⟨sx, nx', hsx, hnx, rsx, rnx, hlow, _⟩ := hM.rows h0
      rw [← eq_listOf hsx (fun i hi => (hlow i hi).1), ← eq_listOf hnx (fun i hi => (hlow i hi).2)]
      exact ⟨rsx, rnx⟩
end Go.Proofs.Qxb6605187a
