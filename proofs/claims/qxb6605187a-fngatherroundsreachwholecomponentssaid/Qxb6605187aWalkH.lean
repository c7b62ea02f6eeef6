import Derived.Test.Qxb6605187aWalkG
namespace Go.Proofs.Qxb6605187a
open Go.RowKit
set_option linter.unusedVariables false

/-- what gatherPremise's 'true' says -/
structure GatherPre (S A seen fr : List Int) (m : Nat) (all : Int) : Prop where
  csr : Csr S A
  sym : Sym S A
  sl : seen.length + 1 = S.length
  fl : fr.length + 1 = S.length
  ml : m + 1 = S.length
  si : ∀ v, v < seen.length → bits .andNot .u64 (nth seen v) all = 0
  fi : ∀ v, v < seen.length → bits .andNot .u64 (nth fr v) all = 0

set_option maxHeartbeats 2000000 in
theorem gpre_any (U : Nat → Prop) (a0 a1 a2 a3 a4 : Option Addr) (c0 c1 c2 c3 c4 m : Nat) (S A seen fr : List Int) (all : Int) (w : World) (hS : S.length ≤ 70000) (hA : A.length ≤ 70000) (hs : seen.length ≤ 70000) (hf : fr.length ≤ 70000) (hm : m ≤ 70000) (hw : Wf32 A)
    (v0 : View U w .i64 a0 S) (v1 : View U w .i32 a1 A) (v2 : View U w .u64 a2 seen) (v3 : View U w .u64 a3 fr) :
    Calls Try.prog 30 #[.slice a0 S.length c0, .slice a1 A.length c1, .slice a2 seen.length c2, .slice a3 fr.length c3, .slice a4 m c4, .int .u64 all] w (Ans (GatherPre S A seen fr m all) (fun _ => True) w) := by
  go_enter Try.func30, Try.ntmps30
  go_wp2_with fail
  refine (csr_any U a0 a1 c0 c1 S A _ hS hA v0 v1 hw).mono ?_
  rintro e w1 ⟨b, rfl, hb, hfix⟩
  cases b with
  | false =>
    go_wp2
    go_ret
    exact Ans.no hfix
  | true =>
    have hcsr : Csr S A := hb rfl
    replace v0 := v0.fix (hfix.mono fun _ _ => trivial)
    replace v1 := v1.fix (hfix.mono fun _ _ => trivial)
    replace v2 := v2.fix (hfix.mono fun _ _ => trivial)
    replace v3 := v3.fix (hfix.mono fun _ _ => trivial)
    clear hb
    go_wp2_with fail
    refine (und_any U a0 a1 c0 c1 S A _ hcsr hS hA v0 v1).mono ?_
    rintro e w2 ⟨b, rfl, hb, hfix2⟩
    have hfx : Fix (fun _ => True) w w2 := hfix.trans hfix2
    cases b with
    | false =>
      go_wp2
      go_ret
      exact Ans.no hfx
    | true =>
      have hsym : Sym S A := hb rfl
      replace v2 := v2.fix (hfix2.mono fun _ _ => trivial)
      replace v3 := v3.fix (hfix2.mono fun _ _ => trivial)
      have hl := hcsr.len
      have Hcsr : Hid _ := hcsr
      have Hsym : Hid _ := hsym
      clear hb v0 v1 hcsr hsym hfix hfix2
      by_cases t1 : seen.length + 1 = S.length
      · have t1' : ((seen.length : Int) != (S.length : Int) - 1) = false := by simp; omega
        by_cases t2 : fr.length + 1 = S.length
        · have t2' : ((fr.length : Int) != (S.length : Int) - 1) = false := by simp; omega
          by_cases t3 : m + 1 = S.length
          · have t3' : ((m : Int) != (S.length : Int) - 1) = false := by simp; omega
            have T1 : Hid (seen.length + 1 = S.length) := t1
            have T2 : Hid (fr.length + 1 = S.length) := t2
            have T3 : Hid (m + 1 = S.length) := t3
            clear t1 t2 t3
            go_wp2
            go_loop [14] (fun i => ∃ k : Nat, k + 1 ≤ S.length ∧ i = .int .i64 k ∧ Hid (∀ v, v < k → bits .andNot .u64 (nth seen v) all = 0 ∧ bits .andNot .u64 (nth fr v) all = 0)) (fun i => S.length - (intOf i).toNat)
            case atStart => exact ⟨0, by omega, rfl, fun v hv => absurd hv (Nat.not_lt_zero _)⟩
            case round =>
              obtain ⟨k, hk, rfl, hin⟩ := hrel
              clear t1' t2' t3'
              by_cases hlt : k + 1 < S.length
              · obtain ⟨b2, o2, _, rfl, hc2⟩ := v2.at (by have := T1.out; omega)
                obtain ⟨b3, o3, _, rfl, hc3⟩ := v3.at (by have := T2.out; omega)
                have y2 := hc2 k (by have := T1.out; omega)
                have y3 := hc3 k (by have := T2.out; omega)
                have j2 : k < seen.length := by have := T1.out; omega
                have j3 : k < fr.length := by have := T2.out; omega
                clear hc2 hc3 v2 v3
                by_cases z2 : bits .andNot .u64 (nth seen k) all = 0
                · have z2' : (bits .andNot .u64 (nth seen k) all != 0) = false := by simp [z2]
                  by_cases z3 : bits .andNot .u64 (nth fr k) all = 0
                  · have z3' : (bits .andNot .u64 (nth fr k) all != 0) = false := by simp [z3]
                    have Z2 : Hid _ := z2
                    have Z3 : Hid _ := z3
                    clear z2 z3
                    go_wp2
                    go_round
                    case rel =>
                      refine ⟨k + 1, by omega, by go_num, fun v hv => ?_⟩
                      by_cases e : v = k
                      · rw [e]; exact ⟨Z2.out, Z3.out⟩
                      · exact hin.out v (by omega)
                    case measure => simp [intOf]; omega
                  · have z3' : (bits .andNot .u64 (nth fr k) all != 0) = true := by simp [z3]
                    clear z2 z3
                    go_wp2
                    go_ret
                    exact Ans.no hfx
                · have z2' : (bits .andNot .u64 (nth seen k) all != 0) = true := by simp [z2]
                  clear z2
                  go_wp2
                  go_ret
                  exact Ans.no hfx
              · go_wp2
                go_ret
                exact Ans.yes ⟨Hcsr.out, Hsym.out, T1.out, T2.out, T3.out, fun v hv => (hin.out v (by have := T1.out; omega)).1, fun v hv => (hin.out v (by have := T1.out; omega)).2⟩ hfx
          · have t3' : ((m : Int) != (S.length : Int) - 1) = true := by simp; omega
            go_wp2
            go_ret
            exact Ans.no hfx
        · have t2' : ((fr.length : Int) != (S.length : Int) - 1) = true := by simp; omega
          go_wp2
          go_ret
          exact Ans.no hfx
      · have t1' : ((seen.length : Int) != (S.length : Int) - 1) = true := by simp; omega
        go_wp2
        go_ret
        exact Ans.no hfx

/-- ZZGather: what it is called on -/
structure ZIn (U : Nat → Prop) (w : World) (gb sb nb : Nat) (sa fa na : Option Addr) (S A seen fr nx : List Int) (all : Int) : Prop where
  G : Graph U w gb S A
  hU : ∀ b, U b → b < w.heap.size
  sl : seen.length + 1 = S.length
  fl : fr.length = seen.length
  nl : nx.length = seen.length
  rs : 0 < seen.length → sa = some ⟨sb, 0, none⟩ ∧ IRow w sb 47 .u64 seen
  rn : 0 < seen.length → na = some ⟨nb, 0, none⟩ ∧ IRow w nb 47 .u64 nx
  vf : View U w .u64 fa fr
  us : ¬ U sb
  un : ¬ U nb
  sn : sb ≠ nb
  hs : sb ≠ w.heap.size
  hn : nb ≠ w.heap.size
  ws : ∀ i, W64 (nth seen i)
  fi : ∀ i, Inside (nth fr i) all

def ZPost (U : Nat → Prop) (w : World) (sb nb : Nat) (S A seen fr : List Int) (all : Int) (e : Ending) (w' : World) : Prop :=
  e = .returned (.tuple #[.int .u64 (reachTo S A seen fr seen.length), .int .i64 (pushTo S A seen fr seen.length), .int .i64 (gathTo S A seen fr all seen.length)]) ∧
  Fix U w w' ∧ w.heap.size < w'.heap.size ∧ (0 < seen.length → IRow w' sb 47 .u64 (listOf seen.length (seenNow S A seen fr)) ∧ IRow w' nb 47 .u64 (listOf seen.length (fresh S A seen fr)))

set_option maxHeartbeats 1000000 in
theorem zzgather_any {U : Nat → Prop} {w : World} {gb sb nb : Nat} {sa fa na : Option Addr} {sc fc nc : Nat} {S A seen fr nx : List Int} {all : Int} (h : ZIn U w gb sb nb sa fa na S A seen fr nx all) :
    Calls Try.prog 32 #[.pointer (some ⟨gb, 0, none⟩), .slice sa seen.length sc, .slice fa seen.length fc, .slice na seen.length nc, .int .u64 all] w (ZPost U w sb nb S A seen fr all) := by
  have hrow : Row (w.alloc (.cells #[.pointer (some ⟨gb, 0, none⟩), .slice sa seen.length sc, .slice fa seen.length fc, .slice na seen.length nc] 66)) w.heap.size 66 [.pointer (some ⟨gb, 0, none⟩), .slice sa seen.length sc, .slice fa seen.length fc, .slice na seen.length nc] := heap_alloc_new _ _
  have hfx : Fix U w (w.alloc (.cells #[.pointer (some ⟨gb, 0, none⟩), .slice sa seen.length sc, .slice fa seen.length fc, .slice na seen.length nc] 66)) := (Fix.refl _ _).alloc h.hU _
  have hGI : GIn (fun b => U b ∨ b = w.heap.size) (w.alloc (.cells #[.pointer (some ⟨gb, 0, none⟩), .slice sa seen.length sc, .slice fa seen.length fc, .slice na seen.length nc] 66)) gb w.heap.size sb nb sa fa na sc fc nc S A seen fr nx all := by
    refine ⟨?_, ?_, .inr rfl, hrow.cell 0, hrow.cell 1, hrow.cell 2, hrow.cell 3, h.sl, h.fl, h.nl, fun h0 => ⟨(h.rs h0).1, Row.alloc (h.rs h0).2 _⟩, fun h0 => ⟨(h.rn h0).1, Row.alloc (h.rn h0).2 _⟩, (h.vf.fix hfx).weaken fun b hb => .inl hb, fun hu => ?_, fun hu => ?_, h.sn, h.ws, h.fi⟩
    · obtain ⟨q1, q2, q3, q4, q6, qsa, qsc, qaa, qac, e0, e1, e2, e3, w0, w1⟩ := h.G.fix hfx
      exact ⟨q1, q2, q3, .inl q4, q6, qsa, qsc, qaa, qac, e0, e1, e2, e3, w0.weaken fun b hb => .inl hb, w1.weaken fun b hb => .inl hb⟩
    · intro b hb
      rcases hb with hb | hb
      · have := h.hU b hb; simp; omega
      · rw [hb]; simp
    · rcases hu with hu | hu
      · exact h.us hu
      · exact h.hs hu
    · rcases hu with hu | hu
      · exact h.un hu
      · exact h.hn hu
  have hc := gather_any hGI
  have Hc : Hid _ := hc
  have Hfx : Hid _ := hfx
  clear hGI hc hfx hrow h
  go_enter Try.func32, Try.ntmps32
  go_wp2_with fail
  refine Calls.mono Hc.out ?_
  rintro e w2 ⟨rfl, hf, hrows⟩
  go_wp2
  go_ret3
  refine ⟨rfl, Hfx.out.trans (hf.mono fun b hb => .inl hb), ?_, hrows⟩
  have := hf.size
  simp at this
  omega
end Go.Proofs.Qxb6605187a
