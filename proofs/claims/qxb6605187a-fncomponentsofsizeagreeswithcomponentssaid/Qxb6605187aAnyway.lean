import Derived.Deep.RegionHeld3
import Derived.Deep.RegionLaw
import Derived.RegionTactic
namespace Go.Proofs.Qxb6605187a
set_option linter.unusedVariables false

/-! ### A region in whatever order: what the loads read is asked only till the last store, number jx, which waits for all of them -/
section
variable {P : Program} {ops : Array Oper} {Q : Exit → Act → World → Prop} {md : Region.Mode} {T : World → Prop} {jx : Nat}

def wpTill (P : Program) (md : Region.Mode) (ops : Array Oper) (Q : Exit → Act → World → Prop) (T : World → Prop) (jx : Nat) : Nat → Array Bool → Act → World → Prop
  | 0, listed, a, w => Region.ready md ops listed = [] ∧ Q .normal a w
  | fuel + 1, listed, a, w =>
    (Region.ready md ops listed = [] → Q .normal a w) ∧
    ∀ i ∈ Region.ready md ops listed, wpOp P ops Q i (fun a' w' => (i ≠ jx → T w') ∧ wpTill P md ops Q T jx fuel (listed.setIfInBounds i true) a' w') a w

theorem wpTill_any : ∀ (fuel : Nat) (listed : Array Bool) (a : Act) (w : World), wpTill P md ops Q T jx fuel listed a w → wpAny P md ops Q fuel listed a w
  | 0, _, _, _, h => h
  | fuel + 1, _, _, _, h => ⟨h.1, fun i hi => wpOp_mono (fun a' w' h' => wpTill_any fuel _ a' w' h'.2) (h.2 i hi)⟩

theorem ready_waits {i j : Nat} {listed : Array Bool} {oj : Oper} (hr : i ∈ Region.ready md ops listed) (hj : j ∈ Region.ready md ops listed) (hoj : ops[j]? = some oj) : ∀ e ∈ oj.after, Region.binds md e = true → e.on ≠ i := by
  intro e he hb heq
  obtain ⟨_, o, ho, hall⟩ := mem_ready.1 hj
  rw [hoj] at ho
  injection ho with ho
  subst ho
  have h1 := hall e he hb
  have h0 := (mem_ready.1 hr).1
  rw [heq] at h1
  rcases Nat.lt_or_ge i listed.size with h' | h'
  · simp [h'] at h0 h1; rw [h0] at h1; cases h1
  · simp [Array.getElem?_eq_none h'] at h1

theorem wpTill_first {i : Nat} {oi : Oper} {v : Value} (hi : ops[i]? = some oi) (hsel : ∀ (j : Nat) (o : Oper) cs b, ops[j]? = some o → o.op ≠ .select cs b)
    (hQ : ∀ c a w, Q (.panic c) (a.put oi.dst v) w → Q (.panic c) a w) (hix : i ≠ jx) (hbx : ∀ ox, ops[jx]? = some ox → ∃ e ∈ ox.after, Region.binds md e = true ∧ e.on = i) :
    ∀ (fuel : Nat) (listed : Array Bool) (a : Act) (w : World),
      (∀ j oj, ops[j]? = some oj → j ≠ i → listed.getD j true = false → (∀ e ∈ oj.after, Region.binds md e = true → e.on ≠ i) → oi.apart ops oj = true) →
      i ∈ Region.ready md ops listed → YieldsIf P ops T oi v a → T w →
      wpTill P md ops Q T jx fuel (listed.setIfInBounds i true) (a.put oi.dst v) w → wpTill P md ops Q T jx (fuel + 1) listed a w := by
  intro fuel
  induction fuel with
  | zero =>
    intro listed a w _ hr hy hS H
    refine ⟨fun h => (by rw [h] at hr; cases hr), fun j hj => ?_⟩
    by_cases hji : j = i
    · subst hji; exact hy.wpOp hi hS ⟨fun _ => hS, H⟩
    · have := ready_mono hj hji
      rw [H.1] at this
      cases this
  | succ fuel ih =>
    intro listed a w hfree hr hy hS H
    refine ⟨fun h => (by rw [h] at hr; cases hr), fun j hj => ?_⟩
    by_cases hji : j = i
    · subst hji; exact hy.wpOp hi hS ⟨fun _ => hS, H⟩
    · obtain ⟨hjun, oj, hoj, _⟩ := mem_ready.1 hj
      have hnot := ready_waits hr hj hoj
      have hjx : j ≠ jx := by
        intro e
        subst e
        obtain ⟨ed, he, hb, hon⟩ := hbx oj hoj
        exact hnot ed he hb hon
      have h1 := H.2 j (ready_mono hj hji)
      have h2 := wpOp_putIf hoj (hfree j oj hoj hji hjun hnot) (fun cs b => hsel i oi cs b hi) (fun cs b => hsel j oj cs b hoj) hQ hy h1
      refine wpOp_mono (fun a' w' h3 => ⟨fun _ => h3.2.1 hjx, ih (listed.setIfInBounds j true) a' w' ?_ (ready_mono hr (Ne.symm hji)) h3.1 (h3.2.1 hjx) ?_⟩) h2
      · intro k ok hk hki hun hno
        refine hfree k ok hk hki ?_ hno
        by_cases hjk : j = k
        · subst hjk; exact hjun
        · rw [getD_set_ne true hjk] at hun; exact hun
      · rw [Array.setIfInBounds_comm _ _ hji]
        exact h3.2.2

/-- does number jx wait for number i? -/
def waitsFor (md : Region.Mode) (ops : Array Oper) (jx i : Nat) : Bool :=
  match ops[jx]? with
  | some ox => ox.after.any fun e => Region.binds md e && decide (e.on = i)
  | none => true

theorem waitsFor_spec {i : Nat} (h : waitsFor md ops jx i = true) : ∀ ox, ops[jx]? = some ox → ∃ e ∈ ox.after, Region.binds md e = true ∧ e.on = i := by
  intro ox hox
  unfold waitsFor at h
  rw [hox] at h
  simp only [Array.any_eq_true, Bool.and_eq_true, decide_eq_true_eq] at h
  obtain ⟨k, hk, h1, h2⟩ := h
  exact ⟨ox.after[k], Array.getElem_mem hk, h1, h2⟩

/-- number i is taken first -/
theorem wpTill_take {oi : Oper} {fuel : Nat} {listed : Array Bool} {a : Act} {w : World} (i : Nat) (d : Option Tmp) (v : Value) (hi : ops[i]? = some oi) (hd : oi.dst = d)
    (hs : Region.noSelect ops = true) (hf : Region.free md ops listed i = true) (hr : (Region.ready md ops listed).contains i = true) (hix : i ≠ jx) (hbx : waitsFor md ops jx i = true)
    (hQ : ∀ c a w, Q (.panic c) (a.put d v) w → Q (.panic c) a w) (hy : YieldsIf P ops T oi v a) (hS : T w)
    (h : wpTill P md ops Q T jx fuel (listed.setIfInBounds i true) (a.put d v) w) : wpTill P md ops Q T jx (fuel + 1) listed a w := by
  subst hd
  exact wpTill_first hi (Region.noSelect_spec hs) hQ hix (waitsFor_spec hbx) fuel listed a w (Region.free_spec hi hf) (by simpa using hr) hy hS h

/-- number i is the only one that may come up -/
theorem wpTill_one {fuel : Nat} {listed : Array Bool} {a : Act} {w : World} (i : Nat) {o : Oper} (hi : ops[i]? = some o) (hg : o.guard = none) (hr : Region.ready md ops listed = [i])
    (h : Oper.wp P o a w (fun a' w' => (i ≠ jx → T w') ∧ wpTill P md ops Q T jx fuel (listed.setIfInBounds i true) a' w') Q) : wpTill P md ops Q T jx (fuel + 1) listed a w := by
  refine ⟨fun h0 => (by rw [hr] at h0; cases h0), ?_⟩
  rw [hr]
  intro j hj
  rw [List.mem_singleton] at hj
  subst hj
  unfold wpOp
  rw [hi]
  have hw : Region.wanted o (yielded ops a.tmps) = true := by simp [Region.wanted, hg]
  simp only [hw, if_true]
  exact .inl h

/-- the same, for a law on one step -/
theorem wpTill_law {fuel : Nat} {listed : Array Bool} {a : Act} {w : World} (i : Nat) {o : Oper} (hi : ops[i]? = some o) (hr : Region.ready md ops listed = [i])
    (h : if Region.wanted o (yielded ops a.tmps) = true then Oper.wp P o a w (fun a' w' => (i ≠ jx → T w') ∧ wpTill P md ops Q T jx fuel (listed.setIfInBounds i true) a' w') Q else (i ≠ jx → T w) ∧ wpTill P md ops Q T jx fuel (listed.setIfInBounds i true) (a.put o.dst undef) w) : wpTill P md ops Q T jx (fuel + 1) listed a w := by
  refine ⟨fun h0 => (by rw [hr] at h0; cases h0), ?_⟩
  rw [hr]
  intro j hj
  rw [List.mem_singleton] at hj
  subst hj
  unfold wpOp
  rw [hi]
  by_cases hw : Region.wanted o (yielded ops a.tmps) = true
  · simp only [hw, if_true] at h ⊢
    exact .inl h
  · simp only [hw] at h ⊢
    exact h

/-- number i is the only one; it yields a value and leaves the world w' -/
theorem wpTill_value {fuel : Nat} {listed : Array Bool} {a : Act} {w : World} (i : Nat) (d : Option Tmp) (v : Value) (w' : World) {o : Oper} (hi : ops[i]? = some o) (hd : o.dst = d) (hg : o.guard = none) (hr : Region.ready md ops listed = [i])
    (hrun : (execOp a.eval o).run P w = .ok (.value v) w') (hT : i ≠ jx → T w') (h : wpTill P md ops Q T jx fuel (listed.setIfInBounds i true) (a.put d v) w') : wpTill P md ops Q T jx (fuel + 1) listed a w := by
  refine wpTill_one i hi hg hr ?_
  unfold Oper.wp
  rw [hrun]
  subst hd
  exact ⟨hT, h⟩
/-- number i is the only one; it stores -/
theorem wpTill_store {fuel : Nat} {listed : Array Bool} {a : Act} {w : World} (i : Nat) (w' : World) {o : Oper} (hi : ops[i]? = some o) (hd : o.dst = none) (hg : o.guard = none) (hr : Region.ready md ops listed = [i])
    (hrun : (execOp a.eval o).run P w = .ok .skip w') (hT : i ≠ jx → T w') (h : wpTill P md ops Q T jx fuel (listed.setIfInBounds i true) a w') : wpTill P md ops Q T jx (fuel + 1) listed a w := by
  refine wpTill_one i hi hg hr ?_
  unfold Oper.wp
  rw [hrun]
  show (i ≠ jx → T w') ∧ wpTill P md ops Q T jx fuel (listed.setIfInBounds i true) (a.put o.dst undef) w'
  rw [hd]
  exact ⟨hT, h⟩

/-- number i is the only one: an append where there is room, of one element of one cell -/
theorem wpTill_room {fuel : Nat} {listed : Array Bool} {a : Act} {w : World} (i : Nat) (d : Option Tmp) {o : Oper} (hi : ops[i]? = some o) (hd : o.dst = d) (hg : o.guard = none) (hr : Region.ready md ops listed = [i])
    (s x : Operand) (t : TypeId) (hop : o.op = Op.call { callee := Callee.builtin Builtin.append, args := #[s, x], argTypes := #[t, t] })
    (e : TypeId) (ti : TypeInfo) (h1 : P.underlying t = some (.slice e)) (h2 : P.info? e = some ti) (h4 : ti.size = 1)
    (b n cap : Nat) (hs : a.eval s = .slice (some ⟨b, 0, none⟩) n cap) (ad : Addr) (c : Nat) (v : Value) (hx : a.eval x = .slice (some ad) 1 c) (hc : ∀ j u, [v][j]? = some u → w.cell? (ad.add j) = some u) (h1c : v.oneCell' = true)
    (hroom : n + 1 ≤ cap) (hsp : (w.cell? ⟨b, n, none⟩).isSome = true) (hsf : w.frozen? ⟨b, n, none⟩ = false)
    (hT : i ≠ jx → T (w.setCell ⟨b, n, none⟩ v)) (h : wpTill P md ops Q T jx fuel (listed.setIfInBounds i true) (a.put d (.slice (some ⟨b, 0, none⟩) (n + 1) cap)) (w.setCell ⟨b, n, none⟩ v)) : wpTill P md ops Q T jx (fuel + 1) listed a w := by
  refine wpTill_law i hi hr ?_
  refine step_append_room hg s x t hop e ti 1 h1 h2 h4 b 0 n cap hs ad 1 c [v] hx rfl hc (by simpa using h1c) hroom ?_ ?_
  · intro j hj
    have : j = 0 := by simpa using hj
    subst this
    simpa using ⟨hsp, hsf⟩
  · have e1 : w.setCells b (0 + n * 1) [v] = w.setCell ⟨b, n, none⟩ v := by
      rw [Nat.zero_add, Nat.mul_one]; rfl
    rw [e1, hd]
    exact ⟨hT, h⟩

/-- number i is the only one: a call, by its contract -/
theorem wpTill_call {fuel : Nat} {listed : Array Bool} {a : Act} {w : World} (i : Nat) (d : Option Tmp) {o : Oper} (hi : ops[i]? = some o) (hd : o.dst = d) (hg : o.guard = none) (hr : Region.ready md ops listed = [i]) {f : FuncId} {args : Array Value}
    (hrun : (execOp a.eval o).run P w = .ok (.enter f args) w) {R : Ending → World → Prop} (hc : Calls P f args w R)
    (h : ∀ e w', R e w' → ∃ v, e = .returned v ∧ (i ≠ jx → T w') ∧ wpTill P md ops Q T jx fuel (listed.setIfInBounds i true) (a.put d v) w') : wpTill P md ops Q T jx (fuel + 1) listed a w := by
  refine wpTill_one i hi hg hr ?_
  unfold Oper.wp
  rw [hrun]
  subst hd
  refine Calls.mono hc fun e w' he => ?_
  obtain ⟨v, rfl, h1, h2⟩ := h e w' he
  exact ⟨h1, h2⟩

theorem wpTill_done {listed : Array Bool} {a : Act} {w : World} (hr : Region.ready md ops listed = []) (h : Q .normal a w) : ∀ fuel, wpTill P md ops Q T jx fuel listed a w
  | 0 => ⟨hr, h⟩
  | _ + 1 => ⟨fun _ => h, by rw [hr]; simp⟩

theorem wp_region_till {id : Nat} {a : Act} {w : World} (T : World → Prop) (jx : Nat) (hm : P.follows .mixedOrders = true)
    (h : wpTill P .any ops Q T jx ops.size (Array.replicate ops.size false) a w.drew) : (Code.region id ops true).wp P Q a w :=
  wp_region_any hm (wpTill_any _ _ _ _ h)
end
end Go.Proofs.Qxb6605187a
