import Derived.Test.Qxb6605187aCsr
namespace Go.Proofs.Qxb6605187a
set_option linter.unusedVariables false

/-! ### Union-find, and being connected -/
/-- y stands in x's list -/
def Linked (S A : List Int) (x y : Nat) : Prop := x + 1 < S.length ∧ (y : Int) ∈ nbr S A x
/-- x and y lie in one piece: no set that the links respect parts them -/
def Conn (S A : List Int) (x y : Nat) : Prop := ∀ C : Nat → Prop, (∀ u v, Linked S A u v → (C u ↔ C v)) → (C x ↔ C y)
theorem Conn.refl (S A : List Int) (x : Nat) : Conn S A x x := fun C _ => Iff.rfl
theorem Conn.symm {S A : List Int} {x y : Nat} (h : Conn S A x y) : Conn S A y x := fun C hC => (h C hC).symm
theorem Conn.trans {S A : List Int} {x y z : Nat} (h : Conn S A x y) (k : Conn S A y z) : Conn S A x z := fun C hC => (h C hC).trans (k C hC)
theorem Conn.link {S A : List Int} {x y : Nat} (h : Linked S A x y) : Conn S A x y := fun C hC => hC x y h

/-- every parent is no greater than its child -/
def Forest (p : List Int) : Prop := ∀ x, x < p.length → 0 ≤ nth p x ∧ nth p x ≤ x

def rtF (p : List Int) : Nat → Nat → Nat
  | 0, x => x
  | f + 1, x => if nth p x = x then x else rtF p f (nth p x).toNat
theorem rtF_succ (p : List Int) (f x : Nat) : rtF p (f + 1) x = if nth p x = x then x else rtF p f (nth p x).toNat := rfl
/-- the root of x -/
def rt (p : List Int) (x : Nat) : Nat := rtF p x x

theorem rtF_eq {p : List Int} (hF : Forest p) (f : Nat) : ∀ x, x < p.length → x ≤ f → rtF p (f + 1) x = rtF p f x := by
  induction f with
  | zero =>
    intro x hx h0
    have : x = 0 := by omega
    subst this
    have := hF 0 hx
    have e : nth p 0 = (0 : Nat) := by omega
    simp [rtF, e]
  | succ f ih =>
    intro x hx hf
    by_cases h : nth p x = x
    · simp [rtF, h]
    · have h1 := hF x hx
      rw [rtF_succ p (f + 1) x, if_neg h, rtF_succ p f x, if_neg h]
      exact ih _ (by omega) (by omega)
theorem rtF_fuel {p : List Int} (hF : Forest p) (x f : Nat) (hx : x < p.length) (hf : x ≤ f) : rtF p f x = rt p x := by
  obtain ⟨d, rfl⟩ : ∃ d, f = x + d := ⟨f - x, by omega⟩
  clear hf
  induction d with
  | zero => rfl
  | succ d ih =>
    have : x + (d + 1) = x + d + 1 := by omega
    rw [this, rtF_eq hF _ _ hx (by omega), ih]
theorem rt_root {p : List Int} {x : Nat} (h : nth p x = x) : rt p x = x := by
  unfold rt
  cases x with
  | zero => rfl
  | succ x => rw [rtF, if_pos h]
theorem rt_step {p : List Int} (hF : Forest p) {x : Nat} (hx : x < p.length) (h : nth p x ≠ x) : rt p x = rt p (nth p x).toNat := by
  have h1 := hF x hx
  cases x with
  | zero => exact absurd (by omega) h
  | succ x =>
    unfold rt
    rw [rtF, if_neg h]
    exact rtF_fuel hF _ _ (by omega) (by omega)
/-- the root is a root, no greater than x -/
theorem rt_is {p : List Int} (hF : Forest p) (b : Nat) : ∀ x, x ≤ b → x < p.length → rt p x ≤ x ∧ nth p (rt p x) = rt p x := by
  induction b with
  | zero =>
    intro x hb hx
    have : x = 0 := by omega
    subst this
    have h1 := hF 0 hx
    have e : nth p 0 = (0 : Nat) := by omega
    rw [rt_root e]
    exact ⟨Nat.le_refl _, e⟩
  | succ b ih =>
    intro x hb hx
    by_cases h : nth p x = x
    · rw [rt_root h]; exact ⟨Nat.le_refl _, h⟩
    · have h1 := hF x hx
      rw [rt_step hF hx h]
      have h2 := ih (nth p x).toNat (by omega) (by omega)
      exact ⟨by omega, h2.2⟩
theorem rt_le {p : List Int} (hF : Forest p) {x : Nat} (hx : x < p.length) : rt p x ≤ x := (rt_is hF x x (Nat.le_refl _) hx).1
theorem rt_fix {p : List Int} (hF : Forest p) {x : Nat} (hx : x < p.length) : nth p (rt p x) = rt p x := (rt_is hF x x (Nat.le_refl _) hx).2

/-- root b is hung under root a -/
theorem join_forest {p : List Int} (hF : Forest p) {a b : Nat} (hab : a < b) : Forest (p.set b (a : Int)) := by
  intro x hx
  simp at hx
  by_cases hb : b < p.length
  · rw [nth_set _ _ _ _ hb]
    split
    · omega
    · exact hF x hx
  · rw [List.set_eq_of_length_le (by omega)]
    exact hF x hx
theorem join_rt {p : List Int} (hF : Forest p) {a b : Nat} (hab : a < b) (hb : b < p.length) (ra : nth p a = a) (rb : nth p b = b) (m : Nat) : ∀ x, x ≤ m → x < p.length → rt (p.set b (a : Int)) x = if rt p x = b then a else rt p x := by
  have hF' := join_forest hF hab
  have hra : nth (p.set b (a : Int)) a = a := by rw [nth_set _ _ _ _ hb, if_neg (by omega)]; exact ra
  have hroot : ∀ x, x < p.length → nth p x = x → rt (p.set b (a : Int)) x = if rt p x = b then a else rt p x := by
    intro x hx h
    rw [rt_root h]
    by_cases e : x = b
    · subst e
      rw [if_pos rfl]
      have h2 : nth (p.set x (a : Int)) x = a := by rw [nth_set _ _ _ _ hb, if_pos rfl]
      rw [rt_step hF' (by simpa using hx) (by rw [h2]; omega), h2, Int.toNat_natCast, rt_root hra]
    · rw [if_neg e]
      exact rt_root (by rw [nth_set _ _ _ _ hb, if_neg e]; exact h)
  induction m with
  | zero =>
    intro x hm hx
    have : x = 0 := by omega
    subst this
    have h1 := hF 0 hx
    exact hroot 0 hx (by omega)
  | succ m ih =>
    intro x hm hx
    by_cases h : nth p x = x
    · exact hroot x hx h
    · have h1 := hF x hx
      have hxb : x ≠ b := fun e => by rw [e] at h; exact h rb
      have h2 : nth (p.set b (a : Int)) x = nth p x := by rw [nth_set _ _ _ _ hb, if_neg hxb]
      rw [rt_step hF hx h, rt_step hF' (by simpa using hx) (by rw [h2]; exact h), h2]
      exact ih _ (by omega) (by omega)

/-- the union-find behind all links of the peers below k and the first j of k -/
structure Uf (S A : List Int) (n k j : Nat) (p : List Int) : Prop where
  len : p.length = n
  forest : Forest p
  conn : ∀ x, x < n → Conn S A x (rt p x)
  links : ∀ x y, x < k → y < n → (y : Int) ∈ nbr S A x → rt p x = rt p y
  links2 : ∀ m, m < j → rt p k = rt p (nth (nbr S A k) m).toNat

theorem Uf.zero (S A : List Int) {n : Nat} {p : List Int} (hl : p.length = n) (h : ∀ x, x < n → nth p x = x) : Uf S A n 0 0 p := by
  refine ⟨hl, fun x hx => by rw [h x (by omega)]; omega, fun x hx => ?_, fun x y hx => by omega, fun m hm => by omega⟩
  rw [rt_root (h x hx)]
  exact Conn.refl _ _ _

theorem Uf.same {S A p : List Int} {n k j : Nat} (h : Uf S A n k j p) (hk : k < n) (he : rt p k = rt p (nth (nbr S A k) j).toNat) : Uf S A n k (j + 1) p := by
  refine ⟨h.len, h.forest, h.conn, h.links, fun m hm => ?_⟩
  by_cases e : m = j
  · rw [e]; exact he
  · exact h.links2 m (by omega)

theorem Uf.join {S A p : List Int} {n k j a b : Nat} (h : Uf S A n k j p) (hS : n + 1 = S.length) (hcsr : Csr S A) (hk : k < n) (hj : j < (nbr S A k).length) (hab : a < b)
    (he : (a = rt p k ∧ b = rt p (nth (nbr S A k) j).toNat) ∨ (b = rt p k ∧ a = rt p (nth (nbr S A k) j).toNat)) : Uf S A n k (j + 1) (p.set b (a : Int)) := by
  have hl := h.len
  have hr := hcsr.nbr_range k (by omega) j hj
  have hx : (nth (nbr S A k) j).toNat < p.length := by omega
  have hkl : k < p.length := by omega
  have lk := rt_le h.forest hkl
  have lx := rt_le h.forest hx
  have fk := rt_fix h.forest hkl
  have fx := rt_fix h.forest hx
  have hmem : nth (nbr S A k) j ∈ nbr S A k := by
    have e3 : nth (nbr S A k) j = (nbr S A k)[j] := by simp [nth, hj]
    rw [e3]; exact List.getElem_mem hj
  have hlink : Conn S A k (nth (nbr S A k) j).toNat := Conn.link ⟨by omega, by rw [Int.toNat_of_nonneg hr.1]; exact hmem⟩
  have hab' : Conn S A a b := by
    have c1 := h.conn k hk
    have c2 := h.conn _ (by omega : (nth (nbr S A k) j).toNat < n)
    rcases he with ⟨e1, e2⟩ | ⟨e1, e2⟩
    · rw [e1, e2]; exact (c1.symm.trans hlink).trans c2
    · rw [e1, e2]; exact ((c1.symm.trans hlink).trans c2).symm
  have ra : nth p a = a := by rcases he with ⟨e1, e2⟩ | ⟨e1, e2⟩ <;> rw [e1, e2] at * <;> assumption
  have rb : nth p b = b := by rcases he with ⟨e1, e2⟩ | ⟨e1, e2⟩ <;> rw [e1, e2] at * <;> assumption
  have hbl : b < p.length := by rcases he with ⟨e1, e2⟩ | ⟨e1, e2⟩ <;> omega
  have jr : ∀ x, x < p.length → rt (p.set b (a : Int)) x = if rt p x = b then a else rt p x := fun x hx => join_rt h.forest hab hbl ra rb x x (Nat.le_refl _) hx
  refine ⟨by simpa using hl, join_forest h.forest hab, fun x hx => ?_, fun x y hx hy hm => ?_, fun m hm => ?_⟩
  · rw [jr x (by omega)]
    split
    · rename_i e
      have := h.conn x hx
      rw [e] at this
      exact this.trans hab'.symm
    · exact h.conn x hx
  · rw [jr x (by omega), jr y (by omega), h.links x y hx hy hm]
  · by_cases e : m = j
    · subst e
      rw [jr k hkl, jr _ hx]
      rcases he with ⟨e1, e2⟩ | ⟨e1, e2⟩
      · rw [if_neg (by omega), if_pos e2.symm, e1]
      · rw [if_pos e1.symm, if_neg (by omega), e2]
    · have hrm := hcsr.nbr_range k (by omega) m (by omega)
      rw [jr k hkl, jr _ (by omega), h.links2 m (by omega)]

theorem Uf.up {S A p : List Int} {n k : Nat} (h : Uf S A n k (nbr S A k).length p) : Uf S A n (k + 1) 0 p := by
  refine ⟨h.len, h.forest, h.conn, fun x y hx hy hm => ?_, fun m hm => by omega⟩
  by_cases e : x = k
  · subst e
    obtain ⟨m, hm', e⟩ := List.getElem_of_mem hm
    have h2 := h.links2 m hm'
    have e2 : nth (nbr S A x) m = y := by rw [← e]; simp [nth, hm']
    rw [e2, Int.toNat_natCast] at h2
    exact h2
  · exact h.links x y (by omega) hy hm

/-- the roots of all peers: two share a root just if they lie in one piece -/
structure Roots (S A R : List Int) : Prop where
  len : R.length + 1 = S.length
  rng : ∀ v, v < R.length → 0 ≤ nth R v ∧ nth R v < R.length ∧ nth R (nth R v).toNat = nth R v
  conn : ∀ u v, u < R.length → v < R.length → (nth R u = nth R v ↔ Conn S A u v)
  low : ∀ v, v < R.length → nth R v ≤ v

theorem Uf.roots {S A p R : List Int} {n : Nat} (h : Uf S A n n 0 p) (hS : n + 1 = S.length) (hcsr : Csr S A) (hl : R.length = n) (hR : ∀ v, v < n → nth R v = rt p v) : Roots S A R := by
  have hpl := h.len
  have hidem : ∀ v, v < n → rt p (rt p v) = rt p v := fun v hv => rt_root (rt_fix h.forest (by omega))
  refine ⟨by omega, fun v hv => ?_, fun u v hu hv => ?_, fun v hv => ?_⟩
  · have h1 := rt_le h.forest (x := v) (by omega)
    rw [hR v (by omega), Int.toNat_natCast, hR _ (by omega), hidem v (by omega)]
    exact ⟨by omega, by omega, rfl⟩
  · rw [hR u (by omega), hR v (by omega)]
    constructor
    · intro e
      have e' : rt p u = rt p v := by omega
      have c1 := h.conn u (by omega)
      rw [e'] at c1
      exact c1.trans (h.conn v (by omega)).symm
    · intro hc
      have hC : ∀ x y, Linked S A x y → ((x < n ∧ rt p x = rt p u) ↔ (y < n ∧ rt p y = rt p u)) := by
        intro x y hxy
        have hx : x < n := by have := hxy.1; omega
        have hy : y < n := by
          obtain ⟨m, hm, e⟩ := List.getElem_of_mem hxy.2
          have hr := hcsr.nbr_range x hxy.1 m hm
          have e2 : nth (nbr S A x) m = y := by rw [← e]; simp [nth, hm]
          omega
        rw [h.links x y hx hy hxy.2]
        exact ⟨fun h => ⟨hy, h.2⟩, fun h => ⟨hx, h.2⟩⟩
      have := (hc (fun x => x < n ∧ rt p x = rt p u) hC).1 ⟨by omega, rfl⟩
      rw [this.2]
  · have h1 := rt_le h.forest (x := v) (by omega)
    rw [hR v (by omega)]
    omega

end Go.Proofs.Qxb6605187a
