/-
  Seat b6605533a. Plain: the table of edits (insert, delete, replace, exchange two neighbours), and its laws.
-/
namespace Go.Proofs.Qxb6605533a

/-- what the innermost statement computes out of the cells above, to the left, aslant, and two aslant -/
def cellOf (up lf dg : Nat) (eq : Bool) (tr : Bool) (dd : Nat) : Nat :=
  let v := min (min (up + 1) (lf + 1)) (dg + if eq then 0 else 1)
  if tr then min v (dd + 1) else v

/-- does the exchange of two neighbours apply at (i+1, j+1)? -/
def trans (s t : Nat → Int) (i j : Nat) : Bool := decide (0 < i) && decide (0 < j) && (s i == t (j - 1)) && (s (i - 1) == t j)

/-- row i+1 out of the two rows above it -/
def rowOf (s t : Nat → Int) (i : Nat) (p2 p1 : Nat → Nat) : Nat → Nat
  | 0 => i + 1
  | j + 1 => cellOf (p1 (j + 1)) (rowOf s t i p2 p1 j) (p1 j) (s i == t j) (trans s t i j) (p2 (j - 1))

/-- the rows i-1 and i -/
def rows (s t : Nat → Int) : Nat → (Nat → Nat) × (Nat → Nat)
  | 0 => (fun _ => 0, fun j => j)
  | i + 1 => ((rows s t i).2, rowOf s t i (rows s t i).1 (rows s t i).2)

/-- the number of edits from the first i of s to the first j of t -/
def osa (s t : Nat → Int) (i j : Nat) : Nat := (rows s t i).2 j

theorem osa_zero (s t : Nat → Int) (j : Nat) : osa s t 0 j = j := rfl
theorem osa_succ_zero (s t : Nat → Int) (i : Nat) : osa s t (i + 1) 0 = i + 1 := rfl
theorem rows_fst (s t : Nat → Int) (i j : Nat) (h : 0 < i) : (rows s t i).1 j = osa s t (i - 1) j := by
  cases i with
  | zero => omega
  | succ i => rfl
theorem osa_succ (s t : Nat → Int) (i j : Nat) : osa s t (i + 1) (j + 1) = cellOf (osa s t i (j + 1)) (osa s t (i + 1) j) (osa s t i j) (s i == t j) (trans s t i j) (osa s t (i - 1) (j - 1)) := by
  by_cases h : 0 < i
  · show cellOf _ _ _ _ _ ((rows s t i).1 (j - 1)) = _
    rw [rows_fst s t i (j - 1) h]
    rfl
  · have ht : trans s t i j = false := by simp [trans, h]
    show cellOf _ _ _ _ (trans s t i j) _ = _
    rw [ht]
    rfl

theorem cellOf_le_up (up lf dg : Nat) (eq tr : Bool) (dd : Nat) : cellOf up lf dg eq tr dd ≤ up + 1 := by unfold cellOf; simp only []; split <;> split <;> omega
theorem cellOf_le_lf (up lf dg : Nat) (eq tr : Bool) (dd : Nat) : cellOf up lf dg eq tr dd ≤ lf + 1 := by unfold cellOf; simp only []; split <;> split <;> omega
theorem cellOf_le_dg (up lf dg : Nat) (eq tr : Bool) (dd : Nat) : cellOf up lf dg eq tr dd ≤ dg + (if eq then 0 else 1) := by unfold cellOf; simp only []; split <;> split <;> omega
theorem cellOf_ge (up lf dg : Nat) (eq tr : Bool) (dd x : Nat) (h1 : x ≤ up + 1) (h2 : x ≤ lf + 1) (h3 : x ≤ dg) (h4 : tr = true → x ≤ dd + 1) : x ≤ cellOf up lf dg eq tr dd := by
  unfold cellOf
  simp only []
  split
  · have := h4 (by assumption); split <;> omega
  · split <;> omega
theorem cellOf_zero {up lf dg : Nat} {eq tr : Bool} {dd : Nat} (h : cellOf up lf dg eq tr dd = 0) : dg = 0 ∧ eq = true := by
  unfold cellOf at h
  simp only [] at h
  cases eq <;> cases tr <;> simp at h ⊢ <;> omega
theorem cellOf_comm (up lf dg : Nat) (eq tr : Bool) (dd : Nat) : cellOf up lf dg eq tr dd = cellOf lf up dg eq tr dd := by
  unfold cellOf
  rw [Nat.min_comm (up + 1) (lf + 1)]

theorem trans_pos {s t : Nat → Int} {i j : Nat} (h : trans s t i j = true) : 0 < i ∧ 0 < j := by
  simp [trans] at h
  exact ⟨h.1.1.1, h.1.1.2⟩

/-- both differences of the lengths are below it -/
theorem osa_ge (s t : Nat → Int) : ∀ i j, i - j ≤ osa s t i j ∧ j - i ≤ osa s t i j := by
  intro i
  induction i using Nat.strongRecOn with
  | ind i ihi =>
    intro j
    induction j using Nat.strongRecOn with
    | ind j ihj =>
      cases i with
      | zero => rw [osa_zero]; omega
      | succ i =>
        cases j with
        | zero => rw [osa_succ_zero]; omega
        | succ j =>
          rw [osa_succ]
          have h1 := ihi i (by omega) (j + 1)
          have h2 := ihj j (by omega)
          have h3 := ihi i (by omega) j
          have h4 := ihi (i - 1) (by omega) (j - 1)
          constructor
          · refine cellOf_ge _ _ _ _ _ _ _ (by omega) (by omega) (by omega) (fun ht => ?_)
            have := trans_pos ht; omega
          · refine cellOf_ge _ _ _ _ _ _ _ (by omega) (by omega) (by omega) (fun ht => ?_)
            have := trans_pos ht; omega

theorem osa_le (s t : Nat → Int) : ∀ i j, osa s t i j ≤ max i j := by
  intro i
  induction i with
  | zero => intro j; rw [osa_zero]; omega
  | succ i ih =>
    intro j
    cases j with
    | zero => rw [osa_succ_zero]; omega
    | succ j =>
      rw [osa_succ]
      have h := ih j
      have := cellOf_le_dg (osa s t i (j + 1)) (osa s t (i + 1) j) (osa s t i j) (s i == t j) (trans s t i j) (osa s t (i - 1) (j - 1))
      split at this <;> omega

theorem trans_comm (s t : Nat → Int) (i j : Nat) : trans s t i j = trans t s j i := by
  unfold trans
  rw [Bool.eq_iff_iff]
  simp
  constructor
  · rintro ⟨⟨⟨a, b⟩, c⟩, d⟩; exact ⟨⟨⟨b, a⟩, d.symm⟩, c.symm⟩
  · rintro ⟨⟨⟨a, b⟩, c⟩, d⟩; exact ⟨⟨⟨b, a⟩, d.symm⟩, c.symm⟩

theorem osa_comm (s t : Nat → Int) : ∀ i j, osa s t i j = osa t s j i := by
  intro i
  induction i using Nat.strongRecOn with
  | ind i ihi =>
    intro j
    induction j using Nat.strongRecOn with
    | ind j ihj =>
      cases i with
      | zero =>
        cases j with
        | zero => rfl
        | succ j => rw [osa_zero, osa_succ_zero]
      | succ i =>
        cases j with
        | zero => rw [osa_zero, osa_succ_zero]
        | succ j =>
          rw [osa_succ, osa_succ, ihi i (by omega) (j + 1), ihj j (by omega), ihi i (by omega) j, ihi (i - 1) (by omega) (j - 1), trans_comm s t i j, cellOf_comm]
          have e : (s i == t j) = (t j == s i) := by
            rw [Bool.eq_iff_iff]
            simp only [beq_iff_eq]
            exact ⟨Eq.symm, Eq.symm⟩
          rw [e]

theorem osa_same (s t : Nat → Int) : ∀ i, (∀ k, k < i → s k = t k) → osa s t i i = 0 := by
  intro i
  induction i with
  | zero => intro _; rfl
  | succ i ih =>
    intro h
    have h0 := ih (fun k hk => h k (by omega))
    rw [osa_succ]
    have := cellOf_le_dg (osa s t i (i + 1)) (osa s t (i + 1) i) (osa s t i i) (s i == t i) (trans s t i i) (osa s t (i - 1) (i - 1))
    have e : (s i == t i) = true := by rw [h i (by omega)]; simp
    rw [e, h0] at this ⊢
    simpa using this

theorem osa_zero_same (s t : Nat → Int) : ∀ i, osa s t i i = 0 → ∀ k, k < i → s k = t k := by
  intro i
  induction i with
  | zero => intro _ k hk; omega
  | succ i ih =>
    intro h k hk
    rw [osa_succ] at h
    obtain ⟨h1, h2⟩ := cellOf_zero h
    by_cases e : k = i
    · subst e; simpa using h2
    · exact ih h1 k (by omega)

/-- putting k behind costs k -/
theorem osa_behind (s t : Nat → Int) (n : Nat) (h : ∀ k, k < n → s k = t k) : ∀ k, osa s t n (n + k) = k := by
  intro k
  have lo := (osa_ge s t n (n + k)).2
  have hi : osa s t n (n + k) ≤ k := by
    clear lo
    induction k with
    | zero => rw [Nat.add_zero, osa_same s t n h]; exact Nat.le_refl 0
    | succ k ih =>
      cases n with
      | zero => rw [osa_zero]; omega
      | succ n =>
        show osa s t (n + 1) ((n + 1 + k) + 1) ≤ _
        rw [osa_succ]
        have := cellOf_le_lf (osa s t n (n + 1 + k + 1)) (osa s t (n + 1) (n + 1 + k)) (osa s t n (n + 1 + k)) (s n == t (n + 1 + k)) (trans s t n (n + 1 + k)) (osa s t (n - 1) (n + 1 + k - 1))
        omega
  omega

/-- putting k ahead costs k -/
theorem osa_ahead (s t : Nat → Int) (k : Nat) : ∀ n, (∀ i, i < n → s i = t (k + i)) → osa s t n (k + n) = k := by
  intro n h
  have lo := (osa_ge s t n (k + n)).2
  have hi : osa s t n (k + n) ≤ k := by
    clear lo
    induction n with
    | zero => rw [osa_zero]; omega
    | succ n ih =>
      have h0 := ih (fun i hi => h i (by omega))
      show osa s t (n + 1) ((k + n) + 1) ≤ k
      rw [osa_succ]
      have := cellOf_le_dg (osa s t n (k + n + 1)) (osa s t (n + 1) (k + n)) (osa s t n (k + n)) (s n == t (k + n)) (trans s t n (k + n)) (osa s t (n - 1) (k + n - 1))
      have e : (s n == t (k + n)) = true := by rw [h n (by omega)]; simp
      rw [e] at this ⊢
      simp only [if_true] at this
      omega
  omega

/-- only the first i and j count -/
theorem osa_congr {s s' t t' : Nat → Int} : ∀ i j, (∀ k, k < i → s k = s' k) → (∀ k, k < j → t k = t' k) → osa s t i j = osa s' t' i j := by
  intro i
  induction i using Nat.strongRecOn with
  | ind i ihi =>
    intro j
    induction j using Nat.strongRecOn with
    | ind j ihj =>
      intro hs ht
      cases i with
      | zero => rw [osa_zero, osa_zero]
      | succ i =>
        cases j with
        | zero => rw [osa_succ_zero, osa_succ_zero]
        | succ j =>
          have e1 := ihi i (by omega) (j + 1) (fun k hk => hs k (by omega)) ht
          have e2 := ihj j (by omega) hs (fun k hk => ht k (by omega))
          have e3 := ihi i (by omega) j (fun k hk => hs k (by omega)) (fun k hk => ht k (by omega))
          have e4 := ihi (i - 1) (by omega) (j - 1) (fun k hk => hs k (by omega)) (fun k hk => ht k (by omega))
          have et : trans s t i j = trans s' t' i j := by
            unfold trans
            by_cases hi : 0 < i
            · by_cases hj : 0 < j
              · rw [hs i (by omega), hs (i - 1) (by omega), ht j (by omega), ht (j - 1) (by omega)]
              · simp [hj]
            · simp [hi]
          rw [osa_succ, osa_succ, e1, e2, e3, e4, et, hs i (by omega), ht j (by omega)]
end Go.Proofs.Qxb6605533a
