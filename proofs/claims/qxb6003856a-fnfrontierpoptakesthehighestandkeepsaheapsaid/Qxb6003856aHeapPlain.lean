/-
  Seat b6003856a. Plain: binary heaps as functions from places to nodes; sifting up and down.
-/
namespace Go.Proofs.Qxb6003856a

/-- the place above j -/
def par (j : Nat) : Nat := (j - 1) / 2
def upd (π : Nat → Nat) (i v : Nat) : Nat → Nat := fun x => if x = i then v else π x
/-- the places i and j exchanged -/
def sw (π : Nat → Nat) (i j : Nat) : Nat → Nat := upd (upd π i (π j)) j (π i)

theorem upd_same (π : Nat → Nat) (i v : Nat) : upd π i v i = v := by simp [upd]
theorem upd_other (π : Nat → Nat) (i v x : Nat) (h : x ≠ i) : upd π i v x = π x := by simp [upd, h]
theorem sw_right (π : Nat → Nat) (i j : Nat) : sw π i j j = π i := by simp [sw, upd]
theorem sw_left (π : Nat → Nat) (i j : Nat) : sw π i j i = π j := by
  unfold sw upd
  by_cases h : i = j
  · subst h; simp
  · simp [h]
theorem sw_other (π : Nat → Nat) (i j x : Nat) (h1 : x ≠ i) (h2 : x ≠ j) : sw π i j x = π x := by simp [sw, upd, h1, h2]

def HeapOn (key : Nat → Int) (m : Nat) (π : Nat → Nat) : Prop := ∀ j, 0 < j → j < m → key (π j) ≤ key (π (par j))
def InjOn (m : Nat) (π : Nat → Nat) : Prop := ∀ i j, i < m → j < m → π i = π j → i = j

theorem par_lt {j : Nat} (h : 0 < j) : par j < j := by unfold par; omega

theorem root_max {key : Nat → Int} {m : Nat} {π : Nat → Nat} (h : HeapOn key m π) : ∀ j, j < m → key (π j) ≤ key (π 0) := by
  intro j
  induction j using Nat.strongRecOn with
  | ind j ih =>
    intro hj
    by_cases h0 : j = 0
    · subst h0; exact Int.le_refl _
    · have hp := par_lt (j := j) (by omega)
      exact Int.le_trans (h j (by omega) hj) (ih (par j) hp (by omega))

/-! ### Sifting up -/
structure SU (key : Nat → Int) (π : Nat → Nat) (K i : Nat) : Prop where
  lt : i < K
  up : ∀ j, 0 < j → j < K → j ≠ i → key (π j) ≤ key (π (par j))
  skip : 0 < i → ∀ j, 0 < j → j < K → par j = i → key (π j) ≤ key (π (par i))

theorem su_start {key : Nat → Int} {π : Nat → Nat} {K : Nat} (h : HeapOn key K π) (v : Nat) : SU key (upd π K v) (K + 1) K := by
  refine ⟨by omega, fun j h0 h1 h2 => ?_, fun _ j h0 h1 h2 => ?_⟩
  · have hp := par_lt h0
    rw [upd_other _ _ _ _ h2, upd_other _ _ _ _ (by omega)]
    exact h j h0 (by omega)
  · have hp := par_lt h0
    omega

theorem su_step {key : Nat → Int} {π : Nat → Nat} {K i : Nat} (h : SU key π K i) (hi : 0 < i) (hk : key (π (par i)) < key (π i)) : SU key (sw π i (par i)) K (par i) := by
  have hp := par_lt hi
  refine ⟨by have := h.lt; omega, fun j h0 h1 h2 => ?_, fun hp0 j h0 h1 h2 => ?_⟩
  · by_cases e : j = i
    · subst e
      rw [sw_left, sw_right]
      omega
    · have hpj := par_lt h0
      rw [sw_other _ _ _ _ e h2]
      by_cases e1 : par j = par i
      · rw [e1, sw_right]
        have := h.up j h0 h1 e
        rw [e1] at this
        omega
      · by_cases e2 : par j = i
        · rw [e2, sw_left]
          exact h.skip hi j h0 h1 e2
        · rw [sw_other _ _ _ _ e2 e1]
          exact h.up j h0 h1 e
  · have hpp := par_lt hp0
    have hpj := par_lt h0
    rw [sw_other π i (par i) (par (par i)) (by omega) (by omega)]
    have hup := h.up (par i) hp0 (by have := h.lt; omega) (by omega)
    by_cases e : j = i
    · subst e
      rw [sw_left]
      exact hup
    · rw [sw_other _ _ _ _ e (by omega)]
      have := h.up j h0 h1 e
      rw [h2] at this
      omega

theorem su_done0 {key : Nat → Int} {π : Nat → Nat} {K : Nat} (h : SU key π K 0) : HeapOn key K π := fun j h0 h1 => h.up j h0 h1 (by omega)

theorem su_done {key : Nat → Int} {π : Nat → Nat} {K i : Nat} (h : SU key π K i) (hk : ¬ key (π (par i)) < key (π i)) : HeapOn key K π := by
  intro j h0 h1
  by_cases e : j = i
  · subst e; omega
  · exact h.up j h0 h1 e

/-- a permutation of the numbers below K -/
structure PermOn (K : Nat) (π : Nat → Nat) : Prop where
  inj : InjOn K π
  rng : ∀ j, j < K → π j < K
  sur : ∀ v, v < K → ∃ j, j < K ∧ π j = v

theorem perm_ext {K : Nat} {π : Nat → Nat} (h : PermOn K π) : PermOn (K + 1) (upd π K K) := by
  refine ⟨fun i j hi hj e => ?_, fun j hj => ?_, fun v hv => ?_⟩
  · by_cases ei : i = K
    · subst ei
      by_cases ej : j = i
      · exact ej.symm
      · rw [upd_same, upd_other _ _ _ _ ej] at e
        have := h.rng j (by omega)
        omega
    · rw [upd_other _ _ _ _ ei] at e
      have hr := h.rng i (by omega)
      by_cases ej : j = K
      · subst ej; rw [upd_same] at e; omega
      · rw [upd_other _ _ _ _ ej] at e
        exact h.inj i j (by omega) (by omega) e
  · by_cases ej : j = K
    · subst ej; rw [upd_same]; omega
    · rw [upd_other _ _ _ _ ej]
      have := h.rng j (by omega)
      omega
  · by_cases ev : v = K
    · subst ev; exact ⟨v, hv, upd_same _ _ _⟩
    · obtain ⟨j, hj, e⟩ := h.sur v (by omega)
      exact ⟨j, by omega, by rw [upd_other _ _ _ _ (by omega)]; exact e⟩

/-- where the exchanged function takes place x from -/
def swp (i j x : Nat) : Nat := if x = j then i else if x = i then j else x
theorem sw_swp (π : Nat → Nat) (i j x : Nat) : sw π i j x = π (swp i j x) := by
  unfold sw upd swp
  by_cases h1 : x = j
  · simp [h1]
  · simp only [h1, if_false]
    by_cases h2 : x = i
    · simp [h2]
    · simp [h2]
theorem swp_lt {i j x m : Nat} (hi : i < m) (hj : j < m) (hx : x < m) : swp i j x < m := by
  unfold swp
  split
  · exact hi
  · split
    · exact hj
    · exact hx
theorem swp_swp (i j x : Nat) : swp i j (swp i j x) = x := by unfold swp; split <;> split <;> (try split) <;> omega

theorem inj_sw {m : Nat} {π : Nat → Nat} {i j : Nat} (h : InjOn m π) (hi : i < m) (hj : j < m) : InjOn m (sw π i j) := by
  intro x y hx hy e
  rw [sw_swp, sw_swp] at e
  have := h _ _ (swp_lt hi hj hx) (swp_lt hi hj hy) e
  rw [← swp_swp i j x, this, swp_swp]

theorem perm_sw {K : Nat} {π : Nat → Nat} {i j : Nat} (h : PermOn K π) (hi : i < K) (hj : j < K) : PermOn K (sw π i j) := by
  refine ⟨inj_sw h.inj hi hj, fun x hx => ?_, fun v hv => ?_⟩
  · rw [sw_swp]; exact h.rng _ (swp_lt hi hj hx)
  · obtain ⟨x, hx, e⟩ := h.sur v hv
    exact ⟨swp i j x, swp_lt hi hj hx, by rw [sw_swp, swp_swp]; exact e⟩

/-! ### Sifting down -/
structure SD (key : Nat → Int) (π : Nat → Nat) (m i : Nat) : Prop where
  up : ∀ j, 0 < j → j < m → par j ≠ i → key (π j) ≤ key (π (par j))
  skip : 0 < i → ∀ j, 0 < j → j < m → par j = i → key (π j) ≤ key (π (par i))

theorem sd_start {key : Nat → Int} {π : Nat → Nat} {m : Nat} (h : HeapOn key (m + 1) π) (v : Nat) : SD key (upd π 0 v) m 0 := by
  refine ⟨fun j h0 h1 h2 => ?_, fun h => by omega⟩
  rw [upd_other _ _ _ _ (by omega), upd_other _ _ _ _ h2]
  exact h j h0 (by omega)

/-- c is the place among i and the two below it (as far as they are there) whose key is greatest, i itself where none is greater -/
structure Best (key : Nat → Int) (π : Nat → Nat) (m i c : Nat) : Prop where
  here : c = i ∨ ((c = 2 * i + 1 ∨ c = 2 * i + 2) ∧ c < m)
  self : key (π i) ≤ key (π c)
  left : 2 * i + 1 < m → key (π (2 * i + 1)) ≤ key (π c)
  right : 2 * i + 2 < m → key (π (2 * i + 2)) ≤ key (π c)

theorem child {j i : Nat} (h0 : 0 < j) (h : par j = i) : j = 2 * i + 1 ∨ j = 2 * i + 2 := by unfold par at h; omega

theorem sd_done {key : Nat → Int} {π : Nat → Nat} {m i : Nat} (h : SD key π m i) (b : Best key π m i i) : HeapOn key m π := by
  intro j h0 h1
  by_cases e : par j = i
  · rw [e]
    rcases child h0 e with rfl | rfl
    · exact b.left h1
    · exact b.right h1
  · exact h.up j h0 h1 e

theorem sd_step {key : Nat → Int} {π : Nat → Nat} {m i c : Nat} (h : SD key π m i) (b : Best key π m i c) (hc : c ≠ i) : SD key (sw π i c) m c := by
  have hcm : (c = 2 * i + 1 ∨ c = 2 * i + 2) ∧ c < m := by
    rcases b.here with h | h
    · exact absurd h hc
    · exact h
  have hpc : par c = i := by unfold par; omega
  have hic : i < c := by omega
  refine ⟨fun j h0 h1 h2 => ?_, fun hc0 j h0 h1 h2 => ?_⟩
  · have hpj := par_lt h0
    by_cases e : j = c
    · subst e
      rw [hpc, sw_left, sw_right]
      exact b.self
    · by_cases e2 : j = i
      · subst e2
        rw [sw_left, sw_other _ _ _ _ (by omega) (by omega)]
        exact h.skip h0 c (by omega) hcm.2 hpc
      · rw [sw_other _ _ _ _ e2 e]
        by_cases e3 : par j = i
        · rw [e3, sw_left]
          rcases child h0 e3 with rfl | rfl
          · exact b.left h1
          · exact b.right h1
        · rw [sw_other _ _ _ _ e3 h2]
          exact h.up j h0 h1 e3
  · have hpj := par_lt h0
    rw [hpc, sw_left, sw_other _ _ _ _ (by omega) (by omega)]
    have := h.up j h0 h1 (by omega)
    rwa [h2] at this

/-- everything at the first m places stood at a place from 1 to M - 1 before -/
def SubOf (m : Nat) (π π0 : Nat → Nat) (M : Nat) : Prop := ∀ j, j < m → ∃ i, 0 < i ∧ i < M ∧ π j = π0 i

theorem sub_start (π0 : Nat → Nat) (m : Nat) : SubOf m (upd π0 0 (π0 m)) π0 (m + 1) := by
  intro j hj
  by_cases e : j = 0
  · subst e; exact ⟨m, by omega, by omega, upd_same _ _ _⟩
  · exact ⟨j, by omega, by omega, upd_other _ _ _ _ e⟩

theorem inj_start {π0 : Nat → Nat} {m : Nat} (h : InjOn (m + 1) π0) : InjOn m (upd π0 0 (π0 m)) := by
  intro i j hi hj e
  by_cases ei : i = 0
  · subst ei
    by_cases ej : j = 0
    · exact ej.symm
    · rw [upd_same, upd_other _ _ _ _ ej] at e
      have := h m j (by omega) (by omega) e
      omega
  · rw [upd_other _ _ _ _ ei] at e
    by_cases ej : j = 0
    · subst ej
      rw [upd_same] at e
      have := h i m (by omega) (by omega) e
      omega
    · rw [upd_other _ _ _ _ ej] at e
      exact h i j (by omega) (by omega) e

theorem sub_sw {m : Nat} {π π0 : Nat → Nat} {M i j : Nat} (h : SubOf m π π0 M) (hi : i < m) (hj : j < m) : SubOf m (sw π i j) π0 M := by
  intro x hx
  rw [sw_swp]
  exact h _ (swp_lt hi hj hx)

/-- the same while the places below i are looked at one after the other: q of them have been -/
structure BestTo (key : Nat → Int) (π : Nat → Nat) (m i q c : Nat) : Prop where
  here : c = i ∨ ((c = 2 * i + 1 ∨ c = 2 * i + 2) ∧ c < m)
  self : key (π i) ≤ key (π c)
  left : 1 ≤ q → 2 * i + 1 < m → key (π (2 * i + 1)) ≤ key (π c)
  right : 2 ≤ q → 2 * i + 2 < m → key (π (2 * i + 2)) ≤ key (π c)

theorem bestTo_start (key : Nat → Int) (π : Nat → Nat) (m i : Nat) : BestTo key π m i 0 i := ⟨.inl rfl, Int.le_refl _, fun h => by omega, fun h => by omega⟩

theorem bestTo_take {key : Nat → Int} {π : Nat → Nat} {m i q c : Nat} (h : BestTo key π m i q c) (hq : q < 2) (hj : 2 * i + 1 + q < m) (hk : key (π c) < key (π (2 * i + 1 + q))) : BestTo key π m i (q + 1) (2 * i + 1 + q) := by
  refine ⟨.inr ⟨by omega, hj⟩, by have := h.self; omega, fun h1 h2 => ?_, fun h1 h2 => ?_⟩
  · by_cases e : q = 0
    · subst e; exact Int.le_refl _
    · have := h.left (by omega) h2; omega
  · have e : q = 1 := by omega
    subst e; exact Int.le_refl _

theorem bestTo_keep {key : Nat → Int} {π : Nat → Nat} {m i q c : Nat} (h : BestTo key π m i q c) (hq : q < 2) (hn : ¬ (2 * i + 1 + q < m ∧ key (π c) < key (π (2 * i + 1 + q)))) : BestTo key π m i (q + 1) c := by
  refine ⟨h.here, h.self, fun h1 h2 => ?_, fun h1 h2 => ?_⟩
  · by_cases e : q = 0
    · subst e
      have : ¬ key (π c) < key (π (2 * i + 1 + 0)) := fun hk => hn ⟨by omega, hk⟩
      exact Int.not_lt.1 this
    · exact h.left (by omega) h2
  · have e : q = 1 := by omega
    subst e
    have : ¬ key (π c) < key (π (2 * i + 1 + 1)) := fun hk => hn ⟨by omega, hk⟩
    exact Int.not_lt.1 this

theorem bestTo_end {key : Nat → Int} {π : Nat → Nat} {m i c : Nat} (h : BestTo key π m i 2 c) : Best key π m i c := ⟨h.here, h.self, h.left (by omega), h.right (by omega)⟩
end Go.Proofs.Qxb6003856a
