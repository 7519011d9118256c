/-
  Seat b6003856a. JaroWinkler: matchLong, plain: the places of a character; what is known after i rounds; the two maps' data.
-/
import Derived.Test.Qxb6003856aJwC
import Derived.Maps.OwnRows
import Derived.Maps.OwnSet
import Derived.Maps.Views
import Derived.Maps.GroupsBeside
namespace Go.Proofs.Qxb6003856a
open Go.ChangeShapes Go.WideShapes Go.RowKit Go.Maps
set_option linter.unusedVariables false

/-- the places of r among the first k of g, in order -/
def plc (g : Nat → Int) (r : Int) : Nat → List Int
  | 0 => []
  | k + 1 => if g k = r then plc g r k ++ [(k : Int)] else plc g r k

theorem plc_len (g : Nat → Int) (r : Int) (k : Nat) : (plc g r k).length ≤ k := by
  induction k with
  | zero => exact Nat.le_refl _
  | succ k ih =>
    unfold plc
    split
    · simp only [List.length_append, List.length_cons, List.length_nil]; omega
    · omega

theorem plc_mem (g : Nat → Int) (r : Int) (k p : Nat) (hp : p < (plc g r k).length) : ∃ j : Nat, j < k ∧ (plc g r k).getD p 0 = (j : Int) ∧ g j = r := by
  induction k with
  | zero => simp [plc] at hp
  | succ k ih =>
    by_cases e : g k = r
    · have hu : plc g r (k + 1) = plc g r k ++ [(k : Int)] := by show (if g k = r then _ else _) = _; rw [if_pos e]
      rw [hu] at hp ⊢
      by_cases h : p < (plc g r k).length
      · obtain ⟨j, h1, h2, h3⟩ := ih h
        refine ⟨j, by omega, ?_, h3⟩
        rw [← h2]
        simp [List.getD, List.getElem?_append_left h]
      · have hpe : p = (plc g r k).length := by simp at hp; omega
        refine ⟨k, by omega, ?_, e⟩
        subst hpe
        simp [List.getD]
    · have hu : plc g r (k + 1) = plc g r k := by show (if g k = r then _ else _) = _; rw [if_neg e]
      rw [hu] at hp ⊢
      obtain ⟨j, h1, h2, h3⟩ := ih hp
      exact ⟨j, by omega, h2, h3⟩

theorem plc_mono (g : Nat → Int) (r : Int) (k p q : Nat) (hpq : p < q) (hq : q < (plc g r k).length) : (plc g r k).getD p 0 < (plc g r k).getD q 0 := by
  induction k with
  | zero => simp [plc] at hq
  | succ k ih =>
    by_cases e : g k = r
    · have hu : plc g r (k + 1) = plc g r k ++ [(k : Int)] := by show (if g k = r then _ else _) = _; rw [if_pos e]
      rw [hu] at hq ⊢
      by_cases h : q < (plc g r k).length
      · have := ih h
        simpa [List.getD, List.getElem?_append_left h, List.getElem?_append_left (show p < (plc g r k).length by omega)] using this
      · have hqe : q = (plc g r k).length := by simp at hq; omega
        obtain ⟨j, h1, h2, _⟩ := plc_mem g r k p (by omega)
        subst hqe
        have h3 : (plc g r k ++ [(k : Int)]).getD p 0 = (plc g r k).getD p 0 := by
          simp [List.getD, List.getElem?_append_left hpq]
        rw [h3, h2]
        simp [List.getD]
        omega
    · have hu : plc g r (k + 1) = plc g r k := by show (if g k = r then _ else _) = _; rw [if_neg e]
      rw [hu] at hq ⊢
      exact ih hq

theorem plc_all (g : Nat → Int) (r : Int) (k j : Nat) (hj : j < k) (e : g j = r) : ∃ p, p < (plc g r k).length ∧ (plc g r k).getD p 0 = (j : Int) := by
  induction k with
  | zero => omega
  | succ k ih =>
    by_cases h : j = k
    · subst h
      have hu : plc g r (j + 1) = plc g r j ++ [(j : Int)] := by show (if g j = r then _ else _) = _; rw [if_pos e]
      exact ⟨(plc g r j).length, by rw [hu]; simp, by rw [hu]; simp [List.getD]⟩
    · obtain ⟨p, h1, h2⟩ := ih (by omega)
      by_cases e2 : g k = r
      · have hu : plc g r (k + 1) = plc g r k ++ [(k : Int)] := by show (if g k = r then _ else _) = _; rw [if_pos e2]
        refine ⟨p, by rw [hu]; simp; omega, ?_⟩
        rw [hu, ← h2]
        simp [List.getD, List.getElem?_append_left h1]
      · have hu : plc g r (k + 1) = plc g r k := by show (if g k = r then _ else _) = _; rw [if_neg e2]
        rw [hu]
        exact ⟨p, h1, h2⟩

/-- what is known after i rounds of the second loop: nx: the cursors; M: who is matched -/
structure LI (f g : Nat → Int) (la lb i m : Nat) (nx : Int → Nat) (M : Nat → Bool) : Prop where
  cm : m = cnt M lb
  le : ∀ r, nx r ≤ (plc g r lb).length
  free : ∀ r p, nx r ≤ p → p < (plc g r lb).length → M ((plc g r lb).getD p 0).toNat = false
  pos : 0 < m → Hit f g la lb
  zero : m = 0 → (∀ i', i' < i → ∀ j, j < lb → i' ≤ j + win la lb → j ≤ i' + win la lb → f i' ≠ g j) ∧ ∀ r p, p < nx r → (plc g r lb).getD p 0 + (win la lb : Int) < (i : Int)

theorem LI.start (f g : Nat → Int) (la lb : Nat) : LI f g la lb 0 0 (fun _ => 0) (fun _ => false) :=
  ⟨(cnt_false lb).symm, fun _ => Nat.zero_le _, fun _ _ _ _ => rfl, by omega, fun _ => ⟨fun i' h => by omega, fun r p h => by omega⟩⟩

theorem LI.atEnd {f g : Nat → Int} {la lb m : Nat} {nx : Int → Nat} {M : Nat → Bool} (h : LI f g la lb la m nx M) : 0 < m ↔ Hit f g la lb := by
  refine ⟨h.pos, fun ⟨i, j, hi, hj, e, w1, w2⟩ => ?_⟩
  by_cases h0 : m = 0
  · exact absurd e ((h.zero h0).1 i hi j hj w1 w2)
  · omega

/-- the cursor of r is set to k -/
def setN (nx : Int → Nat) (r : Int) (k : Nat) : Int → Nat := fun r' => if r' = r then k else nx r'
/-- j is matched -/
def setM (M : Nat → Bool) (j : Nat) : Nat → Bool := fun i => if i = j then true else M i

/-- a round that matches -/
theorem LI.hit {f g : Nat → Int} {la lb i m : Nat} {nx : Int → Nat} {M : Nat → Bool} (h : LI f g la lb i m nx M) (hi : i < la) (k j : Nat) (hk0 : nx (f i) ≤ k) (hk : k < (plc g (f i) lb).length) (hj : (plc g (f i) lb).getD k 0 = (j : Int))
    (w1 : i ≤ j + win la lb) (w2 : j ≤ i + win la lb) : j < lb ∧ M j = false ∧ LI f g la lb (i + 1) (m + 1) (setN nx (f i) (k + 1)) (setM M j) := by
  obtain ⟨j', hj1, hj2, hj3⟩ := plc_mem g (f i) lb k hk
  have e : j' = j := by rw [hj] at hj2; omega
  subst e
  have hMj : M j' = false := by
    have := h.free (f i) k hk0 hk
    rw [hj, Int.toNat_natCast] at this
    exact this
  refine ⟨hj1, hMj, ?_, fun r => ?_, fun r p h1 h2 => ?_, fun _ => ⟨i, j', hi, hj1, hj3.symm, w1, w2⟩, by omega⟩
  · rw [cnt_set M (setM M j') j' hMj (by simp [setM]) (fun i hi => by simp [setM, hi]) lb, if_pos hj1, ← h.cm]
  · unfold setN
    by_cases e : r = f i
    · rw [if_pos e, e]; omega
    · rw [if_neg e]; exact h.le r
  · have key : M ((plc g r lb).getD p 0).toNat = false ∧ ((plc g r lb).getD p 0).toNat ≠ j' := by
      unfold setN at h1
      by_cases e : r = f i
      · subst e
        rw [if_pos rfl] at h1
        refine ⟨h.free _ p (by omega) h2, ?_⟩
        have := plc_mono g (f i) lb k p (by omega) h2
        rw [hj] at this
        omega
      · rw [if_neg e] at h1
        refine ⟨h.free r p h1 h2, ?_⟩
        obtain ⟨q, _, hq2, hq3⟩ := plc_mem g r lb p h2
        rw [hq2, Int.toNat_natCast]
        intro e2
        rw [e2, hj3] at hq3
        exact e hq3.symm
    show (if _ = j' then true else _) = false
    rw [if_neg key.2]
    exact key.1

/-- a round that does not -/
theorem LI.miss {f g : Nat → Int} {la lb i m : Nat} {nx : Int → Nat} {M : Nat → Bool} (h : LI f g la lb i m nx M) (k : Nat) (hk0 : nx (f i) ≤ k) (hk : k ≤ (plc g (f i) lb).length) (hskip : ∀ p, nx (f i) ≤ p → p < k → (plc g (f i) lb).getD p 0 + (win la lb : Int) < (i : Int))
    (hno : k < (plc g (f i) lb).length → ¬ (plc g (f i) lb).getD k 0 ≤ (i : Int) + (win la lb : Int)) : LI f g la lb (i + 1) m (setN nx (f i) k) M := by
  refine ⟨h.cm, fun r => ?_, fun r p h1 h2 => ?_, h.pos, fun h0 => ⟨fun i' hi' j hj w1 w2 e => ?_, fun r p hp => ?_⟩⟩
  · unfold setN
    by_cases e : r = f i
    · rw [if_pos e, e]; exact hk
    · rw [if_neg e]; exact h.le r
  · unfold setN at h1
    by_cases e : r = f i
    · rw [if_pos e] at h1
      exact h.free r p (by rw [e]; omega) h2
    · rw [if_neg e] at h1
      exact h.free r p h1 h2
  · by_cases hi : i' = i
    · subst hi
      obtain ⟨p, hp1, hp2⟩ := plc_all g (f i') lb j hj e.symm
      by_cases c1 : p < nx (f i')
      · have := (h.zero h0).2 (f i') p c1
        rw [hp2] at this
        omega
      · by_cases c2 : p < k
        · have := hskip p (by omega) c2
          rw [hp2] at this
          omega
        · have hkl : k < (plc g (f i') lb).length := by omega
          have := hno hkl
          by_cases c3 : p = k
          · rw [c3] at hp2
            rw [hp2] at this
            omega
          · have h3 := plc_mono g (f i') lb k p (by omega) hp1
            rw [hp2] at h3
            omega
    · exact (h.zero h0).1 i' (by omega) j hj w1 w2 e
  · unfold setN at hp
    by_cases e : r = f i
    · subst e
      rw [if_pos rfl] at hp
      by_cases c1 : p < nx (f i)
      · have := (h.zero h0).2 (f i) p c1
        omega
      · have := hskip p (by omega) hp
        omega
    · rw [if_neg e] at hp
      have := (h.zero h0).2 r p hp
      omega

/-! ### the maps' data -/
/-- the map of places -/
def GoodD (D : DataW Unit) (g : Nat → Int) (k : Nat) : Prop :=
  IsMap D ∧ ∀ r, (D.atKey (.int .i32 r) .nil = .nil ∧ plc g r k = []) ∨ D.atKey (.int .i32 r) .nil = .slice (lits .i64 (plc g r k)) []

theorem GoodD.start (g : Nat → Int) : GoodD (.map []) g 0 := ⟨isMap_empty, fun r => .inl ⟨rfl, rfl⟩⟩

theorem lits_inj {zs zs' : List Int} (h : (lits .i64 zs : List (DataW Unit)) = lits .i64 zs') : zs = zs' :=
  (List.map_inj_right (fun a b hab => by cases hab; rfl)).1 h

theorem GoodD.eq {D : DataW Unit} {g : Nat → Int} {k : Nat} (h : GoodD D g k) {r : Int} {w : World} {base : Nat} {v : Value} {zs : List Int} (hat : D.atKey (.int .i32 r) .nil = rowDatum .i64 v zs) (hoi : w.ownsInts base 3 .i64 v zs) : zs = plc g r k := by
  rcases h.2 r with ⟨h1, h2⟩ | h1
  · rw [h2]
    rcases hoi.datum (H := Unit) with ⟨_, h3⟩ | h3
    · exact h3
    · rw [h1, h3] at hat; cases hat
  · rcases hoi.datum (H := Unit) with ⟨h3, _⟩ | h3
    · rw [h1, h3] at hat; cases hat
    · rw [h1, h3] at hat
      injection hat with e
      exact (lits_inj e).symm

theorem GoodD.step {D : DataW Unit} {g : Nat → Int} {k : Nat} (h : GoodD D g k) {d : DataW Unit} (hd : d = .slice (lits .i64 (plc g (g k) k ++ [(k : Int)])) []) : GoodD (D.put (.int .i32 (g k)) d) g (k + 1) := by
  refine ⟨h.1.put _ _, fun r => ?_⟩
  by_cases e : r = g k
  · subst e
    right
    rw [atKey_put_same h.1 (show WideAt.IsKeyLit (.int .i32 (g k)) from trivial), hd]
    show _ = DataW.slice (lits .i64 (if g k = g k then _ else _)) []
    rw [if_pos rfl]
  · rw [atKey_put_other (by intro e2; cases e2; exact e rfl)]
    show (_ ∧ (if g k = r then _ else _) = []) ∨ _ = DataW.slice (lits .i64 (if g k = r then _ else _)) []
    rw [if_neg (Ne.symm e)]
    exact h.2 r

/-- the map of cursors -/
def GoodN (D : DataW Unit) (nx : Int → Nat) : Prop := IsMap D ∧ ∀ r, D.atKey (.int .i32 r) (.lit (.int .i64 0)) = .lit (.int .i64 (nx r : Nat))

theorem GoodN.start : GoodN (.map []) (fun _ => 0) := ⟨isMap_empty, fun r => rfl⟩

theorem GoodN.step {D : DataW Unit} {nx : Int → Nat} (h : GoodN D nx) (r : Int) (k : Nat) : GoodN (D.put (.int .i32 r) (.lit (.int .i64 (k : Nat)))) (setN nx r k) := by
  refine ⟨h.1.put _ _, fun r' => ?_⟩
  unfold setN
  by_cases e : r' = r
  · subst e
    rw [if_pos rfl, atKey_put_same h.1 (show WideAt.IsKeyLit (.int .i32 r') from trivial)]
  · rw [if_neg e, atKey_put_other (by intro e2; cases e2; exact e rfl)]
    exact h.2 r'
end Go.Proofs.Qxb6003856a
