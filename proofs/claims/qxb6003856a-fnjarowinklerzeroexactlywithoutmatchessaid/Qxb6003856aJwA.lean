/-
  Seat b6003856a. JaroWinkler: plain words; outOfOrder by its contract.
-/
import Derived.Test.Qxb6003856aRows
import Derived.WalkKit
import Derived.ProofKit
import Derived.OpenShut
import Derived.Below
import Derived.BigQuiet
import Derived.BigRegion
import Derived.WalkLawsBesides
namespace Go.Proofs.Qxb6003856a
open Go.ChangeShapes Go.WideShapes Go.RowKit
set_option linter.unusedVariables false

/-! ### plain -/
/-- how many j < n have M j -/
def cnt (M : Nat → Bool) : Nat → Nat
  | 0 => 0
  | n + 1 => cnt M n + (if M n then 1 else 0)

theorem cnt_le (M : Nat → Bool) (n : Nat) : cnt M n ≤ n := by
  induction n with
  | zero => exact Nat.le_refl _
  | succ n ih => unfold cnt; split <;> omega

theorem cnt_mono (M : Nat → Bool) {i n : Nat} (h : i ≤ n) : cnt M i ≤ cnt M n := by
  induction n with
  | zero => have : i = 0 := by omega
            subst this; exact Nat.le_refl _
  | succ n ih =>
    by_cases e : i = n + 1
    · subst e; exact Nat.le_refl _
    · have := ih (by omega)
      show cnt M i ≤ cnt M n + (if M n then 1 else 0)
      omega

theorem cnt_lt (M : Nat → Bool) {j n : Nat} (h : j < n) (hj : M j = true) : cnt M j < cnt M n := by
  have h1 := cnt_mono M (show j + 1 ≤ n by omega)
  have h2 : cnt M (j + 1) = cnt M j + 1 := by show cnt M j + (if M j then 1 else 0) = _; rw [if_pos hj]
  omega

/-- one more is marked -/
theorem cnt_set (M M' : Nat → Bool) (j : Nat) (hj : M j = false) (hj' : M' j = true) (ho : ∀ i, i ≠ j → M' i = M i) (n : Nat) : cnt M' n = cnt M n + (if j < n then 1 else 0) := by
  induction n with
  | zero => rfl
  | succ n ih =>
    show cnt M' n + (if M' n then 1 else 0) = cnt M n + (if M n then 1 else 0) + _
    rw [ih]
    by_cases e : j = n
    · subst e
      rw [hj, hj', if_neg (Nat.lt_irrefl _), if_pos (Nat.lt_succ_self _)]
      simp
    · rw [ho n (by omega)]
      by_cases h2 : j < n
      · rw [if_pos h2, if_pos (show j < n + 1 by omega)]; omega
      · rw [if_neg h2, if_neg (show ¬ j < n + 1 by omega)]; omega

theorem cnt_zero {M : Nat → Bool} {n : Nat} (h : cnt M n = 0) {j : Nat} (hj : j < n) : M j = false := by
  cases e : M j
  · rfl
  · have := cnt_lt M hj e; omega

theorem cnt_false (n : Nat) : cnt (fun _ => false) n = 0 := by
  induction n with
  | zero => rfl
  | succ n ih => show cnt _ n + 0 = 0; omega

theorem cnt_congr {M M' : Nat → Bool} {n : Nat} (h : ∀ j, j < n → M j = M' j) : cnt M n = cnt M' n := by
  induction n with
  | zero => rfl
  | succ n ih =>
    show cnt M n + (if M n then 1 else 0) = cnt M' n + (if M' n then 1 else 0)
    rw [ih (fun j hj => h j (by omega)), h n (by omega)]

/-- how far apart two characters may stand -/
def win (la lb : Nat) : Nat := max la lb / 2 - 1

/-- some character of a and some of b are alike and near -/
def Hit (f g : Nat → Int) (la lb : Nat) : Prop := ∃ i j, i < la ∧ j < lb ∧ f i = g j ∧ i ≤ j + win la lb ∧ j ≤ i + win la lb

/-! ### slices of runes -/
def Ru (w : World) (a : Option Addr) (n : Nat) (f : Nat → Int) : Prop :=
  (a = none ∧ n = 0) ∨ ∃ b off, a = some ⟨b, off, none⟩ ∧ ∀ i, i < n → w.cell? ⟨b, off + i, none⟩ = some (.int .i32 (f i))

theorem Ru.at {w : World} {a : Option Addr} {n : Nat} {f : Nat → Int} (h : Ru w a n f) {k : Nat} (hk : k < n) : ∃ b off, a = some ⟨b, off, none⟩ ∧ w.cell? ⟨b, off + k, none⟩ = some (.int .i32 (f k)) := by
  rcases h with ⟨_, h0⟩ | ⟨b, off, e, hc⟩
  · omega
  · exact ⟨b, off, e, hc k hk⟩

theorem Ru.below {w w' : World} {a : Option Addr} {n : Nat} {f : Nat → Int} (h : Ru w a n f) (hb : Below w.heap.size w w') : Ru w' a n f := by
  rcases h with h | ⟨b, off, rfl, hc⟩
  · exact .inl h
  · refine .inr ⟨b, off, rfl, fun i hi => ?_⟩
    rw [hb.cell (World.block_lt_of_cell? w _ (hc i hi))]
    exact hc i hi

def Half (e : Ending) (m : Nat) : Prop := ∃ t : Nat, e = .returned (.int .i64 t) ∧ 2 * t ≤ m

set_option maxRecDepth 100000 in
set_option maxHeartbeats 2000000 in
theorem ooo26 (n : Nat) (c : Value) (M : Nat → Bool) (ia : Option Addr) (m ic : Nat) (g : Nat → Int) (a : Option Addr) (lb bc : Nat) (f : Nat → Int) (w : World)
    (hcf : ∀ args w, (callFunc n args).run Try.prog w = .ok (.enter n args) w)
    (hI : Ru w ia m g) (hB : Ru w a lb f) (hcnt : cnt M lb = m) (hlb : lb ≤ 65536)
    (hcall : ∀ j : Nat, j < lb → ∀ wr, Below w.heap.size w wr → Calls Try.prog n #[.int .i64 j, c] wr fun e w' => e = .returned (.bool (M j)) ∧ Below wr.heap.size wr w') :
    Calls Try.prog 26 #[.slice ia m ic, .slice a lb bc, .func (.func n) #[] #[c]] w fun e w' => Half e m ∧ Below w.heap.size w w' := by
  have hcnt' : Hid (cnt M lb = m) := hcnt
  clear hcnt
  go_enter Try.func26, Try.ntmps26
  go_wp2
  go_loopw [7, 8, 13] (fun tv kv jv wr => ∃ (t j : Nat), tv = .int .i64 t ∧ kv = .int .i64 (cnt M j) ∧ jv = .int .i64 j ∧ j ≤ lb ∧ t ≤ cnt M j ∧ Below w.heap.size w wr) (fun _ _ jv _ => lb - (intOf jv).toNat)
  case atStart => exact ⟨0, 0, rfl, rfl, rfl, Nat.zero_le _, Nat.le_refl _, Below.refl _ _⟩
  case round =>
    obtain ⟨t, j, rfl, rfl, rfl, hj, ht, hbel⟩ := hrel
    have hcj := cnt_le M j
    by_cases hlt : j < lb
    · obtain ⟨b, off, rfl, hc⟩ := (hB.below hbel).at hlt
      have hc1 := hcall j hlt wr hbel
      clear hcall
      go_wp2_with fail
      refine hc1.mono ?_
      rintro e w' ⟨rfl, hbel'⟩
      have hbelw : Below w.heap.size w w' := hbel.trans (hbel'.mono hbel.size)
      cases hM : M j
      · have hcs : cnt M (j + 1) = cnt M j := by show cnt M j + (if M j then 1 else 0) = _; rw [hM]; simp
        go_wp2_with fail
        refine ⟨⟨t, j + 1, rfl, by rw [hcs], by go_num, by omega, by omega, hbelw⟩, by simp [intOf]; omega⟩
      · have hcs : cnt M (j + 1) = cnt M j + 1 := by show cnt M j + (if M j then 1 else 0) = _; rw [hM]; simp
        have hkm : cnt M j < m := by have h1 := cnt_lt M hlt hM; have h2 : cnt M lb = m := hcnt'; omega
        obtain ⟨ib, ioff, rfl, hi⟩ := (hI.below hbelw).at hkm
        have hks : Hid (cnt M (j + 1) = cnt M j + 1) := hcs
        clear hcs
        generalize cnt M j = k at *
        by_cases heq : g k = f j
        · have hd : decide (g k = f j) = true := decide_eq_true heq
          go_wp2_with fail
          have hks' : cnt M (j + 1) = k + 1 := hks
          exact ⟨⟨t, j + 1, rfl, by rw [hks']; go_num, by go_num, by omega, by omega, hbelw⟩, by simp [intOf]; omega⟩
        · have hd : decide (g k = f j) = false := decide_eq_false heq
          go_wp2_with fail
          have hks' : cnt M (j + 1) = k + 1 := hks
          exact ⟨⟨t + 1, j + 1, by go_num, by rw [hks']; go_num, by go_num, by omega, by omega, hbelw⟩, by simp [intOf]; omega⟩
    · have hd : decide ((j : Int) < (lb : Int)) = false := decide_eq_false (by omega)
      have hjl : j = lb := by omega
      have hm : cnt M j = m := by rw [hjl]; exact hcnt'
      go_wp2_with fail
      go_ret
      refine ⟨⟨t / 2, by simp, by omega⟩, hbel⟩
end Go.Proofs.Qxb6003856a
