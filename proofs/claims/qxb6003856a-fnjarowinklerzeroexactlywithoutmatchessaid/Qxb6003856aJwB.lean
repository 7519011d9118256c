/-
  Seat b6003856a. JaroWinkler: the two closures; matchShort.
-/
import Derived.Test.Qxb6003856aJwA
import Derived.Laws.Bits64
import Derived.Laws.BitsLemmas
namespace Go.Proofs.Qxb6003856a
open Go.ChangeShapes Go.WideShapes Go.RowKit
set_option linter.unusedVariables false

/-! ### bits of a word -/
theorem wraps64 (n : Int) (h0 : 0 ≤ n) (h1 : n < 2 ^ 64) : IntKind.u64.wrap n = n := by
  rw [IntKind.wrap_u64]
  exact Int.emod_eq_of_lt h0 (by simpa using h1)

theorem pow_lt64 {j : Nat} (hj : j < 64) : (2 : Nat) ^ j < 2 ^ 64 := Nat.pow_lt_pow_right (by omega) hj

theorem wrap_pow {j : Nat} (hj : j < 64) : IntKind.u64.wrap (2 ^ j) = ((2 ^ j : Nat) : Int) := by
  have h := pow_lt64 hj
  rw [show ((2 : Int) ^ j) = ((2 ^ j : Nat) : Int) by simp]
  exact wraps64 _ (Int.natCast_nonneg _) (by generalize 2 ^ j = p at h ⊢; omega)

theorem and_two_pow' (x j : Nat) : x &&& 2 ^ j = (x.testBit j).toNat * 2 ^ j := by
  apply Nat.eq_of_testBit_eq
  intro i
  rw [Nat.testBit_and]
  by_cases e : i = j
  · subst e
    cases h : x.testBit i <;> simp
  · rw [Nat.testBit_two_pow_of_ne (Ne.symm e)]
    cases h : x.testBit j
    · simp
    · simp [Nat.testBit_two_pow_of_ne (Ne.symm e)]

theorem and_pow {x j : Nat} (hx : x < 2 ^ 64) (hj : j < 64) : bits BinOp.and IntKind.u64 (x : Int) (IntKind.u64.wrap (2 ^ j)) = (((x.testBit j).toNat * 2 ^ j : Nat) : Int) := by
  rw [wrap_pow hj, (bits_nat .u64 64 (Nat.le_refl _) wraps64 x (2 ^ j) hx (pow_lt64 hj)).1, and_two_pow']

theorem or_pow {x j : Nat} (hx : x < 2 ^ 64) (hj : j < 64) : bits BinOp.or IntKind.u64 (x : Int) (IntKind.u64.wrap (2 ^ j)) = ((x ||| 2 ^ j : Nat) : Int) := by
  rw [wrap_pow hj, (bits_nat .u64 64 (Nat.le_refl _) wraps64 x (2 ^ j) hx (pow_lt64 hj)).2]

theorem and_ne {x j : Nat} (hx : x < 2 ^ 64) (hj : j < 64) : (bits BinOp.and IntKind.u64 (x : Int) (IntKind.u64.wrap (2 ^ j)) != 0) = x.testBit j := by
  rw [and_pow hx hj]
  have := Nat.pow_pos (n := j) Nat.two_pos
  cases x.testBit j
  · simp
  · simp only [Bool.toNat_true, Nat.one_mul]
    generalize 2 ^ j = p at *
    simp; omega

theorem and_eq {x j : Nat} (hx : x < 2 ^ 64) (hj : j < 64) : (bits BinOp.and IntKind.u64 (x : Int) (IntKind.u64.wrap (2 ^ j)) == 0) = !x.testBit j := by
  have h := and_ne hx hj
  rw [← h]
  simp [bne]

theorem or_lt64 {x j : Nat} (hx : x < 2 ^ 64) (hj : j < 64) : x ||| 2 ^ j < 2 ^ 64 := Nat.or_lt_two_pow hx (pow_lt64 hj)

theorem or_same {x j : Nat} : (x ||| 2 ^ j).testBit j = true := by simp [Nat.testBit_or]
theorem or_other {x j i : Nat} (h : i ≠ j) : (x ||| 2 ^ j).testBit i = x.testBit i := by
  rw [Nat.testBit_or, Nat.testBit_two_pow_of_ne (Ne.symm h)]
  simp

set_option maxRecDepth 100000 in
set_option maxHeartbeats 2000000 in
theorem clo28 (V : Nat) (x : Nat) (j : Nat) (w : World) (hx : x < 2 ^ 64) (hj : j < 64) (hc : w.cell? ⟨V, 0, none⟩ = some (.int .u64 x)) :
    Calls Try.prog 28 #[.int .i64 j, .pointer (some ⟨V, 0, none⟩)] w fun e w' => e = .returned (.bool (x.testBit j)) ∧ Below w.heap.size w w' := by
  go_enter Try.func28, Try.ntmps28
  go_wp2_with fail
  go_quiet (fail)
  rw [and_ne hx hj]
  go_wp2_with fail
  go_ret
  exact ⟨rfl, ⟨rfl, rfl, rfl, Nat.le_refl _, fun _ _ => rfl⟩⟩

set_option maxRecDepth 100000 in
set_option maxHeartbeats 2000000 in
theorem clo27 (V b n : Nat) (M : Nat → Bool) (j : Nat) (w : World) (hj : j < n) (hn : n ≤ 65536) (hc : w.cell? ⟨V, 0, none⟩ = some (.slice (some ⟨b, 0, none⟩) n n)) (hb : w.cell? ⟨b, j, none⟩ = some (.bool (M j))) :
    Calls Try.prog 27 #[.int .i64 j, .pointer (some ⟨V, 0, none⟩)] w fun e w' => e = .returned (.bool (M j)) ∧ Below w.heap.size w w' := by
  go_enter Try.func27, Try.ntmps27
  go_wp2_with fail
  go_ret
  exact ⟨rfl, Below.refl _ _⟩
end Go.Proofs.Qxb6003856a
