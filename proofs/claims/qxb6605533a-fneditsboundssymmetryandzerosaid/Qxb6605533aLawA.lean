/-
  Seat b6605533a. The walk of the law FnEditsBoundsSymmetryAndZero.
-/
import Derived.Test.Qxb6605533aEdA
import Derived.Test.Qxb6605533aSame
namespace Go.Proofs.Qxb6605533a
open Go.ChangeShapes Go.WideShapes Go.RowKit
set_option linter.unusedVariables false

theorem edits6 (a b : ByteArray) (ha : a.size ≤ 8192) (hb : b.size ≤ 8192) (w : World) :
    Calls Try.prog 6 #[.string a, .string b] w fun e w' => e = .returned (.int .i64 (osa (rf a) (rf b) (rl a) (rl b) : Nat)) ∧ Below w.heap.size w w' := by
  have hc := edits9 a b ha hb w
  generalize osa (rf a) (rf b) (rl a) (rl b) = d at *
  have HC : Hid (Calls Try.prog 9 #[.string a, .string b] w fun e w' => e = .returned (.int .i64 (d : Nat)) ∧ Below w.heap.size w w') := hc
  clear hc
  go_enter Try.func6, Try.ntmps6
  go_wp2_with fail
  refine HC.out.mono ?_
  rintro e w1 ⟨rfl, hbel⟩
  go_wp2
  go_ret
  exact ⟨rfl, hbel⟩

set_option maxHeartbeats 1000000 in
theorem walk3 (a b : ByteArray) (w : World) (ha : a.size ≤ maxLen) (hb : b.size ≤ maxLen) :
    Calls Try.prog 3 #[.string a, .string b] w fun e w' => e = .returned (.bool true) ∧ Below w.heap.size w w' := by
  go_enter Try.func3, Try.ntmps3
  go_wp2_with fail
  refine (zz5 a b w ha hb).mono ?_
  rintro e w' ⟨⟨r, rfl⟩, rfl⟩
  unfold maxLen at ha hb
  cases r
  · go_wp2
    go_ret
    exact ⟨rfl, Below.refl _ _⟩
  by_cases h1 : 512 < a.size
  · go_wp2
    go_ret
    exact ⟨rfl, Below.refl _ _⟩
  by_cases h2 : 512 < b.size
  · go_wp2
    go_ret
    exact ⟨rfl, Below.refl _ _⟩
  have hca := run_runes a (by omega)
  have hcb := run_runes b (by omega)
  have hla := rl_le a
  have hlb := rl_le b
  go_wp2_with fail
  clear hca hcb
  obtain ⟨r1, e1, z1⟩ := newR_spec w' a
  obtain ⟨r2, e2, z2⟩ := newR_spec (newR w' a) b
  have hs1 : RunesAt (newR (newR w' a) b) w'.heap.size (rl a) (rf a) := r1.below e2 (by omega)
  have hbel := e1.trans (e2.mono e1.size)
  have hsz : (newR w' a).heap.size < (newR (newR w' a) b).heap.size := by omega
  have hsz0 : w'.heap.size < (newR (newR w' a) b).heap.size := by omega
  clear r1 e1 e2 z1 z2
  generalize newR (newR w' a) b = W2 at *
  generalize capR (newR w' a) b = cb at *
  generalize capR w' a = ca at *
  generalize (newR w' a).heap.size = B2 at *
  refine (edits6 a b (by omega) (by omega) _).mono ?_
  rintro e w3 ⟨rfl, hbel3⟩
  go_wp2_with fail
  refine (edits6 b a (by omega) (by omega) _).mono ?_
  rintro e w4 ⟨rfl, hbel4⟩
  rw [← osa_comm (rf a) (rf b) (rl a) (rl b)]
  have g1 := osa_ge (rf a) (rf b) (rl a) (rl b)
  have g2 := osa_le (rf a) (rf b) (rl a) (rl b)
  have hz1 : osa (rf a) (rf b) (rl a) (rl b) = 0 ↔ (rl a = rl b ∧ ∀ k, k < rl a → rf a k = rf b k) := by
    constructor
    · intro h
      have he : rl a = rl b := by omega
      refine ⟨he, ?_⟩
      rw [← he] at h
      exact osa_zero_same _ _ _ h
    · rintro ⟨he, hs⟩
      rw [← he]
      exact osa_same _ _ _ hs
  have hbel34 : Below W2.heap.size W2 w4 := hbel3.trans (hbel4.mono hbel3.size)
  have hS1 := hs1.below hbel34 hsz0
  have hS2 := r2.below hbel34 hsz
  have hbelA : Below w'.heap.size w' w4 := hbel.trans (hbel34.mono hbel.size)
  have hszA : w'.heap.size < w4.heap.size := by have := hbel34.size; omega
  have hszB : B2 < w4.heap.size := by have := hbel34.size; omega
  clear hs1 r2 hbel3 hbel4 hbel34 hbel
  have HZ : Hid (osa (rf a) (rf b) (rl a) (rl b) = 0 ↔ (rl a = rl b ∧ ∀ k, k < rl a → rf a k = rf b k)) := hz1
  clear hz1
  generalize hdd : osa (rf a) (rf b) (rl a) (rl b) = d at *
  clear hdd
  generalize rl a = n at *
  generalize rl b = m at *
  have hdd : ((d : Int) != (d : Int)) = false := by simp
  have fin : ∀ (r : Bool), (r = true ↔ n = m ∧ ∀ k, k < n → rf a k = rf b k) → ((d : Int) == 0) = r := by
    intro r hr
    rw [Bool.eq_iff_iff, hr, ← HZ.out]
    simp
  have FIN : Hid (∀ (r : Bool), (r = true ↔ n = m ∧ ∀ k, k < n → rf a k = rf b k) → ((d : Int) == 0) = r) := fin
  clear fin HZ
  by_cases hnm : n < m
  · have t1 : ¬ ((d : Int) < (m : Int) - (n : Int)) := by omega
    have t2 : ¬ ((m : Int) < (d : Int)) := by omega
    go_wp2_with fail
    refine (same7 _ n _ _ m _ (rf a) (rf b) _ hS1 hS2 (by omega) (by omega) hszA hszB).mono ?_
    rintro e w5 ⟨⟨r, rfl, hr⟩, hbel5⟩
    have hfin := FIN.out r hr
    have hbelE := hbelA.trans (hbel5.mono hbelA.size)
    clear hS1 hS2 hr FIN hbel5 hbelA
    go_wp2
    go_ret
    exact ⟨by simp, hbelE⟩
  · have t1 : ¬ ((d : Int) < (n : Int) - (m : Int)) := by omega
    have t2 : ¬ ((n : Int) < (d : Int)) := by omega
    go_wp2_with fail
    refine (same7 _ n _ _ m _ (rf a) (rf b) _ hS1 hS2 (by omega) (by omega) hszA hszB).mono ?_
    rintro e w5 ⟨⟨r, rfl, hr⟩, hbel5⟩
    have hfin := FIN.out r hr
    have hbelE := hbelA.trans (hbel5.mono hbelA.size)
    clear hS1 hS2 hr FIN hbel5 hbelA
    go_wp2
    go_ret
    exact ⟨by simp, hbelE⟩
end Go.Proofs.Qxb6605533a
