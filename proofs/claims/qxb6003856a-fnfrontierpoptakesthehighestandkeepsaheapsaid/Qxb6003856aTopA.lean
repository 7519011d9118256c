/-
  Seat b6003856a. zzIsHeap.
-/
import Derived.Test.Qxb6003856aDrainA
namespace Go.Proofs.Qxb6003856a
open Go.ChangeShapes Go.WideShapes Go.RowKit
set_option linter.unusedVariables false
attribute [local go_sem] run_store_float

set_option maxRecDepth 100000 in
set_option maxHeartbeats 2000000 in
theorem heap20 (b n c : Nat) (bd π : Nat → Nat) (w : World) (hH : HeapIs w b n bd π) (hnum : ∀ j, j < n → Num (bd (π j))) (hheap : HeapOn (fun v => fkey (bd v)) n π) (hn : n ≤ 65536) :
    Calls Try.prog 20 #[.slice (some ⟨b, 0, none⟩) n c] w fun e w' => e = .returned (.bool true) ∧ Below w.heap.size w w' := by
  go_enter Try.func20, Try.ntmps20
  go_wp2
  go_loopw [3] (fun iv wr => ∃ i : Nat, iv = .int .i64 i ∧ i ≤ n ∧ Below w.heap.size w wr) (fun iv _ => n - (intOf iv).toNat)
  case atStart => exact ⟨0, rfl, Nat.zero_le _, Below.refl _ _⟩
  case round =>
    obtain ⟨i, rfl, hi, hbel⟩ := hrel
    by_cases hin : i < n
    · have hbl := World.block_lt_of_cell? w _ (hH.c0 hin)
      go_wp2_with fail
      go_loopw [4] (fun cv wi => ∃ q : Nat, cv = .int .i64 (2 * i + 1 + q : Nat) ∧ q ≤ 2 ∧ Below w.heap.size w wi) (fun cv _ => 2 * i + 3 - (intOf cv).toNat)
      case atStart => exact ⟨0, by go_num, by omega, hbel⟩
      case round =>
        clear hbel
        obtain ⟨q, rfl, hq, hbel⟩ := hrel
        by_cases hq2 : q = 2
        · subst hq2
          have hb1 : ¬ (((2 * i + 1 + 2 : Nat) : Int) ≤ 2 * (i : Int) + 2) := by omega
          clear hH hnum hheap
          go_wp2
          exact ⟨⟨i + 1, by go_num, by omega, hbel⟩, by simp [intOf]; omega⟩
        · by_cases hc : 2 * i + 1 + q < n
          · have hb1 : ((2 * i + 1 + q : Nat) : Int) ≤ 2 * (i : Int) + 2 := by omega
            have hb2 : ((2 * i + 1 + q : Nat) : Int) < (n : Int) := by omega
            have hb3 : (i : Int) < (n : Int) := by omega
            have hpar : par (2 * i + 1 + q) = i := by unfold par; omega
            have hle := hheap (2 * i + 1 + q) (by omega) hc
            rw [hpar] at hle
            have hg := gt_no _ _ (hnum _ hc) (hnum _ hin) (Int.not_lt.2 hle)
            have hH' := hH.of_block (hbel.block b hbl)
            have a0 := hH'.c0 hc
            have a1 := hH'.c1 hc
            have a2 := hH'.c2 hc
            have a3 := hH'.c3 hc
            have b0 := hH'.c0 hin
            have b1 := hH'.c1 hin
            have b2 := hH'.c2 hin
            have b3 := hH'.c3 hin
            have hbw : b < wr.heap.size := by have := hbel.size; omega
            have hX : Below w.heap.size w (((wr.alloc (.cells #[.float .f64 (bd (π (2 * i + 1 + q))), .pointer none, .pointer none, .int .i64 (π (2 * i + 1 + q))] 39)).alloc (.cells #[.float .f64 (bd (π i)), .pointer none, .pointer none, .int .i64 (π i)] 39)).drew) := ((hbel.alloc hbel.size _).alloc (by simp; have := hbel.size; omega) _).drew
            clear hH' hH hnum hheap hpar hle hbel
            generalize hj : 2 * i + 1 + q = j at *
            have HJ : Hid (2 * i + 1 + q = j) := hj
            clear hj
            go_wp2_with fail
            go_region_with (go_at_call 18; refine (bound18 _ _ _).mono ?_; rintro e w' ⟨rfl, rfl⟩)
            all_goals
              generalize ((wr.alloc (.cells #[.float .f64 (bd (π j)), .pointer none, .pointer none, .int .i64 (π j)] 39)).alloc (.cells #[.float .f64 (bd (π i)), .pointer none, .pointer none, .int .i64 (π i)] 39)).drew = W at hX ⊢
              clear a0 a1 a2 a3 b0 b1 b2 b3 hbw
              go_wp2
              exact ⟨⟨q + 1, by rw [← HJ.out]; go_num, by omega, hX⟩, by have := HJ.out; simp [intOf]; omega⟩
          · have hb1 : ((2 * i + 1 + q : Nat) : Int) ≤ 2 * (i : Int) + 2 := by omega
            have hb2 : ¬ (((2 * i + 1 + q : Nat) : Int) < (n : Int)) := by omega
            clear hH hnum hheap
            go_wp2
            exact ⟨⟨i + 1, by go_num, by omega, hbel⟩, by simp [intOf]; omega⟩
    · clear hH hnum hheap
      go_wp2
      go_ret
      exact ⟨rfl, hbel⟩
end Go.Proofs.Qxb6003856a
