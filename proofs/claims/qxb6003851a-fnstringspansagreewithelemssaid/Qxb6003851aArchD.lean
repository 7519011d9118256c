/-
  Seat b6003851a. The walk of the law FnStringSpansAgreeWithElems.
-/
import Derived.Test.Qxb6003851aArchC
namespace Go.Proofs.Qxb6003851a
open Go.ChangeShapes Go.WideShapes Go.RowKit
set_option linter.unusedVariables false

/-- a bool that, where it is true, says that both lengths are small -/
def Small (n m : Nat) (e : Ending) : Prop := ∃ r : Bool, e = .returned (.bool r) ∧ (r = true → n ≤ 1048576 ∧ m ≤ 1048576)

theorem zz6 (x y : Int) (a1 a2 : Option Addr) (n c m d : Nat) (w : World) (hn : n ≤ maxLen) (hm : m ≤ maxLen) :
    Calls Try.prog 6 #[.int .u32 x, .slice a1 n c, .slice a2 m d, .int .i64 y] w fun e w' => Small n m e ∧ w' = w := by
  unfold maxLen at hn hm
  by_cases h1 : 1048576 < n
  · go_enter Try.func6, Try.ntmps6
    go_wp2
    go_ret
    exact ⟨⟨false, rfl, fun h => by cases h⟩, rfl⟩
  by_cases h2 : 1048576 < m
  · go_enter Try.func6, Try.ntmps6
    go_wp2
    go_ret
    exact ⟨⟨false, rfl, fun h => by cases h⟩, rfl⟩
  by_cases h3 : 1048576 < n + m
  · go_enter Try.func6, Try.ntmps6
    go_wp2
    go_ret
    exact ⟨⟨false, rfl, fun h => by cases h⟩, rfl⟩
  · go_enter Try.func6, Try.ntmps6
    go_wp2
    go_ret
    exact ⟨⟨true, rfl, fun _ => ⟨by omega, by omega⟩⟩, rfl⟩

theorem int_eq {k : IntKind} {x y : Int} (h : x = y) : Value.int k x = Value.int k y := by rw [h]

/-- what nonDecreasing and lastOr0 give together -/
theorem ends_ok (n m : Nat) (F : Nat → Nat) (hnd : Nd n (fun i => (F i : Int))) (hl : lastF n (fun i => (F i : Int)) ≤ m) :
    (∀ i, i < n → stN F i ≤ F i) ∧ (∀ i, i < n → F i ≤ m) := by
  have mono : ∀ d i, i + d < n → F i ≤ F (i + d) := by
    intro d
    induction d with
    | zero => intro i _; exact Nat.le_refl _
    | succ d ih =>
      intro i h
      have h1 := ih i (by omega)
      have h2 : (F (i + d) : Int) ≤ (F (i + d + 1) : Int) := hnd (i + d) (by omega)
      have h3 : F (i + d) ≤ F (i + d + 1) := by omega
      exact Nat.le_trans h1 h3
  refine ⟨fun i hi => ?_, fun i hi => ?_⟩
  · unfold stN
    split
    · exact Nat.zero_le _
    · have := mono 1 (i - 1) (by omega)
      rwa [show i - 1 + 1 = i by omega] at this
  · have h1 := mono (n - 1 - i) i (by omega)
    rw [show i + (n - 1 - i) = n - 1 by omega] at h1
    unfold lastF at hl
    rw [if_neg (by omega)] at hl
    have hl' : (F (n - 1) : Int) ≤ (m : Int) := hl
    omega

theorem spanVals_len (off : Int) (F : Nat → Nat) (n : Nat) : (spanVals off F n).length = n * 2 := by
  induction n with
  | zero => rfl
  | succ n ih => simp [spanVals, ih]; omega

theorem spanVals_at (off : Int) (F : Nat → Nat) (n k : Nat) (hk : k < n) : (spanVals off F n)[2 * k]? = some (.int .i64 (off + (stN F k : Int))) ∧ (spanVals off F n)[2 * k + 1]? = some (.int .i64 ((F k : Int) - (stN F k : Int))) := by
  induction n with
  | zero => omega
  | succ n ih =>
    have hl := spanVals_len off F n
    by_cases e : k = n
    · subst e
      constructor
      · rw [spanVals, List.getElem?_append_right (by omega), hl, show 2 * k - k * 2 = 0 by omega]; rfl
      · rw [spanVals, List.getElem?_append_right (by omega), hl, show 2 * k + 1 - k * 2 = 1 by omega]; rfl
    · have := ih (by omega)
      rw [spanVals, List.getElem?_append_left (by omega), List.getElem?_append_left (by omega)]
      exact this

set_option maxRecDepth 100000 in
set_option maxHeartbeats 1000000 in
theorem walk3 (se : Nat) (off : Int) (a1 a2 : Option Addr) (n c m d : Nat) (F : Nat → Nat) (g : Nat → Int) (w : World)
    (hse : se < 4294967296) (ho : -9223372036854775808 ≤ off ∧ off ≤ 9223372036854775807)
    (h1 : Ints .u32 w a1 n (fun i => (F i : Int))) (hn : n ≤ maxLen) (hz1 : a1 = none → n = 0 ∧ c = 0)
    (hF : ∀ i, i < n → F i < 4294967296) (h2 : Ints .u8 w a2 m g) (hm : m ≤ maxLen) (hz2 : a2 = none → m = 0 ∧ d = 0) :
    Calls Try.prog 3 #[.int .u32 se, .slice a1 n c, .slice a2 m d, .int .i64 off] w fun e w' => e = .returned (.bool true) ∧ Below w.heap.size w w' := by
  go_enter Try.func3, Try.ntmps3
  go_wp2_with fail
  refine (zz6 se off a1 a2 n c m d w hn hm).mono ?_
  rintro e w' ⟨⟨r, rfl, hr⟩, rfl⟩
  cases r
  · clear hr
    unfold maxLen at hn hm
    go_wp2
    go_ret
    exact ⟨rfl, Below.refl _ _⟩
  obtain ⟨hn, hm⟩ := hr rfl
  clear hr
  by_cases hb1 : 131072 < n
  · go_wp2
    go_ret
    exact ⟨rfl, Below.refl _ _⟩
  by_cases hb2 : 1048576 < n * 8 + m
  · go_wp2
    go_ret
    exact ⟨rfl, Below.refl _ _⟩
  by_cases hb3 : off < 0
  · go_wp2
    go_ret
    exact ⟨rfl, Below.refl _ _⟩
  by_cases hb4 : 1073741824 < off
  · go_wp2
    go_ret
    exact ⟨rfl, Below.refl _ _⟩
  go_wp2_with fail
  refine (clone7 a1 n c _ _ h1 hz1 (by omega)).mono ?_
  rintro e w1 ⟨b1, rfl, hI1, hb1n, hbel1⟩
  go_wp2_with fail
  refine (clone8 a2 m d _ _ (h2.below hbel1) hz2 (by omega)).mono ?_
  rintro e w2 ⟨b2, rfl, hI2, hb2n, hbel2⟩
  have hI1' := hI1.below hbel2
  have hbel := hbel1.trans (hbel2.mono hbel1.size)
  clear hI1 hbel1 hbel2 h1 h2 hz1 hz2
  go_wp2_with fail
  refine (nd9 b1 n n _ _ hI1' (by omega)).mono ?_
  rintro e w3 ⟨⟨r, rfl, hnd⟩, hbel3⟩
  have hI1 := hI1'.below hbel3
  have hI2' := hI2.below hbel3
  have hbel' := hbel.trans (hbel3.mono hbel.size)
  clear hI1' hI2 hbel hbel3
  cases r
  · go_wp2
    go_ret
    exact ⟨rfl, hbel'⟩
  have hnd' := hnd rfl
  clear hnd
  go_wp2_with fail
  refine (last10 b1 n n _ _ hI1 (by omega)).mono ?_
  rintro e w4 ⟨rfl, rfl⟩
  have hends := ends_ok n m F hnd'
  have hL0 : 0 ≤ lastF n (fun i => (F i : Int)) := by
    unfold lastF
    split
    · omega
    · show 0 ≤ (F (n - 1) : Int)
      omega
  have hL1 : lastF n (fun i => (F i : Int)) < 4294967296 := by
    unfold lastF
    split
    · omega
    · have := hF (n - 1) (by omega)
      show (F (n - 1) : Int) < 4294967296
      omega
  clear hF
  clear hnd'
  generalize lastF n (fun i => (F i : Int)) = L at *
  by_cases hb5 : (m : Int) < L
  · go_wp2
    go_ret
    exact ⟨rfl, hbel'⟩
  obtain ⟨hS, hE⟩ := hends (by omega)
  clear hends
  by_cases hb6 : n < se
  · go_wp2
    go_ret
    exact ⟨rfl, hbel'⟩
  go_wp2_with fail
  refine (strings11 b1 n n se off F _ hI1 (by omega) (Nat.le_refl _) (by omega) (by omega) (by omega) hS (fun i hi => Nat.le_trans (hE i hi) (by omega))).mono ?_
  rintro e w5 ⟨v, rfl, hown, hbel5⟩
  have hI1' := hI1.below hbel5
  have hI2 := hI2'.below hbel5
  have hbel := hbel'.trans (hbel5.mono hbel'.size)
  have hbase := hbel'.size
  clear hI1 hI2' hbel' hbel5
  by_cases hs0 : se = 0
  · subst hs0
    have hv : ∃ ao cap, v = .slice ao 0 cap := by
      rcases hown.2 with ⟨h, _⟩ | ⟨gg, cap, cur, h, _⟩
      · exact ⟨_, _, h⟩
      · exact ⟨_, _, h⟩
    obtain ⟨ao, cap, hv⟩ := hv
    rw [hv]
    clear hown hv hS hE
    go_wp2_with fail
    refine wp_loop_rounds 1 ?_
    rw [rounds_succ]
    go_wp2
    go_ret
    exact ⟨rfl, hbel⟩
  · have hv : ∃ gg cap, v = .slice (some ⟨gg, 0, none⟩) se cap ∧ w4.heap.size ≤ gg ∧ gg < w5.heap.size := by
      rcases hown.2 with ⟨_, h⟩ | ⟨gg, cap, cur, h, hg, hh, _⟩
      · omega
      · exact ⟨_, _, h, hg, (Array.getElem?_eq_some_iff.1 hh).1⟩
    obtain ⟨gg, cap, hv, hgg, hgg2⟩ := hv
    rw [hv] at hown ⊢
    have hcells : ∀ k, k < se → w5.cell? ⟨gg, k * 2, none⟩ = some (.int .i64 (off + (stN F k : Int))) ∧ w5.cell? ⟨gg, k * 2 + 1, none⟩ = some (.int .i64 ((F k : Int) - (stN F k : Int))) := by
      intro k hk
      have h := spanVals_at off F se k hk
      rw [Nat.mul_comm k 2, hown.cellAt (2 * k) (by omega), hown.cellAt (2 * k + 1) (by omega)]
      exact h
    clear hown hv
    go_wp2_with fail
    go_loopw [10, 11] (fun nx i wr => ∃ k : Nat, k ≤ se ∧ i = .int .i64 k ∧ nx = .int .i64 (off + (stN F k : Int)) ∧ Below w5.heap.size w5 wr) (fun _ i _ => se - (intOf i).toNat)
    case atStart => exact ⟨0, Nat.zero_le _, rfl, by simp [stN], Below.refl _ _⟩
    case round =>
      obtain ⟨k, hk, rfl, rfl, hbelr⟩ := hrel
      by_cases hlt : k < se
      · have hc1 := (hcells k hlt).1
        have hc2 := (hcells k hlt).2
        have hc1' : wr.cell? ⟨gg, k * 2, none⟩ = some (.int .i64 (off + (stN F k : Int))) := by rw [hbelr.cell hgg2]; exact hc1
        have hc2' : wr.cell? ⟨gg, k * 2 + 1, none⟩ = some (.int .i64 ((F k : Int) - (stN F k : Int))) := by rw [hbelr.cell hgg2]; exact hc2
        have hSk := hS k (by omega)
        have hEk := hE k (by omega)
        have HT : Hid (stN F (k + 1) = F k) := by simp [Hid, stN]
        have hcon := fun W hW1 hW2 => elem12 b1 b2 n n m m k F g W hW1 (by omega) hW2 (by omega) (Nat.le_refl _) (by omega) (fun h => ⟨hb2n h, hb2n h⟩) (by omega) hSk hEk
        have e1 : (F k : Int) - (stN F k : Int) = ((F k - stN F k : Nat) : Int) := by omega
        rw [e1] at hc2'
        have HL : Hid (stN F k + (F k - stN F k) = F k) := by unfold Hid; omega
        clear hc1 hc2 hcells hS hE e1
        generalize F k - stN F k = l at *
        generalize stN F k = S0 at *
        have hlm : S0 + l ≤ m := by have := HL.out; omega
        have hI1r := hI1'.below hbelr
        have hI2r := hI2.below hbelr
        have HC : Hid (∀ (W : World), (Ints IntKind.u32 W b1 n fun i => (F i : Int)) → Ints IntKind.u8 W b2 m g → Calls Try.prog 12 #[Value.slice b1 n n, Value.slice b2 m m, Value.int IntKind.u32 ↑k] W fun e w' => BytesRet W l (fun t => g (S0 + t)) e w') := hcon
        clear hcon
        go_wp2_with fail
        refine (HC.out _ (hI1r.below ((Below.refl _ _).alloc (Nat.le_refl _) _)) (hI2r.below ((Below.refl _ _).alloc (Nat.le_refl _) _))).mono ?_
        rintro e w6 ⟨a6, c6, rfl, hI6, hbel6⟩
        have hI2s := (hI2r.below ((Below.refl _ _).alloc (Nat.le_refl _) _)).below hbel6
        have hbela := ((Below.refl wr.heap.size wr).alloc (Nat.le_refl _) _).trans (hbel6.mono (by simp))
        have hsp0 : w6.cell? ⟨wr.heap.size, 0, none⟩ = some (.int .i64 (off + (S0 : Int))) := by rw [hbel6.cell (by simp)]; simp
        have hsp1 : w6.cell? ⟨wr.heap.size, 1, none⟩ = some (.int .i64 (l : Int)) := by rw [hbel6.cell (by simp)]; simp
        have hspl : wr.heap.size < w6.heap.size := by have := hbel6.size; simp at this; omega
        have hbelt := hbel.trans ((hbelr.trans (hbela.mono hbelr.size)).mono hbel.size)
        have hbelu := hbelr.trans (hbela.mono hbelr.size)
        clear hbel6 hbela hI1r hI2r HC hc1' hc2' hbel hbelr
        go_wp2_with fail
        rw [show off + (S0 : Int) - off = (S0 : Int) from by omega]
        obtain ⟨wo, hwo⟩ : ∃ wo : World, wo = wr := ⟨_, rfl⟩
        subst hwo
        go_loopw [15] (fun t wi => ∃ j : Nat, j ≤ l ∧ t = .int .i64 j ∧ Below w6.heap.size w6 wi) (fun t _ => l - (intOf t).toNat)
        case atStart => exact ⟨0, Nat.zero_le _, rfl, Below.refl _ _⟩
        case round =>
          obtain ⟨j, hj, rfl, hbeli⟩ := hrel
          have hsp0' : wr.cell? ⟨wo.heap.size, 0, none⟩ = some (.int .i64 (off + (S0 : Int))) := by rw [hbeli.cell hspl]; exact hsp0
          have hsp1' : wr.cell? ⟨wo.heap.size, 1, none⟩ = some (.int .i64 (l : Int)) := by rw [hbeli.cell hspl]; exact hsp1
          clear hsp0 hsp1
          by_cases hjl : j < l
          · rcases hI2s with h | ⟨bb, oo, rfl, hcA⟩
            · omega
            rcases hI6 with h | ⟨b6, o6, rfl, hcB⟩
            · omega
            have hA := hcA (S0 + j) (by omega)
            have hB : w6.cell? ⟨b6, o6 + j, none⟩ = some (.int .u8 (g (S0 + j))) := hcB j hjl
            have hA' : wr.cell? ⟨bb, oo + (S0 + j), none⟩ = some (.int .u8 (g (S0 + j))) := by rw [hbeli.cell (World.block_lt_of_cell? w6 _ hA)]; exact hA
            have hB' : wr.cell? ⟨b6, o6 + j, none⟩ = some (.int .u8 (g (S0 + j))) := by rw [hbeli.cell (World.block_lt_of_cell? w6 _ hB)]; exact hB
            clear hcA hcB hA hB
            generalize g (S0 + j) = x at *
            have hq1 : (S0 : Int) + (j : Int) < (m : Int) := by omega
            have hq2 : (j : Int) < (l : Int) := by omega
            go_wp2
            go_quiet (fail)
            go_wp2
            exact ⟨⟨j + 1, by omega, by go_num, below_drewN hbeli _⟩, by simp [intOf]; omega⟩
          · have hjl' : ¬ (j : Int) < (l : Int) := by omega
            clear hI2s hI6 hI1' hI2 hjl hj
            go_wp2
            exact ⟨⟨k + 1, by omega, by go_num, int_eq (by rw [HT.out, ← HL.out]; omega), hbelu.trans (hbeli.mono hbelu.size)⟩, by simp [intOf]; omega⟩
      · go_wp2
        go_ret
        exact ⟨rfl, hbel.trans (hbelr.mono hbel.size)⟩
end Go.Proofs.Qxb6003851a
