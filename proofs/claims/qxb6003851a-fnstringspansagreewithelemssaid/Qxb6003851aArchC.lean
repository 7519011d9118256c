/-
  Seat b6003851a. Walks of the archive package: strings.
-/
import Derived.Test.Qxb6003851aArchB
namespace Go.Proofs.Qxb6003851a
open Go.ChangeShapes Go.WideShapes Go.RowKit
set_option linter.unusedVariables false

theorem info34 : (Try.prog.info? 34).map (fun i => (i.zero, i.size, i.bytes)) = some (some (.agg #[.int .i64 0, .int .i64 0]), 2, 16) := by kernel_rfl

/-- the cells of the first k spans -/
def spanVals (off : Int) (F : Nat → Nat) : Nat → List Value
  | 0 => []
  | k + 1 => spanVals off F k ++ [.int .i64 (off + (stN F k : Int)), .int .i64 ((F k : Int) - (stN F k : Int))]

theorem ownsRow_base {w : World} {base base' : Nat} {e : TypeId} {size : Nat} {v : Value} {n : Nat} {xs : List Value} (h : w.ownsRow base e size v n xs) (hb : base' ≤ base) : w.ownsRow base' e size v n xs := by
  refine ⟨h.1, ?_⟩
  rcases h.2 with h2 | ⟨g, cap, cur, hv, hg, rest⟩
  · exact .inl h2
  · exact .inr ⟨g, cap, cur, hv, Nat.le_trans hb hg, rest⟩

theorem two_one (x y : Int) : ∀ u ∈ [Value.int .i64 x, Value.int .i64 y], u.oneCell' = true := by
  intro u hu
  simp at hu
  rcases hu with rfl | rfl <;> rfl

set_option maxHeartbeats 400000 in
theorem strings22 (p : Nat) (a1 : Option Addr) (n c se : Nat) (off : Int) (F : Nat → Nat) (w : World)
    (hp1 : w.cell? ⟨p, 1, none⟩ = some (.int .u32 se)) (hp11 : w.cell? ⟨p, 11, none⟩ = some (.slice a1 n c)) (hp13 : w.cell? ⟨p, 13, none⟩ = some (.int .i64 off))
    (h1 : Ints .u32 w a1 n (fun i => (F i : Int))) (hn : n ≤ 1048576) (hnc : n ≤ c) (hse : se ≤ n) (ho0 : 0 ≤ off) (ho1 : off ≤ 1073741824)
    (hS : ∀ i, i < n → stN F i ≤ F i) (hE : ∀ i, i < n → F i ≤ 1048576) :
    Calls Try.prog 22 #[.pointer (some ⟨p, 0, none⟩)] w fun e w' => ∃ v, e = .returned v ∧ w'.ownsRow w.heap.size 34 2 v se (spanVals off F se) ∧ Below w.heap.size w w' := by
  obtain ⟨i0, hi, hz0, hz1, hz2⟩ := info_parts info34
  have hpl := World.block_lt_of_cell? w _ hp1
  have hsc : (se : Int) ≤ (c : Int) := by omega
  go_enter Try.func22, Try.ntmps22
  go_wp2
  go_quiet (fail)
  go_wp2_with fail
  go_loopw [3, 4, 18] (fun v st i wr => ∃ k : Nat, k ≤ se ∧ i = .int .i64 k ∧ st = .int .u32 (stN F k) ∧ wr.ownsRow w.heap.size 34 2 v k (spanVals off F k) ∧ Below w.heap.size w wr) (fun _ _ i _ => se - (intOf i).toNat)
  case atStart => exact ⟨0, Nat.zero_le _, rfl, rfl, World.ownsRow_nil _ _ _ _, below_drewN (Below.refl _ _) _⟩
  case round =>
    obtain ⟨k, hk, rfl, rfl, hown, hbel⟩ := hrel
    have hp13' : wr.cell? ⟨p, 13, none⟩ = some (.int .i64 off) := by rw [hbel.cell hpl]; exact hp13
    by_cases hlt : k < se
    · rcases h1 with h | ⟨b, ofs, rfl, hc⟩
      · omega
      have hck : w.cell? ⟨b, ofs + k, none⟩ = some (.int .u32 (F k : Int)) := hc k (by omega)
      have hck2 : wr.cell? ⟨b, ofs + k, none⟩ = some (.int .u32 (F k : Int)) := by rw [hbel.cell (World.block_lt_of_cell? w _ hck)]; exact hck
      have hSk := hS k (by omega)
      have hEk := hE k (by omega)
      have HE : Hid (spanVals off F (k + 1) = spanVals off F k ++ [.int .i64 (off + (stN F k : Int)), .int .i64 ((F k : Int) - (stN F k : Int))]) := rfl
      have HT : Hid (stN F (k + 1) = F k) := by simp [Hid, stN]
      clear hc hck hp1 hp11 hp13 hS hE
      generalize stN F k = S0 at *
      generalize F k = F0 at *
      go_wp2_with (at_builtin; refine wpList_append_own _ rfl _ _ 31 rfl w.heap.size 34 i0 (.agg #[.int .i64 0, .int .i64 0]) 2 16 Try.underlying31 hi hz0 hz1 hz2 rfl (by omega) _ k (spanVals off F k) rfl (hown.alloc _) _ 1 1 [.int .i64 (off + (S0 : Int)), .int .i64 ((F0 : Int) - (S0 : Int))] rfl rfl (cell_two_new _ _ _ _) (two_one _ _) (by unfold maxLen; omega) (by omega) (by simp; have := hbel.size; omega) ?_; intro v' w1 hown1 hgrow1 hn1)
      exact ⟨⟨k + 1, by omega, by go_num, by rw [HT.out], by rw [HE.out]; exact hown1, (hbel.alloc hbel.size _).grown hgrow1 (by simp; have := hbel.size; omega) (fun j hj => (hown.lt j hj).1)⟩, by simp [intOf]; omega⟩
    · obtain rfl : k = se := by omega
      clear hp1 hp11 hp13 hp13' hS hE h1
      go_wp2
      go_ret
      exact ⟨_, rfl, hown, hbel⟩

/-- ZZStrings -/
theorem strings11 (a1 : Option Addr) (n c se : Nat) (off : Int) (F : Nat → Nat) (w : World)
    (h1 : Ints .u32 w a1 n (fun i => (F i : Int))) (hn : n ≤ 1048576) (hnc : n ≤ c) (hse : se ≤ n) (ho0 : 0 ≤ off) (ho1 : off ≤ 1073741824)
    (hS : ∀ i, i < n → stN F i ≤ F i) (hE : ∀ i, i < n → F i ≤ 1048576) :
    Calls Try.prog 11 #[.int .u32 se, .slice a1 n c, .int .i64 off] w fun e w' => ∃ v, e = .returned v ∧ w'.ownsRow w.heap.size 34 2 v se (spanVals off F se) ∧ Below w.heap.size w w' := by
  go_enter Try.func11, Try.ntmps11
  go_wp2_with fail
  refine (strings22 _ a1 n c se off F _ ?_ ?_ ?_ (h1.below ((Below.refl _ _).alloc (Nat.le_refl _) _)) hn hnc hse ho0 ho1 hS hE).mono ?_
  · simp
  · simp
  · simp
  rintro e w1 ⟨v, rfl, hown, hb⟩
  have hbel := ((Below.refl w.heap.size w).alloc (Nat.le_refl _) _).trans (hb.mono (by simp))
  have hown' : w1.ownsRow w.heap.size 34 2 v se (spanVals off F se) := ownsRow_base hown (by simp)
  clear h1 hb hown hS hE
  go_wp2
  go_ret
  exact ⟨_, rfl, hown', hbel⟩
end Go.Proofs.Qxb6003851a
