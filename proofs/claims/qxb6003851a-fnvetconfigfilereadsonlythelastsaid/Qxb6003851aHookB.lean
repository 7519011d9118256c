/-
  Seat b6003851a. Walks of the hook package: g1Clone, g1Concat.
-/
import Derived.Test.Qxb6003851aHookA
namespace Go.Proofs.Qxb6003851a
open Go.ChangeShapes Go.WideShapes Go.RowKit

theorem info9 : (Try.prog.info? 9).map (fun i => (i.zero, i.size, i.bytes)) = some (some (.string ⟨#[]⟩), 1, 16) := by kernel_rfl

theorem nil36 (w : World) (a : Option Addr) (n c n' c' : Nat) : (binOp .eql 36 (.slice a n c) (.slice none n' c')).run Try.prog w = .ok (.bool a.isNone) w :=
  Lib.run_eql_slice_nil w _ _ a n c n' c' Try.underlying36

theorem clone15_nil (w : World) :
    Calls Try.prog 15 #[.slice none 0 0] w fun e w' => e = .returned (.slice none 0 0) ∧ w' = w := by
  have hq := nil36
  go_enter Try.func15, Try.ntmps15
  go_wp2
  go_ret
  exact ⟨rfl, rfl⟩

/-- the content of the copy after k rounds -/
def upTo (S : Nat → ByteArray) (k j : Nat) : Value := if j < k then .string (S j) else .string ⟨#[]⟩

theorem upTo_step {w : World} {b n : Nat} {S : Nat → ByteArray} {k : Nat} (h : w.rowIs b 9 n (upTo S k)) : (w.setCell ⟨b, k, none⟩ (.string (S k))).rowIs b 9 n (upTo S (k + 1)) := by
  refine (h.set k (.string (S k))).congr fun j hj => ?_
  unfold upTo
  by_cases e : j = k
  · subst e; simp
  · rw [if_neg e]
    by_cases e2 : j < k
    · rw [if_pos e2, if_pos (by omega)]
    · rw [if_neg e2, if_neg (by omega)]

theorem clone15_some (a : Addr) (n c : Nat) (S : Nat → ByteArray) (w : World) (h : Strs w (some a) n S) (hn : n ≤ 131072) :
    Calls Try.prog 15 #[.slice (some a) n c] w fun e w' => e = .returned (.slice (some ⟨w.heap.size, 0, none⟩) n n) ∧ w'.rowIs w.heap.size 9 n (upTo S n) ∧ Below w.heap.size w w' := by
  have hq := nil36
  have hmk := run_make_row' (P := Try.prog) 36 9 (.string ⟨#[]⟩) 16 Try.underlying36 info9 rfl .i64 .i64 n (by omega) (by omega)
  go_enter Try.func15, Try.ntmps15
  go_wp2
  go_loopw [4] (fun i wr => ∃ k : Nat, k ≤ n ∧ i = .int .i64 k ∧ wr.rowIs w.heap.size 9 n (upTo S k) ∧ Below w.heap.size w wr) (fun i _ => n - (intOf i).toNat)
  case atStart => exact ⟨0, Nat.zero_le _, rfl, (World.rowIs_made _ _ _ _).congr (fun j _ => by simp [upTo]), (Below.refl _ _).alloc (Nat.le_refl _) _⟩
  case round =>
    obtain ⟨k, hk, rfl, hrow, hbel⟩ := hrel
    by_cases hlt : k < n
    · rcases h with h | ⟨b, off, ha, hc⟩
      · omega
      obtain rfl := Option.some.inj ha
      have hck := hc k hlt
      have hck2 : wr.cell? ⟨b, off + k, none⟩ = some (.string (S k)) := by rw [hbel.cell (World.block_lt_of_cell? w _ hck)]; exact hck
      have hfz := hrow.frozen k
      have hcl := hrow.cell hlt
      clear hc hq hmk
      obtain ⟨v, hv⟩ : ∃ v, upTo S k k = v := ⟨_, rfl⟩
      rw [hv] at hcl
      clear hv
      go_wp2
      exact ⟨⟨k + 1, by omega, by go_num, upTo_step hrow, hbel.setCell (Nat.le_refl _) _⟩, by simp [intOf]; omega⟩
    · have e : k = n := by omega
      subst e
      go_wp2
      go_ret
      exact ⟨rfl, hrow, hbel⟩

/-- g1Clone, whatever comes in -/
theorem clone15 (a : Option Addr) (n c : Nat) (S : Nat → ByteArray) (w : World) (h : Strs w a n S) (ha : a = none → n = 0 ∧ c = 0) (hn : n ≤ 131072) :
    Calls Try.prog 15 #[.slice a n c] w fun e w' => ∃ a' c', e = .returned (.slice a' n c') ∧ Strs w' a' n S ∧ Below w.heap.size w w' := by
  cases a with
  | none =>
    obtain ⟨rfl, rfl⟩ := ha rfl
    refine (clone15_nil w).mono ?_
    rintro e w' ⟨rfl, rfl⟩
    exact ⟨_, _, rfl, .inl rfl, Below.refl _ _⟩
  | some a =>
    refine (clone15_some a n c S w h hn).mono ?_
    rintro e w' ⟨rfl, hrow, hb⟩
    refine ⟨_, _, rfl, .inr ⟨_, _, rfl, fun i hi => ?_⟩, hb⟩
    rw [Nat.zero_add, hrow.cell hi]
    simp [upTo, hi]

/-- n strings, as cells -/
def strVals (S : Nat → ByteArray) (n : Nat) : List Value := (List.range n).map fun i => .string (S i)

theorem strVals_succ (S : Nat → ByteArray) (n : Nat) : strVals S n ++ [.string (S n)] = strVals S (n + 1) := by simp [strVals, List.range_succ]
theorem strVals_len (S : Nat → ByteArray) (n : Nat) : (strVals S n).length = n := by simp [strVals]

theorem strVals_at (S1 S2 : Nat → ByteArray) {n1 n2 i : Nat} (hi : i < n1 + n2) : (strVals S1 n1 ++ strVals S2 n2)[i]? = some (.string (if i < n1 then S1 i else S2 (i - n1))) := by
  by_cases h : i < n1
  · rw [List.getElem?_append_left (by rw [strVals_len]; exact h), if_pos h]
    simp [strVals, h]
  · rw [List.getElem?_append_right (by rw [strVals_len]; omega), if_neg h, strVals_len]
    simp [strVals, show i - n1 < n2 by omega]

theorem concat16 (a1 a2 : Option Addr) (n1 c1 n2 c2 : Nat) (S1 S2 : Nat → ByteArray) (w : World) (h1 : Strs w a1 n1 S1) (h2 : Strs w a2 n2 S2) (hn1 : n1 ≤ 65536) (hn2 : n2 ≤ 65536) :
    Calls Try.prog 16 #[.slice a1 n1 c1, .slice a2 n2 c2] w fun e w' => ∃ a' c', e = .returned (.slice a' (n1 + n2) c') ∧ Strs w' a' (n1 + n2) (fun i => if i < n1 then S1 i else S2 (i - n1)) ∧ Below w.heap.size w w' := by
  obtain ⟨i0, hi, hz0, hz1, hz2⟩ := info_parts info9
  go_enter Try.func16, Try.ntmps16
  go_wp2_with (at_make; refine wpList_make_own _ rfl _ _ 36 rfl w.heap.size 9 i0 (.string ⟨#[]⟩) 1 Try.underlying36 hi hz0 hz1 .i64 .i64 _ (n1 + n2) rfl rfl (by omega) (by rw [hz2]; omega) (by unfold maxLen; omega) (Nat.le_refl _) ?_; intro w0 hown0 hgrow0)
  go_loopw [5, 6] (fun o i wr => ∃ k : Nat, k ≤ n1 ∧ i = .int .i64 k ∧ o = .slice (some ⟨w.heap.size, 0, none⟩) k (n1 + n2) ∧ wr.ownsRow w.heap.size 9 1 (.slice (some ⟨w.heap.size, 0, none⟩) k (n1 + n2)) k (strVals S1 k) ∧ Below w.heap.size w wr) (fun _ i _ => n1 - (intOf i).toNat)
  case atStart => exact ⟨0, Nat.zero_le _, rfl, rfl, hown0, (Below.refl _ _).grown hgrow0 (Nat.le_refl _) (fun k hk => by cases hk)⟩
  case round =>
    obtain ⟨k, hk, rfl, rfl, hown, hbel⟩ := hrel
    by_cases hlt : k < n1
    · rcases h1 with h1 | ⟨b, off, rfl, hc⟩
      · omega
      have hck := hc k hlt
      have hck2 : wr.cell? ⟨b, off + k, none⟩ = some (.string (S1 k)) := by rw [hbel.cell (World.block_lt_of_cell? w _ hck)]; exact hck
      clear hc hck hown0 hgrow0
      go_wp2_with (at_builtin; refine wpList_append_fits _ rfl _ _ 36 rfl w.heap.size 9 i0 1 Try.underlying36 hi hz1 w.heap.size k (n1 + n2) (strVals S1 k) rfl (hown.alloc _) _ 1 1 [.string (S1 k)] rfl rfl (cell_one_new _ _ _) (by simp; rfl) (by omega) ?_; intro w1 hown1 hgrow1)
      exact ⟨⟨k + 1, by omega, by go_num, rfl, by rw [← strVals_succ]; exact hown1, (hbel.alloc hbel.size _).grown hgrow1 (by simp; have := hbel.size; omega) (fun k hk => by cases hk; exact Nat.le_refl _)⟩, by simp [intOf]; omega⟩
    · obtain rfl : k = n1 := by omega
      clear hown0 hgrow0 h1
      go_wp2_with fail
      go_loopw [5, 7] (fun o i wr => ∃ j : Nat, j ≤ n2 ∧ i = .int .i64 j ∧ o = .slice (some ⟨w.heap.size, 0, none⟩) (k + j) (k + n2) ∧ wr.ownsRow w.heap.size 9 1 (.slice (some ⟨w.heap.size, 0, none⟩) (k + j) (k + n2)) (k + j) (strVals S1 k ++ strVals S2 j) ∧ Below w.heap.size w wr) (fun _ i _ => n2 - (intOf i).toNat)
      case atStart => exact ⟨0, Nat.zero_le _, rfl, rfl, by simpa [strVals] using hown, hbel⟩
      case round =>
        clear hown hbel
        obtain ⟨j, hj, rfl, rfl, hown, hbel⟩ := hrel
        by_cases hlt : j < n2
        · rcases h2 with h2 | ⟨b, off, rfl, hc⟩
          · omega
          have hck := hc j hlt
          have hck2 : wr.cell? ⟨b, off + j, none⟩ = some (.string (S2 j)) := by rw [hbel.cell (World.block_lt_of_cell? w _ hck)]; exact hck
          clear hc hck
          go_wp2_with (at_builtin; refine wpList_append_fits _ rfl _ _ 36 rfl w.heap.size 9 i0 1 Try.underlying36 hi hz1 w.heap.size (k + j) (k + n2) (strVals S1 k ++ strVals S2 j) rfl (hown.alloc _) _ 1 1 [.string (S2 j)] rfl rfl (cell_one_new _ _ _) (by simp; rfl) (by omega) ?_; intro w1 hown1 hgrow1)
          exact ⟨⟨j + 1, by omega, by go_num, by rw [Nat.add_assoc], by rw [← strVals_succ, ← List.append_assoc]; exact hown1, (hbel.alloc hbel.size _).grown hgrow1 (by simp; have := hbel.size; omega) (fun k hk => by cases hk; exact Nat.le_refl _)⟩, by simp [intOf]; omega⟩
        · obtain rfl : j = n2 := by omega
          go_wp2
          go_ret
          refine ⟨_, _, rfl, .inr ⟨_, _, rfl, fun i hi => ?_⟩, hbel⟩
          rw [Nat.zero_add, hown.cellAt i (by omega)]
          exact strVals_at S1 S2 hi
end Go.Proofs.Qxb6003851a
