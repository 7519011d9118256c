/-
  Seat b6003851a. Walks of the archive package: the copies, nonDecreasing, lastOr0.
-/
import Derived.Test.Qxb6003851aProg
import Derived.WalkKit
import Derived.WalkSpells
import Derived.WalkLawsBesides
import Derived.Below
import Derived.Outline
import Derived.RegionTactic
import Derived.ChangeAlike
import Derived.Deep.OwnRows
import Derived.Deep.QuietTactic
import Derived.BigQuiet
namespace Go.Proofs.Qxb6003851a
open Go.ChangeShapes Go.WideShapes Go.RowKit

/-- WHAT A SLICE OF INTEGERS THAT IS READ LOOKS LIKE: it is empty; or its cells hold the numbers f. -/
def Ints (k : IntKind) (w : World) (a : Option Addr) (n : Nat) (f : Nat → Int) : Prop :=
  n = 0 ∨ ∃ b off, a = some ⟨b, off, none⟩ ∧ ∀ i, i < n → w.cell? ⟨b, off + i, none⟩ = some (.int k (f i))

theorem Ints.below {k : IntKind} {w w' : World} {a : Option Addr} {n : Nat} {f : Nat → Int} (h : Ints k w a n f) (hb : Below w.heap.size w w') : Ints k w' a n f := by
  rcases h with h | ⟨b, off, ha, hc⟩
  · exact .inl h
  · refine .inr ⟨b, off, ha, fun i hi => ?_⟩
    have h0 := hc i hi
    rw [hb.cell (World.block_lt_of_cell? w _ h0)]
    exact h0

theorem info22 : (Try.prog.info? 22).map (fun i => (i.zero, i.size, i.bytes)) = some (some (.int .u32 0), 1, 4) := by kernel_rfl
theorem info5 : (Try.prog.info? 5).map (fun i => (i.zero, i.size, i.bytes)) = some (some (.int .u8 0), 1, 1) := by kernel_rfl

theorem nil23 (w : World) (a : Option Addr) (n c n' c' : Nat) : (binOp .eql 23 (.slice a n c) (.slice none n' c')).run Try.prog w = .ok (.bool a.isNone) w :=
  Lib.run_eql_slice_nil w _ _ a n c n' c' Try.underlying23
theorem nil24 (w : World) (a : Option Addr) (n c n' c' : Nat) : (binOp .eql 24 (.slice a n c) (.slice none n' c')).run Try.prog w = .ok (.bool a.isNone) w :=
  Lib.run_eql_slice_nil w _ _ a n c n' c' Try.underlying24

/-- the content of the copy after k rounds -/
def upToI (kd : IntKind) (f : Nat → Int) (k j : Nat) : Value := if j < k then .int kd (f j) else .int kd 0

theorem upToI_step {kd : IntKind} {t : TypeId} {w : World} {b n : Nat} {f : Nat → Int} {k : Nat} (h : w.rowIs b t n (upToI kd f k)) : (w.setCell ⟨b, k, none⟩ (.int kd (f k))).rowIs b t n (upToI kd f (k + 1)) := by
  refine (h.set k (.int kd (f k))).congr fun j hj => ?_
  unfold upToI
  by_cases e : j = k
  · subst e; simp
  · rw [if_neg e]
    by_cases e2 : j < k
    · rw [if_pos e2, if_pos (by omega)]
    · rw [if_neg e2, if_neg (by omega)]

theorem clone7_nil (w : World) :
    Calls Try.prog 7 #[.slice none 0 0] w fun e w' => e = .returned (.slice none 0 0) ∧ w' = w := by
  have hq := nil23
  go_enter Try.func7, Try.ntmps7
  go_wp2
  go_ret
  exact ⟨rfl, rfl⟩

theorem clone7_some (a : Addr) (n c : Nat) (f : Nat → Int) (w : World) (h : Ints .u32 w (some a) n f) (hn : n ≤ 1048576) :
    Calls Try.prog 7 #[.slice (some a) n c] w fun e w' => e = .returned (.slice (some ⟨w.heap.size, 0, none⟩) n n) ∧ w'.rowIs w.heap.size 22 n (upToI .u32 f n) ∧ Below w.heap.size w w' := by
  have hq := nil23
  have hmk := run_make_row' (P := Try.prog) 23 22 (.int .u32 0) 4 Try.underlying23 info22 rfl .i64 .i64 n (by omega) (by omega)
  go_enter Try.func7, Try.ntmps7
  go_wp2
  go_loopw [4] (fun i wr => ∃ k : Nat, k ≤ n ∧ i = .int .i64 k ∧ wr.rowIs w.heap.size 22 n (upToI .u32 f k) ∧ Below w.heap.size w wr) (fun i _ => n - (intOf i).toNat)
  case atStart => exact ⟨0, Nat.zero_le _, rfl, (World.rowIs_made _ _ _ _).congr (fun j _ => by simp [upToI]), (Below.refl _ _).alloc (Nat.le_refl _) _⟩
  case round =>
    obtain ⟨k, hk, rfl, hrow, hbel⟩ := hrel
    by_cases hlt : k < n
    · rcases h with h | ⟨b, off, ha, hc⟩
      · omega
      obtain rfl := Option.some.inj ha
      have hck := hc k hlt
      have hck2 : wr.cell? ⟨b, off + k, none⟩ = some (.int .u32 (f k)) := by rw [hbel.cell (World.block_lt_of_cell? w _ hck)]; exact hck
      have hfz := hrow.frozen k
      have hcl := hrow.cell hlt
      clear hc hq hmk
      obtain ⟨v, hv⟩ : ∃ v, upToI .u32 f k k = v := ⟨_, rfl⟩
      rw [hv] at hcl
      clear hv
      go_wp2
      exact ⟨⟨k + 1, by omega, by go_num, upToI_step hrow, hbel.setCell (Nat.le_refl _) _⟩, by simp [intOf]; omega⟩
    · have e : k = n := by omega
      subst e
      go_wp2
      go_ret
      exact ⟨rfl, hrow, hbel⟩

theorem clone8_nil (w : World) :
    Calls Try.prog 8 #[.slice none 0 0] w fun e w' => e = .returned (.slice none 0 0) ∧ w' = w := by
  have hq := nil24
  go_enter Try.func8, Try.ntmps8
  go_wp2
  go_ret
  exact ⟨rfl, rfl⟩

theorem clone8_some (a : Addr) (n c : Nat) (f : Nat → Int) (w : World) (h : Ints .u8 w (some a) n f) (hn : n ≤ 1048576) :
    Calls Try.prog 8 #[.slice (some a) n c] w fun e w' => e = .returned (.slice (some ⟨w.heap.size, 0, none⟩) n n) ∧ w'.rowIs w.heap.size 5 n (upToI .u8 f n) ∧ Below w.heap.size w w' := by
  have hq := nil24
  have hmk := run_make_row' (P := Try.prog) 24 5 (.int .u8 0) 1 Try.underlying24 info5 rfl .i64 .i64 n (by omega) (by omega)
  go_enter Try.func8, Try.ntmps8
  go_wp2
  go_loopw [4] (fun i wr => ∃ k : Nat, k ≤ n ∧ i = .int .i64 k ∧ wr.rowIs w.heap.size 5 n (upToI .u8 f k) ∧ Below w.heap.size w wr) (fun i _ => n - (intOf i).toNat)
  case atStart => exact ⟨0, Nat.zero_le _, rfl, (World.rowIs_made _ _ _ _).congr (fun j _ => by simp [upToI]), (Below.refl _ _).alloc (Nat.le_refl _) _⟩
  case round =>
    obtain ⟨k, hk, rfl, hrow, hbel⟩ := hrel
    by_cases hlt : k < n
    · rcases h with h | ⟨b, off, ha, hc⟩
      · omega
      obtain rfl := Option.some.inj ha
      have hck := hc k hlt
      have hck2 : wr.cell? ⟨b, off + k, none⟩ = some (.int .u8 (f k)) := by rw [hbel.cell (World.block_lt_of_cell? w _ hck)]; exact hck
      have hfz := hrow.frozen k
      have hcl := hrow.cell hlt
      clear hc hq hmk
      obtain ⟨v, hv⟩ : ∃ v, upToI .u8 f k k = v := ⟨_, rfl⟩
      rw [hv] at hcl
      clear hv
      go_wp2
      exact ⟨⟨k + 1, by omega, by go_num, upToI_step hrow, hbel.setCell (Nat.le_refl _) _⟩, by simp [intOf]; omega⟩
    · have e : k = n := by omega
      subst e
      go_wp2
      go_ret
      exact ⟨rfl, hrow, hbel⟩

theorem Ints_of_row {kd : IntKind} {t : TypeId} {w : World} {b n : Nat} {f : Nat → Int} (h : w.rowIs b t n (upToI kd f n)) : Ints kd w (some ⟨b, 0, none⟩) n f :=
  .inr ⟨b, 0, rfl, fun i hi => by rw [Nat.zero_add, h.cell hi]; simp [upToI, hi]⟩

theorem clone7 (a : Option Addr) (n c : Nat) (f : Nat → Int) (w : World) (h : Ints .u32 w a n f) (ha : a = none → n = 0 ∧ c = 0) (hn : n ≤ 1048576) :
    Calls Try.prog 7 #[.slice a n c] w fun e w' => ∃ a', e = .returned (.slice a' n n) ∧ Ints .u32 w' a' n f ∧ (a' = none → n = 0) ∧ Below w.heap.size w w' := by
  cases a with
  | none =>
    obtain ⟨rfl, rfl⟩ := ha rfl
    refine (clone7_nil w).mono ?_
    rintro e w' ⟨rfl, rfl⟩
    exact ⟨_, rfl, .inl rfl, fun _ => rfl, Below.refl _ _⟩
  | some a =>
    refine (clone7_some a n c f w h hn).mono ?_
    rintro e w' ⟨rfl, hrow, hb⟩
    exact ⟨_, rfl, Ints_of_row hrow, (fun h => by cases h), hb⟩

theorem clone8 (a : Option Addr) (n c : Nat) (f : Nat → Int) (w : World) (h : Ints .u8 w a n f) (ha : a = none → n = 0 ∧ c = 0) (hn : n ≤ 1048576) :
    Calls Try.prog 8 #[.slice a n c] w fun e w' => ∃ a', e = .returned (.slice a' n n) ∧ Ints .u8 w' a' n f ∧ (a' = none → n = 0) ∧ Below w.heap.size w w' := by
  cases a with
  | none =>
    obtain ⟨rfl, rfl⟩ := ha rfl
    refine (clone8_nil w).mono ?_
    rintro e w' ⟨rfl, rfl⟩
    exact ⟨_, rfl, .inl rfl, fun _ => rfl, Below.refl _ _⟩
  | some a =>
    refine (clone8_some a n c f w h hn).mono ?_
    rintro e w' ⟨rfl, hrow, hb⟩
    exact ⟨_, rfl, Ints_of_row hrow, (fun h => by cases h), hb⟩

/-- lastOr0 -/
def lastF (n : Nat) (f : Nat → Int) : Int := if n = 0 then 0 else f (n - 1)

theorem last21 (a : Option Addr) (n c : Nat) (f : Nat → Int) (w : World) (h : Ints .u32 w a n f) (hn : n ≤ 1048576) :
    Calls Try.prog 21 #[.slice a n c] w fun e w' => e = .returned (.int .u32 (lastF n f)) ∧ w' = w := by
  by_cases h0 : n = 0
  · subst h0
    go_enter Try.func21, Try.ntmps21
    go_wp2
    go_ret
    exact ⟨rfl, rfl⟩
  · rcases h with h | ⟨b, off, rfl, hc⟩
    · omega
    obtain ⟨k, rfl⟩ : ∃ k, n = k + 1 := ⟨n - 1, by omega⟩
    have hck := hc k (by omega)
    clear hc
    have HF : Hid (lastF (k + 1) f = f k) := by simp [Hid, lastF]
    go_enter Try.func21, Try.ntmps21
    go_wp2
    go_ret
    exact ⟨by rw [HF.out]; rfl, rfl⟩

theorem last10 (a : Option Addr) (n c : Nat) (f : Nat → Int) (w : World) (h : Ints .u32 w a n f) (hn : n ≤ 1048576) :
    Calls Try.prog 10 #[.slice a n c] w fun e w' => e = .returned (.int .u32 (lastF n f)) ∧ w' = w := by
  go_enter Try.func10, Try.ntmps10
  go_wp2_with fail
  refine (last21 a n c f w h hn).mono ?_
  rintro e w' ⟨rfl, rfl⟩
  go_wp2
  go_ret
  exact ⟨rfl, rfl⟩

/-- nonDecreasing -/
def Nd (n : Nat) (f : Nat → Int) : Prop := ∀ i, i + 1 < n → f i ≤ f (i + 1)

/-- a bool that, where it is true, says that the numbers do not decrease -/
def NdRet (n : Nat) (f : Nat → Int) (e : Ending) : Prop := ∃ r : Bool, e = .returned (.bool r) ∧ (r = true → Nd n f)

theorem nd20 (a : Option Addr) (n c : Nat) (f : Nat → Int) (w : World) (h : Ints .u32 w a n f) (hn : n ≤ 1048576) :
    Calls Try.prog 20 #[.slice a n c] w fun e w' => NdRet n f e ∧ Below w.heap.size w w' := by
  go_enter Try.func20, Try.ntmps20
  go_wp2
  go_loopw [3] (fun i wr => ∃ k : Nat, i = .int .i64 (k + 1) ∧ (k ≤ n) ∧ (∀ j, j < k → j + 1 < n → f j ≤ f (j + 1)) ∧ Below w.heap.size w wr) (fun i _ => n + 1 - (intOf i).toNat)
  case atStart => exact ⟨0, rfl, Nat.zero_le _, (fun j hj => by omega), Below.refl _ _⟩
  case round =>
    obtain ⟨k, rfl, hk, hnd, hbel⟩ := hrel
    by_cases hlt : k + 1 < n
    · rcases h with h | ⟨b, off, ha, hc⟩
      · omega
      subst ha
      have hck := hc k (by omega)
      have hck' := hc (k + 1) hlt
      have hck2 : wr.cell? ⟨b, off + k, none⟩ = some (.int .u32 (f k)) := by rw [hbel.cell (World.block_lt_of_cell? w _ hck)]; exact hck
      have hck3 : wr.cell? ⟨b, off + (k + 1), none⟩ = some (.int .u32 (f (k + 1))) := by rw [hbel.cell (World.block_lt_of_cell? w _ hck')]; exact hck'
      have HN : Hid (∀ j, j < k → j + 1 < n → f j ≤ f (j + 1)) := hnd
      clear hc hnd hck hck'
      have hb1 : (k : Int) + 1 < (n : Int) := by omega
      have hb2 : (k : Int) < (n : Int) := by omega
      go_wp2
      go_quiet (fail)
      go_wp2
      · go_ret
        exact ⟨⟨false, rfl, (fun h => by cases h)⟩, below_drewN hbel _⟩
      · refine ⟨⟨k + 1, by go_num, by omega, ?_, below_drewN hbel _⟩, by simp [intOf]; omega⟩
        intro j hj hj2
        by_cases e : j = k
        · subst e; assumption
        · exact HN.out j (by omega) hj2
    · clear h
      go_wp2
      go_ret
      exact ⟨⟨true, rfl, fun _ i hi => hnd i (by omega) hi⟩, hbel⟩

theorem nd9 (a : Option Addr) (n c : Nat) (f : Nat → Int) (w : World) (h : Ints .u32 w a n f) (hn : n ≤ 1048576) :
    Calls Try.prog 9 #[.slice a n c] w fun e w' => NdRet n f e ∧ Below w.heap.size w w' := by
  go_enter Try.func9, Try.ntmps9
  go_wp2_with fail
  refine (nd20 a n c f w h hn).mono ?_
  rintro e w' ⟨⟨r, rfl, hr⟩, hb⟩
  clear h
  go_wp2
  go_ret
  exact ⟨⟨r, rfl, hr⟩, hb⟩
end Go.Proofs.Qxb6003851a
