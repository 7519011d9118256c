/-
  Seat b6003856a. The small walks of the frontier laws; how the heap lies in memory.
-/
import Derived.Test.Qxb6003856aProg
import Derived.WalkKit
import Derived.WalkSpells
import Derived.WalkLawsBesides
import Derived.Below
import Derived.Outline
import Derived.RegionTactic
import Derived.ChangeAlike
import Derived.Deep.OwnRows
import Derived.Deep.QuietTactic
import Derived.BigQuiet
import Derived.Deep.MidRow
import Derived.Test.Qxb6003856aFKey
import Derived.Test.Qxb6003856aHeapPlain
namespace Go.Proofs.Qxb6003856a
open Go.ChangeShapes Go.WideShapes Go.RowKit
set_option linter.unusedVariables false

theorem run_store_float {P : Program} {w : World} {a : Addr} {m : Mode} (k : FloatKind) (n : Nat) : (store a (.float k n) m).run P w = stored P w a (.float k n) m := run_store P w a _ m rfl
attribute [local go_sem] run_store_float

/-- floats that are read -/
def Floats (w : World) (a : Option Addr) (n : Nat) (f : Nat → Nat) : Prop :=
  n = 0 ∨ ∃ b off, a = some ⟨b, off, none⟩ ∧ ∀ i, i < n → w.cell? ⟨b, off + i, none⟩ = some (.float .f64 (f i))

/-- no NaN -/
def Num (x : Nat) : Prop := FloatKind.f64.format.order x x = some .eq

/-- a bool that, where it is false, says that no NaN is among the first n -/
def NanRet (n : Nat) (f : Nat → Nat) (e : Ending) : Prop := ∃ r : Bool, e = .returned (.bool r) ∧ (r = false → ∀ i, i < n → Num (f i))

theorem nan13 (a : Option Addr) (n c : Nat) (f : Nat → Nat) (w : World) (h : Floats w a n f) (hn : n ≤ 1048576) :
    Calls Try.prog 13 #[.slice a n c] w fun e w' => NanRet n f e ∧ Below w.heap.size w w' := by
  go_enter Try.func13, Try.ntmps13
  go_wp2
  go_loopw [3] (fun i wr => ∃ k : Nat, i = .int .i64 k ∧ k ≤ n ∧ (∀ j, j < k → Num (f j)) ∧ Below w.heap.size w wr) (fun i _ => n - (intOf i).toNat)
  case atStart => exact ⟨0, rfl, Nat.zero_le _, (fun j hj => by omega), Below.refl _ _⟩
  case round =>
    obtain ⟨k, rfl, hk, hnum, hbel⟩ := hrel
    by_cases hlt : k < n
    · rcases h with h | ⟨b, off, ha, hc⟩
      · omega
      subst ha
      have hck := hc k hlt
      have hck2 : wr.cell? ⟨b, off + k, none⟩ = some (.float .f64 (f k)) := by rw [hbel.cell (World.block_lt_of_cell? w _ hck)]; exact hck
      have HN : Hid (∀ j, j < k → Num (f j)) := hnum
      clear hc hnum hck
      have hb1 : (k : Int) < (n : Int) := by omega
      go_wp2
      go_quiet (fail)
      go_wp2
      · go_ret
        exact ⟨⟨true, rfl, (fun h => by cases h)⟩, below_drewN hbel _⟩
      · refine ⟨⟨k + 1, by go_num, by omega, ?_, below_drewN hbel _⟩, by simp [intOf]; omega⟩
        intro j hj
        by_cases e : j = k
        · subst e
          have h : (FloatKind.f64.format.order (f j) (f j) != some Ordering.eq) = false := by assumption
          exact by simpa [Num] using h
        · exact HN.out j (by omega)
    · clear h
      go_wp2
      go_ret
      exact ⟨⟨false, rfl, fun _ i hi => hnum i (by omega)⟩, hbel⟩

theorem bound18 (x v : Nat) (w : World) :
    Calls Try.prog 18 #[.agg #[.float .f64 x, .pointer none, .pointer none, .int .i64 v]] w fun e w' => e = .returned (.float .f64 x) ∧ w' = w.alloc (.cells #[.float .f64 x, .pointer none, .pointer none, .int .i64 v] 39) := by
  go_enter Try.func18, Try.ntmps18
  go_wp2
  go_ret
  exact ⟨rfl, rfl⟩

theorem node17 (x v : Nat) (w : World) :
    Calls Try.prog 17 #[.agg #[.float .f64 x, .pointer none, .pointer none, .int .i64 v]] w fun e w' => e = .returned (.int .i64 v) ∧ w' = w.alloc (.cells #[.float .f64 x, .pointer none, .pointer none, .int .i64 v] 39) := by
  go_enter Try.func17, Try.ntmps17
  go_wp2
  go_ret
  exact ⟨rfl, rfl⟩

theorem reach23 (x v : Nat) (w : World) :
    Calls Try.prog 23 #[.float .f64 x, .int .i64 v] w fun e w' => e = .returned (.agg #[.float .f64 x, .pointer none, .pointer none, .int .i64 v]) ∧ Below w.heap.size w w' := by
  go_enter Try.func23, Try.ntmps23
  go_wp2
  exact bodyPost_ret (v := .agg #[.float .f64 x, .pointer none, .pointer none, .int .i64 v]) (by simp [results, Try.results23, go_sem]) rfl ⟨rfl, (Below.refl _ _).alloc (Nat.le_refl _) _⟩

theorem info25 : (Try.prog.info? 25).map (fun i => (i.zero, i.size, i.bytes)) = some (some (.float .f64 0), 1, 8) := by kernel_rfl

theorem nil29 (w : World) (a : Option Addr) (n c n' c' : Nat) : (binOp .eql 29 (.slice a n c) (.slice none n' c')).run Try.prog w = .ok (.bool a.isNone) w :=
  Lib.run_eql_slice_nil w _ _ a n c n' c' Try.underlying29

/-- the content of the copy after k rounds -/
def upToF (f : Nat → Nat) (k j : Nat) : Value := if j < k then .float .f64 (f j) else .float .f64 0

theorem upToF_step {t : TypeId} {w : World} {b n : Nat} {f : Nat → Nat} {k : Nat} (h : w.rowIs b t n (upToF f k)) : (w.setCell ⟨b, k, none⟩ (.float .f64 (f k))).rowIs b t n (upToF f (k + 1)) := by
  refine (h.set k (.float .f64 (f k))).congr fun j hj => ?_
  unfold upToF
  by_cases e : j = k
  · subst e; simp
  · rw [if_neg e]
    by_cases e2 : j < k
    · rw [if_pos e2, if_pos (by omega)]
    · rw [if_neg e2, if_neg (by omega)]

theorem copy14_nil (w : World) :
    Calls Try.prog 14 #[.slice none 0 0] w fun e w' => e = .returned (.slice none 0 0) ∧ w' = w := by
  have hq := nil29
  go_enter Try.func14, Try.ntmps14
  go_wp2
  go_ret
  exact ⟨rfl, rfl⟩

theorem copy14_some (a : Addr) (n c : Nat) (f : Nat → Nat) (w : World) (h : Floats w (some a) n f) (hn : n ≤ 1048576) :
    Calls Try.prog 14 #[.slice (some a) n c] w fun e w' => e = .returned (.slice (some ⟨w.heap.size, 0, none⟩) n n) ∧ w'.rowIs w.heap.size 25 n (upToF f n) ∧ Below w.heap.size w w' := by
  have hq := nil29
  have hmk := run_make_row' (P := Try.prog) 29 25 (.float .f64 0) 8 Try.underlying29 info25 rfl .i64 .i64 n (by omega) (by omega)
  go_enter Try.func14, Try.ntmps14
  go_wp2
  go_loopw [4] (fun i wr => ∃ k : Nat, k ≤ n ∧ i = .int .i64 k ∧ wr.rowIs w.heap.size 25 n (upToF f k) ∧ Below w.heap.size w wr) (fun i _ => n - (intOf i).toNat)
  case atStart => exact ⟨0, Nat.zero_le _, rfl, (World.rowIs_made _ _ _ _).congr (fun j _ => by simp [upToF]), (Below.refl _ _).alloc (Nat.le_refl _) _⟩
  case round =>
    obtain ⟨k, hk, rfl, hrow, hbel⟩ := hrel
    by_cases hlt : k < n
    · rcases h with h | ⟨b, off, ha, hc⟩
      · omega
      obtain rfl := Option.some.inj ha
      have hck := hc k hlt
      have hck2 : wr.cell? ⟨b, off + k, none⟩ = some (.float .f64 (f k)) := by rw [hbel.cell (World.block_lt_of_cell? w _ hck)]; exact hck
      have hfz := hrow.frozen k
      have hcl := hrow.cell hlt
      clear hc hq hmk
      obtain ⟨v, hv⟩ : ∃ v, upToF f k k = v := ⟨_, rfl⟩
      rw [hv] at hcl
      clear hv
      go_wp2
      exact ⟨⟨k + 1, by omega, by go_num, upToF_step hrow, hbel.setCell (Nat.le_refl _) _⟩, by simp [intOf]; omega⟩
    · have e : k = n := by omega
      subst e
      go_wp2
      go_ret
      exact ⟨rfl, hrow, hbel⟩

/-- zzCopyFloats -/
theorem copy14 (a : Option Addr) (n c : Nat) (f : Nat → Nat) (w : World) (h : Floats w a n f) (ha : a = none → n = 0 ∧ c = 0) (hn : n ≤ 1048576) :
    Calls Try.prog 14 #[.slice a n c] w fun e w' => ∃ a', e = .returned (.slice a' n n) ∧ Floats w' a' n f ∧ (∀ x, a' = some x → w.heap.size ≤ x.block ∧ x.block < w'.heap.size) ∧ Below w.heap.size w w' := by
  cases a with
  | none =>
    obtain ⟨rfl, rfl⟩ := ha rfl
    refine (copy14_nil w).mono ?_
    rintro e w' ⟨rfl, rfl⟩
    exact ⟨_, rfl, .inl rfl, (fun x hx => by cases hx), Below.refl _ _⟩
  | some a =>
    refine (copy14_some a n c f w h hn).mono ?_
    rintro e w' ⟨rfl, hrow, hb⟩
    refine ⟨_, rfl, .inr ⟨_, _, rfl, fun i hi => ?_⟩, ?_, hb⟩
    · rw [Nat.zero_add, hrow.cell hi]
      simp [upToF, hi]
    · intro x hx
      obtain rfl := Option.some.inj hx
      exact ⟨Nat.le_refl _, hrow.lt⟩

/-- a bool that, where it is true, says that the length is small -/
def SmallN (n : Nat) (e : Ending) : Prop := ∃ r : Bool, e = .returned (.bool r) ∧ (r = true → n ≤ 1048576)

theorem zz12 (a1 : Option Addr) (n c : Nat) (w : World) (hn : n ≤ maxLen) :
    Calls Try.prog 12 #[.slice a1 n c] w fun e w' => SmallN n e ∧ w' = w := by
  unfold maxLen at hn
  by_cases h1 : 1048576 < n
  · go_enter Try.func12, Try.ntmps12
    go_wp2
    go_ret
    exact ⟨⟨false, rfl, fun h => by cases h⟩, rfl⟩
  · go_enter Try.func12, Try.ntmps12
    go_wp2
    go_ret
    exact ⟨⟨true, rfl, fun _ => by omega⟩, rfl⟩

theorem zz19 (a1 : Option Addr) (n c : Nat) (w : World) (hn : n ≤ maxLen) :
    Calls Try.prog 19 #[.slice a1 n c] w fun e w' => SmallN n e ∧ w' = w := by
  unfold maxLen at hn
  by_cases h1 : 1048576 < n
  · go_enter Try.func19, Try.ntmps19
    go_wp2
    go_ret
    exact ⟨⟨false, rfl, fun h => by cases h⟩, rfl⟩
  · go_enter Try.func19, Try.ntmps19
    go_wp2
    go_ret
    exact ⟨⟨true, rfl, fun _ => by omega⟩, rfl⟩
end Go.Proofs.Qxb6003856a
