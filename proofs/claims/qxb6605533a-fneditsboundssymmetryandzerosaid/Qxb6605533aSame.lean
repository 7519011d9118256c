/-
  Seat b6605533a. The small walks: sameRunes, the bounds on lengths.
-/
import Derived.Test.Qxb6605533aRunes
namespace Go.Proofs.Qxb6605533a
open Go.ChangeShapes Go.WideShapes Go.RowKit
set_option linter.unusedVariables false

/-- a call that returned some bool -/
def SomeBool (e : Ending) : Prop := ∃ r : Bool, e = .returned (.bool r)
theorem SomeBool.mk (r : Bool) : SomeBool (.returned (.bool r)) := ⟨r, rfl⟩

theorem zz5 (a b : ByteArray) (w : World) (ha : a.size ≤ maxLen) (hb : b.size ≤ maxLen) :
    Calls Try.prog 5 #[.string a, .string b] w fun e w' => SomeBool e ∧ w' = w := by
  unfold maxLen at ha hb
  by_cases h1 : 1048576 < a.size
  · go_enter Try.func5, Try.ntmps5
    go_wp2
    go_ret
    exact ⟨SomeBool.mk _, rfl⟩
  by_cases h2 : 1048576 < b.size
  · go_enter Try.func5, Try.ntmps5
    go_wp2
    go_ret
    exact ⟨SomeBool.mk _, rfl⟩
  by_cases h3 : 1048576 < a.size + b.size
  · go_enter Try.func5, Try.ntmps5
    go_wp2
    go_ret
    exact ⟨SomeBool.mk _, rfl⟩
  · go_enter Try.func5, Try.ntmps5
    go_wp2
    go_ret
    exact ⟨SomeBool.mk _, rfl⟩

theorem zz8 (a b : ByteArray) (w : World) (ha : a.size ≤ maxLen) (hb : b.size ≤ maxLen) :
    Calls Try.prog 8 #[.string a, .string b] w fun e w' => SomeBool e ∧ w' = w := by
  unfold maxLen at ha hb
  by_cases h1 : 1048576 < a.size
  · go_enter Try.func8, Try.ntmps8
    go_wp2
    go_ret
    exact ⟨SomeBool.mk _, rfl⟩
  by_cases h2 : 1048576 < b.size
  · go_enter Try.func8, Try.ntmps8
    go_wp2
    go_ret
    exact ⟨SomeBool.mk _, rfl⟩
  by_cases h3 : 1048576 < a.size + b.size
  · go_enter Try.func8, Try.ntmps8
    go_wp2
    go_ret
    exact ⟨SomeBool.mk _, rfl⟩
  · go_enter Try.func8, Try.ntmps8
    go_wp2
    go_ret
    exact ⟨SomeBool.mk _, rfl⟩

/-- a bool that says whether the first n of f are the first m of g -/
def SameRet (n m : Nat) (f g : Nat → Int) (e : Ending) : Prop := ∃ r : Bool, e = .returned (.bool r) ∧ (r = true ↔ n = m ∧ ∀ k, k < n → f k = g k)

theorem same7 (b1 n c1 b2 m c2 : Nat) (f g : Nat → Int) (w : World) (h1 : RunesAt w b1 n f) (h2 : RunesAt w b2 m g) (hn : n ≤ 1048576) (hm : m ≤ 1048576) (hb1 : b1 < w.heap.size) (hb2 : b2 < w.heap.size) :
    Calls Try.prog 7 #[.slice (some ⟨b1, 0, none⟩) n c1, .slice (some ⟨b2, 0, none⟩) m c2] w fun e w' => SameRet n m f g e ∧ Below w.heap.size w w' := by
  by_cases hne : n = m
  · subst hne
    have hd : ((n : Int) != (n : Int)) = false := by simp
    go_enter Try.func7, Try.ntmps7
    go_wp2_with fail
    go_loopw [5] (fun iv wr => ∃ k : Nat, iv = .int .i64 k ∧ k ≤ n ∧ (∀ j, j < k → f j = g j) ∧ Below w.heap.size w wr) (fun iv _ => n - (intOf iv).toNat)
    case atStart => exact ⟨0, rfl, Nat.zero_le _, (fun j hj => by omega), Below.refl _ _⟩
    case round =>
      obtain ⟨k, rfl, hk, hsame, hbel⟩ := hrel
      by_cases hlt : k < n
      · have x1 := (h1.below hbel hb1) k hlt
        have x2 := (h2.below hbel hb2) k hlt
        have hi : (k : Int) < (n : Int) := by omega
        have HS : Hid (∀ j, j < k → f j = g j) := hsame
        clear hsame h1 h2
        by_cases he : f k = g k
        · have hb : (f k != g k) = false := by simp [he]
          have HE : Hid (f k = g k) := he
          clear he
          go_wp2_with fail
          go_quiet (fail)
          go_wp2_with fail
          refine ⟨⟨k + 1, by go_num, by omega, fun j hj => ?_, below_drewN hbel _⟩, by simp [intOf]; omega⟩
          by_cases e : j = k
          · subst e; exact HE.out
          · exact HS.out j (by omega)
        · have hb : (f k != g k) = true := by simpa using he
          go_wp2_with fail
          go_quiet (fail)
          go_wp2
          go_ret
          exact ⟨⟨false, rfl, ⟨(fun h => by cases h), (fun h => absurd (h.2 k hlt) he)⟩⟩, below_drewN hbel _⟩
      · clear h1 h2
        go_wp2
        go_ret
        exact ⟨⟨true, rfl, ⟨fun _ => ⟨rfl, fun j hj => hsame j (by omega)⟩, fun _ => rfl⟩⟩, hbel⟩
  · have hd : ((n : Int) != (m : Int)) = true := by simp; omega
    clear h1 h2
    go_enter Try.func7, Try.ntmps7
    go_wp2
    go_ret
    exact ⟨⟨false, rfl, ⟨(fun h => by cases h), (fun h => absurd h.1 hne)⟩⟩, Below.refl _ _⟩
end Go.Proofs.Qxb6605533a
