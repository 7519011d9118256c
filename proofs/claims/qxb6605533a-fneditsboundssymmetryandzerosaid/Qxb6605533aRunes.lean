/-
  Seat b6605533a. A string's runes, as a list; '[]rune(s)' in the walk's form.
-/
import Derived.Test.Qxb6605533aProg
import Derived.WalkKit
import Derived.WalkSpells
import Derived.WalkLawsBesides
import Derived.Below
import Derived.Outline
import Derived.RegionTactic
import Derived.ChangeAlike
import Derived.Deep.OwnRows
import Derived.Deep.QuietTactic
import Derived.BigQuiet
import Derived.Laws.IdiomStrings
import Derived.Laws.Cover4
import Derived.Test.Qxb6605533aOsa
namespace Go.Proofs.Qxb6605533a
open Go.ChangeShapes Go.WideShapes Go.RowKit
set_option linter.unusedVariables false

/-- the runes of s from place i on -/
def runesL (s : ByteArray) : (bound i : Nat) → List Int
  | 0, _ => []
  | bound + 1, i => if i < s.size then (Int.ofNat (Utf8.decode s i).1) :: runesL s bound (i + (Utf8.decode s i).2) else []

theorem runesFrom_eq (s : ByteArray) : ∀ (bound i : Nat) (acc : Array Value), Conv.runesFrom s bound i acc = acc ++ ((runesL s bound i).map (Value.int .i32)).toArray
  | 0, _, acc => by simp [Conv.runesFrom, runesL]
  | bound + 1, i, acc => by
    unfold Conv.runesFrom runesL
    split
    · show Conv.runesFrom s bound (i + (Utf8.decode s i).2) (acc.push (.int .i32 (Int.ofNat (Utf8.decode s i).1))) = _
      rw [runesFrom_eq s bound]
      simp
    · simp

/-- the runes of s -/
def rn (s : ByteArray) : List Int := runesL s s.size 0
/-- how many -/
def rl (s : ByteArray) : Nat := (rn s).length
/-- the i-th -/
def rf (s : ByteArray) (i : Nat) : Int := (rn s).getD i 0

theorem rl_le (s : ByteArray) : rl s ≤ s.size := by
  have h := size_runesFrom s s.size 0 #[]
  rw [runesFrom_eq] at h
  simpa [rl, rn] using h

theorem runes_arr (s : ByteArray) : Conv.runesFrom s s.size 0 #[] = ((rn s).map (Value.int .i32)).toArray := by
  rw [runesFrom_eq]
  simp [rn]

/-- the world behind '[]rune(s)' -/
def newR (w : World) (s : ByteArray) : World :=
  w.drew.alloc (.cells (((rn s).map (Value.int .i32)).toArray ++ Array.replicate (grownCap w (rl s) 0 21 - rl s) (.int .i32 0)) 21)
/-- the capacity that was drawn -/
def capR (w : World) (s : ByteArray) : Nat := grownCap w (rl s) 0 21

theorem run_runes (s : ByteArray) (hs : s.size ≤ 1048576) (w : World) :
    (convert 9 23 (.string s)).run Try.prog w = .ok (.slice (some ⟨w.heap.size, 0, none⟩) (rl s) (capR w s)) (newR w s) := by
  have hl := rl_le s
  have e : (Conv.runesFrom s s.size 0 #[]).size = rl s := by rw [runes_arr]; simp [rl]
  rw [run_runes_of_string (P := Try.prog) w 9 23 21 s Try.underlying9 Try.underlying23 Try.underlying21 (by rw [e]; omega), e, runes_arr]
  rfl

/-- runes that are read -/
def RunesAt (w : World) (b n : Nat) (f : Nat → Int) : Prop := ∀ i, i < n → w.cell? ⟨b, i, none⟩ = some (.int .i32 (f i))

theorem RunesAt.below {w w' : World} {b n B : Nat} {f : Nat → Int} (h : RunesAt w b n f) (hb : Below B w w') (hB : b < B) : RunesAt w' b n f := fun i hi => by
  rw [hb.cell (p := ⟨b, i, none⟩) hB]; exact h i hi

theorem newR_spec (w : World) (s : ByteArray) : RunesAt (newR w s) w.heap.size (rl s) (rf s) ∧ Below w.heap.size w (newR w s) ∧ (newR w s).heap.size = w.heap.size + 1 := by
  refine ⟨fun i hi => ?_, ((Below.refl _ _).drew).alloc (Nat.le_refl _) _, by simp [newR]⟩
  have hb : (newR w s).heap[w.heap.size]? = some (.cells (((rn s).map (Value.int .i32)).toArray ++ Array.replicate (grownCap w (rl s) 0 21 - rl s) (.int .i32 0)) 21) := heap_alloc_new w.drew _
  rw [cell_of_row _ _ _ _ _ _ hb, Array.getElem?_append_left (by simpa [rl] using hi)]
  have hi' : i < (rn s).length := hi
  simp [rf, hi', List.getD]

theorem newR_cap (w : World) (s : ByteArray) : rl s ≤ capR w s := grownCap_ge w (rl s) 0 21
end Go.Proofs.Qxb6605533a
