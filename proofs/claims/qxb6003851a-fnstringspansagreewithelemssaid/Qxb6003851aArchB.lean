/-
  Seat b6003851a. Walks of the archive package: elem.
-/
import Derived.Test.Qxb6003851aArchA
namespace Go.Proofs.Qxb6003851a
open Go.ChangeShapes Go.WideShapes Go.RowKit
set_option linter.unusedVariables false

/-- where element i begins -/
def stN (F : Nat → Nat) (i : Nat) : Nat := if i = 0 then 0 else F (i - 1)

/-- what comes back: k bytes g, nothing old turned -/
def BytesRet (w : World) (k : Nat) (g : Nat → Int) (e : Ending) (w' : World) : Prop := ∃ a' c', e = .returned (.slice a' k c') ∧ Ints .u8 w' a' k g ∧ Below w.heap.size w w'

theorem Ints.sub {k : IntKind} {w : World} {a : Option Addr} {m : Nat} {g : Nat → Int} (h : Ints k w a m g) (s l : Nat) (hl : s + l ≤ m) : Ints k w (a.map fun x => x.add s) l (fun t => g (s + t)) := by
  by_cases h0 : l = 0
  · exact .inl h0
  rcases h with h | ⟨b, off, rfl, hc⟩
  · omega
  · refine .inr ⟨b, off + s, by simp [add_plain], fun i hi => ?_⟩
    rw [Nat.add_assoc]
    exact hc (s + i) (by omega)

theorem Ints.upTo {k : IntKind} {w : World} {a : Option Addr} {m : Nat} {g : Nat → Int} (h : Ints k w a m g) (l : Nat) (hl : l ≤ m) : Ints k w a l g := by
  by_cases h0 : l = 0
  · exact .inl h0
  rcases h with h | ⟨b, off, rfl, hc⟩
  · omega
  · exact .inr ⟨b, off, rfl, fun i hi => hc i (by omega)⟩

theorem elem23 (p : Nat) (a1 a2 : Option Addr) (n c m d i : Nat) (F : Nat → Nat) (g : Nat → Int) (w : World)
    (hp1 : w.cell? ⟨p, 11, none⟩ = some (.slice a1 n c)) (hp2 : w.cell? ⟨p, 12, none⟩ = some (.slice a2 m d))
    (h1 : Ints .u32 w a1 n (fun i => (F i : Int))) (hn : n ≤ 1048576) (h2 : Ints .u8 w a2 m g) (hm : m ≤ 1048576) (hmd : m ≤ d) (hd : d ≤ 1048576)
    (ha2 : a2 = none → m = 0 ∧ d = 0) (hi : i < n) (hS : stN F i ≤ F i) (hE : F i ≤ m) :
    Calls Try.prog 23 #[.pointer (some ⟨p, 0, none⟩), .int .u32 i] w fun e w' => BytesRet w (F i - stN F i) (fun t => g (stN F i + t)) e w' := by
  rcases h1 with h1 | ⟨b, off, rfl, hc⟩
  · omega
  have hci : w.cell? ⟨b, off + i, none⟩ = some (.int .u32 (F i : Int)) := hc i hi
  have hni : (i : Int) < (n : Int) := by omega
  by_cases h0 : i = 0
  · subst h0
    clear hc
    generalize hF0 : F 0 = F0 at *
    have hs0 : stN F 0 = 0 := rfl
    rw [hs0] at hS ⊢
    clear hs0 hF0
    have hE1 : (F0 : Int) ≤ (d : Int) := by omega
    rw [Nat.add_zero] at hci
    go_enter Try.func23, Try.ntmps23
    go_wp2
    go_quiet (fail)
    go_wp2
    go_ret
    refine ⟨_, _, rfl, ?_, below_drewN (Below.refl _ _) _⟩
    simp only [Nat.zero_add]
    exact (h2.upTo F0 hE).below (below_drewN (Below.refl _ _) _)
  · obtain ⟨j, rfl⟩ : ∃ j, i = j + 1 := ⟨i - 1, by omega⟩
    have hcj : w.cell? ⟨b, off + j, none⟩ = some (.int .u32 (F j : Int)) := hc j (by omega)
    have hsj : stN F (j + 1) = F j := by simp [stN]
    rw [hsj] at hS ⊢
    clear hsj hc
    generalize F (j + 1) = F1 at *
    generalize F j = F0 at *
    have hE1 : (F1 : Int) ≤ (d : Int) := by omega
    have hE0 : (F0 : Int) ≤ (F1 : Int) := by omega
    have hnj : (j : Int) < (n : Int) := by omega
    go_enter Try.func23, Try.ntmps23
    go_wp2
    go_quiet (fail)
    go_wp2
    · go_ret
      exact ⟨_, _, rfl, .inl (by omega), below_drewN (Below.refl _ _) _⟩
    · go_ret
      refine ⟨_, _, rfl, ?_, below_drewN (Below.refl _ _) _⟩
      exact (h2.sub F0 (F1 - F0) (by omega)).below (below_drewN (Below.refl _ _) _)

/-- ZZElem -/
theorem elem12 (a1 a2 : Option Addr) (n c m d i : Nat) (F : Nat → Nat) (g : Nat → Int) (w : World)
    (h1 : Ints .u32 w a1 n (fun i => (F i : Int))) (hn : n ≤ 1048576) (h2 : Ints .u8 w a2 m g) (hm : m ≤ 1048576) (hmd : m ≤ d) (hd : d ≤ 1048576)
    (ha2 : a2 = none → m = 0 ∧ d = 0) (hi : i < n) (hS : stN F i ≤ F i) (hE : F i ≤ m) :
    Calls Try.prog 12 #[.slice a1 n c, .slice a2 m d, .int .u32 i] w fun e w' => BytesRet w (F i - stN F i) (fun t => g (stN F i + t)) e w' := by
  go_enter Try.func12, Try.ntmps12
  go_wp2_with fail
  refine (elem23 _ a1 a2 n c m d i F g _ ?_ ?_ (h1.below ((Below.refl _ _).alloc (Nat.le_refl _) _)) hn (h2.below ((Below.refl _ _).alloc (Nat.le_refl _) _)) hm hmd hd ha2 hi hS hE).mono ?_
  · simp
  · simp
  rintro e w1 ⟨a', c', rfl, hI, hb⟩
  have hbel := ((Below.refl w.heap.size w).alloc (Nat.le_refl _) _).trans (hb.mono (by simp))
  clear h1 h2 hb ha2
  go_wp2
  go_ret
  exact ⟨_, _, rfl, hI, hbel⟩
end Go.Proofs.Qxb6003851a
