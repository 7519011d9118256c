/-
  Seat b6003851a. What a row's reading of a []string hands to the walk.
-/
import Derived.Test.Qxb6003851aRows
import Derived.Test.Qxb6003851aHookC
import Derived.ProofKit
import Derived.OpenShut
import Derived.ShutString
import Derived.ChangeOld
import Derived.Deep.Strs
namespace Go.Proofs.Qxb6003851a
open Go.ChangeShapes Go.WideShapes Go.ChangeAt Go.RowKit
open Go.ChangeMaps (open_string shut_string)
set_option linter.unusedVariables false

theorem own : ownKnob Try.prog.godebug = none := by kernel_rfl
theorem laidOut : laidOutB Try.prog = true := by kernel_rfl
theorem cells9 : Try.prog.cellsOf 9 = 1 := by kernel_rfl

theorem open_is {H : Type} {enc : TypeId × Value → H} {W : World} {a : Option Addr} {n c : Nat} {d : DataW H} {p : List MemPlace}
    (h : DataW.Trod enc Try.prog W 0 (fun _ => true) true 36 (.slice a n c) d p) : ∃ S, IsStrs W a n c S := by
  obtain ⟨fuel, hf⟩ := h
  rcases Deep.open_strs Try.underlying36 Try.underlying9 cells9 hf with ⟨hcs, _⟩ | ⟨x, l, c', m, Sx, hcs, _, hl, hm, hmm, _, hcell⟩
  · simp [Value.cells] at hcs
    obtain ⟨rfl, rfl, rfl⟩ := hcs
    exact ⟨fun _ => ⟨#[]⟩, .inl rfl, fun _ => ⟨rfl, rfl⟩, by simp [maxLen], fun i hi => by omega⟩
  · simp [Value.cells] at hcs
    obtain ⟨rfl, rfl, rfl⟩ := hcs
    simp only [if_true] at hmm
    subst hmm
    refine ⟨Sx, ?_, (fun h => by cases h), Nat.le_trans hl hm, fun i hi => (hcell i (by omega)).2⟩
    by_cases h0 : n = 0
    · exact .inl h0
    · obtain ⟨b, off, spot⟩ := x
      have hspot : spot = none := by simpa [Addr.add] using World.cell?_spot (hcell 0 (by omega)).1
      subst hspot
      exact .inr ⟨b, off, rfl, fun i hi => by rw [← add_plain]; exact (hcell i (by omega)).1⟩

end Go.Proofs.Qxb6003851a
