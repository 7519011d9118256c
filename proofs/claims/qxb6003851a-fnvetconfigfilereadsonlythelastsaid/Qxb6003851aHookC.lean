/-
  Seat b6003851a. The walk of the law FnVetConfigFileFindsAppendedConfig.
-/
import Derived.Test.Qxb6003851aHookB
namespace Go.Proofs.Qxb6003851a
open Go.ChangeShapes Go.WideShapes Go.RowKit

/-- WHAT THE WALK IS TOLD OF A []string THAT CAME IN -/
structure IsStrs (w : World) (a : Option Addr) (n c : Nat) (S : Nat → ByteArray) : Prop where
  strs : Strs w a n S
  nil : a = none → n = 0 ∧ c = 0
  len : n ≤ maxLen
  each : ∀ i, i < n → (S i).size ≤ maxLen

theorem isCfg_append (s : ByteArray) : isCfg (s ++ ⟨#[46, 99, 102, 103]⟩) = true := by
  have h4 : (⟨#[46, 99, 102, 103]⟩ : ByteArray).size = 4 := rfl
  have hs : (s ++ ⟨#[46, 99, 102, 103]⟩ : ByteArray).size = s.size + 4 := by rw [ByteArray.size_append, h4]
  rw [isCfg_yes _ (by omega), hs]
  have e : (s ++ ⟨#[46, 99, 102, 103]⟩ : ByteArray).extract (s.size + 4 - 4) (s.size + 4) = ⟨#[46, 99, 102, 103]⟩ := by
    rw [Nat.add_sub_cancel]
    exact ByteArray.extract_append_eq_right rfl rfl
  rw [e, ByteArray.toList_eq]
  rfl

theorem walk4 (a : Option Addr) (n c : Nat) (S : Nat → ByteArray) (st : ByteArray) (w : World) (h : IsStrs w a n c S) (hst : st.size ≤ maxLen) :
    Calls Try.prog 4 #[.slice a n c, .string st] w fun e w' => e = .returned (.bool true) ∧ Below w.heap.size w w' := by
  obtain ⟨h1, h2, h3, h4⟩ := h
  go_enter Try.func4, Try.ntmps4
  go_wp2_with fail
  refine (zz13 a n c S st w h1 h3 h4 hst).mono ?_
  rintro e w' ⟨⟨r, rfl⟩, rfl⟩
  cases r
  · go_wp2
    go_ret
    exact ⟨rfl, Below.refl _ _⟩
  · by_cases hb1 : 1048576 < st.size
    · go_wp2
      go_ret
      exact ⟨rfl, Below.refl _ _⟩
    by_cases hb2 : 65536 < n
    · go_wp2
      go_ret
      exact ⟨rfl, Below.refl _ _⟩
    go_wp2_with fail
    refine (bytes14 a n c S _ h1 h3 h4).mono ?_
    rintro e w' ⟨m, hm0, hm1, rfl, rfl⟩
    by_cases hb3 : 1048576 < m + st.size
    · go_wp2
      go_ret
      exact ⟨rfl, Below.refl _ _⟩
    go_wp2_with fail
    refine (clone15 a n c S _ h1 h2 (by omega)).mono ?_
    rintro e w1 ⟨a1, c1, rfl, hs1, hbel1⟩
    go_wp2_with fail
    have hX : isCfg (st ++ ⟨#[46, 99, 102, 103]⟩) = true := isCfg_append st
    have hXs : (st ++ ⟨#[46, 99, 102, 103]⟩ : ByteArray).size ≤ maxLen := by
      rw [ByteArray.size_append]
      have : (⟨#[46, 99, 102, 103]⟩ : ByteArray).size = 4 := rfl
      unfold maxLen
      omega
    generalize (st ++ ⟨#[46, 99, 102, 103]⟩ : ByteArray) = X at *
    refine (concat16 a1 _ n c1 1 1 S (fun _ => X) _ (hs1.below ((Below.refl _ _).alloc (Nat.le_refl _) _)) (.inr ⟨_, _, rfl, fun i hi => ?_⟩) (by omega) (by omega)).mono ?_
    · obtain rfl : i = 0 := by omega
      simp
    rintro e w2 ⟨a2, c2, rfl, hs2, hbel2⟩
    have hv : vet (n + 1) (fun i => if i < n then S i else X) = (X, true) := by simp [vet, hX]
    have hsz : ∀ i, i < n + 1 → ((fun i => if i < n then S i else X) i).size ≤ maxLen := by
      intro i hi
      show (if i < n then S i else X).size ≤ maxLen
      split
      · exact h4 i (by omega)
      · exact hXs
    go_wp2_with fail
    refine (vet17 a2 (n + 1) c2 _ _ hs2 (by omega) hsz).mono ?_
    rintro e w3 ⟨rfl, rfl⟩
    rw [hv]
    have hbel : Below w'.heap.size w' w3 := (hbel1.alloc hbel1.size _).trans (hbel2.mono (by simp; have := hbel1.size; omega))
    clear hv hsz hs2 hbel2 hs1 hbel1 h1 h2 h4 hX hXs
    go_wp2
    go_ret
    exact ⟨by simp, hbel⟩
end Go.Proofs.Qxb6003851a
