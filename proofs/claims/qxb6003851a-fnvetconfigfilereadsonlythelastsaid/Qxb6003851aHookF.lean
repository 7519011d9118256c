/-
  Seat b6003851a. The walk of the law FnVetConfigFileReadsOnlyTheLast.
-/
import Derived.Test.Qxb6003851aHookE
namespace Go.Proofs.Qxb6003851a
open Go.ChangeShapes Go.WideShapes Go.RowKit

theorem vet_concat0 (n1 : Nat) (S1 S2 : Nat → ByteArray) : vet (n1 + 0) (fun i => if i < n1 then S1 i else S2 (i - n1)) = vet n1 S1 := by
  unfold vet
  by_cases h : 0 < n1
  · simp [h, show n1 - 1 < n1 by omega]
  · simp [show n1 = 0 by omega]

theorem vet_concat (n1 k : Nat) (S1 S2 : Nat → ByteArray) : vet (n1 + (k + 1)) (fun i => if i < n1 then S1 i else S2 (i - n1)) = vet (k + 1) S2 := by
  unfold vet
  simp [show ¬ n1 + k < n1 by omega, show n1 + (k + 1) - 1 = n1 + k by omega, show 0 < n1 + (k + 1) by omega]

set_option maxHeartbeats 800000 in
theorem walk5 (a1 a2 : Option Addr) (n1 c1 n2 c2 : Nat) (S1 S2 : Nat → ByteArray) (w : World) (h1 : IsStrs w a1 n1 c1 S1) (h2 : IsStrs w a2 n2 c2 S2) :
    Calls Try.prog 5 #[.slice a1 n1 c1, .slice a2 n2 c2] w fun e w' => e = .returned (.bool true) ∧ Below w.heap.size w w' := by
  go_enter Try.func5, Try.ntmps5
  go_wp2_with fail
  refine (zz18 a1 a2 n1 c1 n2 c2 S1 S2 w h1 h2).mono ?_
  obtain ⟨p1, p2, p3, p4⟩ := h1
  obtain ⟨q1, q2, q3, q4⟩ := h2
  rintro e w' ⟨⟨r, rfl⟩, rfl⟩
  cases r
  · go_wp2
    go_ret
    exact ⟨rfl, Below.refl _ _⟩
  by_cases hb1 : 65536 < n1
  · go_wp2
    go_ret
    exact ⟨rfl, Below.refl _ _⟩
  by_cases hb2 : 65536 < n2
  · go_wp2
    go_ret
    exact ⟨rfl, Below.refl _ _⟩
  go_wp2_with fail
  refine (bytes14 a1 n1 c1 S1 _ p1 p3 p4).mono ?_
  rintro e w' ⟨m1, hm10, hm11, rfl, rfl⟩
  go_wp2_with fail
  refine (bytes14 a2 n2 c2 S2 _ q1 q3 q4).mono ?_
  rintro e w' ⟨m2, hm20, hm21, rfl, rfl⟩
  by_cases hb3 : 1048576 < m1 + m2
  · go_wp2
    go_ret
    exact ⟨rfl, Below.refl _ _⟩
  go_wp2_with fail
  refine (clone15 a1 n1 c1 S1 _ p1 p2 (by omega)).mono ?_
  rintro e w1 ⟨b1, d1, rfl, hs1, hbel1⟩
  go_wp2_with fail
  refine (clone15 a2 n2 c2 S2 _ (q1.below hbel1) q2 (by omega)).mono ?_
  rintro e w2 ⟨b2, d2, rfl, hs2, hbel2⟩
  have hs1' := hs1.below hbel2
  have hbel : Below w'.heap.size w' w2 := hbel1.trans (hbel2.mono hbel1.size)
  clear hs1 hbel1 hbel2 p1 q1 p2 q2
  go_wp2_with fail
  refine (vet17 b2 n2 d2 S2 _ hs2 (by omega) q4).mono ?_
  rintro e w3 ⟨rfl, rfl⟩
  by_cases h0 : n2 = 0
  · subst h0
    have hv : vet 0 S2 = (⟨#[]⟩, false) := by simp [vet]
    rw [hv]
    go_wp2_with fail
    refine (concat16 b1 b2 n1 d1 0 d2 S1 S2 _ hs1' hs2 (by omega) (by omega)).mono ?_
    rintro e w4 ⟨b4, d4, rfl, hs4, hbel4⟩
    have hs1'' := hs1'.below hbel4
    have hbel' : Below w'.heap.size w' w4 := hbel.trans (hbel4.mono hbel.size)
    clear hs1' hbel hbel4 hs2
    go_wp2_with fail
    refine (vet17 b4 (n1 + 0) d4 _ _ hs4 (by omega) ?_).mono ?_
    · intro i hi
      show (if i < n1 then S1 i else S2 (i - n1)).size ≤ maxLen
      rw [if_pos (by omega)]
      exact p4 i (by omega)
    rintro e w5 ⟨rfl, rfl⟩
    rw [vet_concat0]
    go_wp2_with fail
    refine (vet17 b1 n1 d1 _ _ hs1'' (by omega) p4).mono ?_
    rintro e w5 ⟨rfl, rfl⟩
    clear hv hs4 hs1'' p4 q4
    generalize (vet n1 S1).1 = x
    generalize (vet n1 S1).2 = y
    go_wp2
    go_ret
    exact ⟨by simp, hbel'⟩
  · obtain ⟨k, rfl⟩ : ∃ k, n2 = k + 1 := ⟨n2 - 1, by omega⟩
    have hv : vet (k + 1) S2 = if isCfg (S2 k) = true then (S2 k, true) else (⟨#[]⟩, false) := by simp [vet]
    have hk := q4 k (by omega)
    obtain ⟨hck⟩ : Nonempty (∃ b off, b2 = some ⟨b, off, none⟩ ∧ w3.cell? ⟨b, off + k, none⟩ = some (.string (S2 k))) := by
      rcases hs2 with h | ⟨b, off, hb, hc⟩
      · omega
      · exact ⟨b, off, hb, hc k (by omega)⟩
    obtain ⟨b, off, rfl, hck⟩ := hck
    by_cases hcf : isCfg (S2 k) = true
    · rw [hv, if_pos hcf]
      have Hv : Hid (vet (k + 1) S2 = (S2 k, true)) := by rw [if_pos hcf] at hv; exact hv
      clear hv
      generalize hX : S2 k = X at *
      clear hX
      go_wp2_with (go_at_call 19; refine (has19 X hk _).mono ?_; rintro e w' ⟨rfl, rfl⟩)
      refine (concat16 b1 (some ⟨b, off, none⟩) n1 d1 (k + 1) d2 S1 S2 _ hs1' hs2 (by omega) (by omega)).mono ?_
      rintro e w4 ⟨b4, d4, rfl, hs4, hbel4⟩
      have hbel' := hbel.trans (hbel4.mono hbel.size)
      clear hs1' hbel hbel4 hs2
      go_wp2_with fail
      refine (vet17 b4 (n1 + (k + 1)) d4 _ _ hs4 (by omega) ?_).mono ?_
      · intro i hi
        show (if i < n1 then S1 i else S2 (i - n1)).size ≤ maxLen
        split
        · exact p4 i (by omega)
        · exact q4 (i - n1) (by omega)
      rintro e w5 ⟨rfl, rfl⟩
      rw [vet_concat, Hv.out]
      clear hs4 p4 q4 Hv
      go_wp2
      go_ret
      exact ⟨by simp, hbel'⟩
    · rw [hv, if_neg hcf]
      have Hv : Hid (vet (k + 1) S2 = (⟨#[]⟩, false)) := by rw [if_neg hcf] at hv; exact hv
      clear hv
      generalize hX : S2 k = X at *
      clear hX
      go_wp2_with (go_at_call 19; refine (has19 X hk _).mono ?_; rintro e w' ⟨rfl, rfl⟩)
      refine (concat16 b1 (some ⟨b, off, none⟩) n1 d1 (k + 1) d2 S1 S2 _ hs1' hs2 (by omega) (by omega)).mono ?_
      rintro e w4 ⟨b4, d4, rfl, hs4, hbel4⟩
      have hbel' := hbel.trans (hbel4.mono hbel.size)
      clear hs1' hbel hbel4 hs2
      go_wp2_with fail
      refine (vet17 b4 (n1 + (k + 1)) d4 _ _ hs4 (by omega) ?_).mono ?_
      · intro i hi
        show (if i < n1 then S1 i else S2 (i - n1)).size ≤ maxLen
        split
        · exact p4 i (by omega)
        · exact q4 (i - n1) (by omega)
      rintro e w5 ⟨rfl, rfl⟩
      rw [vet_concat, Hv.out]
      clear hs4 p4 q4 Hv
      go_wp2
      go_ret
      exact ⟨by simp, hbel'⟩
end Go.Proofs.Qxb6003851a
