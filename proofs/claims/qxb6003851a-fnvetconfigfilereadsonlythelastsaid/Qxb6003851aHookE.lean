/-
  Seat b6003851a. The walk of the law FnVetConfigFileReadsOnlyTheLast.
-/
import Derived.Test.Qxb6003851aHookC
namespace Go.Proofs.Qxb6003851a
open Go.ChangeShapes Go.WideShapes Go.RowKit

theorem zz18 (a1 a2 : Option Addr) (n1 c1 n2 c2 : Nat) (S1 S2 : Nat → ByteArray) (w : World) (h1 : IsStrs w a1 n1 c1 S1) (h2 : IsStrs w a2 n2 c2 S2) :
    Calls Try.prog 18 #[.slice a1 n1 c1, .slice a2 n2 c2] w fun e w' => IsBool e ∧ w' = w := by
  obtain ⟨p1, _, p3, p4⟩ := h1
  obtain ⟨q1, _, q3, q4⟩ := h2
  unfold maxLen at p3 p4 q3 q4
  by_cases hb1 : 1048576 < n1
  · go_enter Try.func18, Try.ntmps18
    go_wp2
    go_ret
    exact ⟨IsBool.mk _, rfl⟩
  · go_enter Try.func18, Try.ntmps18
    go_wp2
    go_loop [5, 6] (fun t i => ∃ (k : Nat) (m : Int), k ≤ n1 ∧ i = .int .i64 k ∧ t = .int .i64 m ∧ 0 ≤ m ∧ m ≤ 1048576) (fun _ i => n1 - (intOf i).toNat)
    case atStart => exact ⟨0, _, Nat.zero_le _, rfl, rfl, by omega, by omega⟩
    case round =>
      obtain ⟨k, m, hk, rfl, rfl, hm0, hm1⟩ := hrel
      by_cases hlt : k < n1
      · rcases p1 with h | ⟨b, off, rfl, hc⟩
        · omega
        have hck := hc k hlt
        have hSk := p4 k hlt
        clear hc p4 q1 q4
        generalize S1 k = sk at *
        go_wp2
        · go_ret
          exact ⟨IsBool.mk _, rfl⟩
        · go_ret
          exact ⟨IsBool.mk _, rfl⟩
        · exact ⟨⟨k + 1, _, by omega, by go_num, rfl, by omega, by omega⟩, by simp [intOf]; omega⟩
      · clear p1 p4
        by_cases hb2 : 1048576 < n2
        · go_wp2
          go_ret
          exact ⟨IsBool.mk _, rfl⟩
        by_cases hb3 : 1048576 < m + n2
        · go_wp2
          go_ret
          exact ⟨IsBool.mk _, rfl⟩
        go_wp2
        go_loop [5, 7] (fun t i => ∃ (k : Nat) (m : Int), k ≤ n2 ∧ i = .int .i64 k ∧ t = .int .i64 m ∧ 0 ≤ m ∧ m ≤ 1048576) (fun _ i => n2 - (intOf i).toNat)
        case atStart => exact ⟨0, _, Nat.zero_le _, rfl, rfl, by omega, by omega⟩
        case round =>
          obtain ⟨j, m, hj, rfl, rfl, hm0, hm1⟩ := hrel
          by_cases hlt : j < n2
          · rcases q1 with h | ⟨b, off, rfl, hc⟩
            · omega
            have hck := hc j hlt
            have hSk := q4 j hlt
            clear hc q4
            generalize S2 j = sk at *
            go_wp2
            · go_ret
              exact ⟨IsBool.mk _, rfl⟩
            · go_ret
              exact ⟨IsBool.mk _, rfl⟩
            · exact ⟨⟨j + 1, _, by omega, by go_num, rfl, by omega, by omega⟩, by simp [intOf]; omega⟩
          · clear q1 q4
            go_wp2
            go_ret
            exact ⟨IsBool.mk _, rfl⟩
end Go.Proofs.Qxb6003851a
