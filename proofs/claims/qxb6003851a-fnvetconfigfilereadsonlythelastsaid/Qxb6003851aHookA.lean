/-
  Seat b6003851a. Walks of the hook package: vetConfigFile and its helpers.
-/
import Derived.Test.Qxb6003851aProg
import Derived.WalkKit
import Derived.WalkSpells
import Derived.WalkLawsBesides
import Derived.Below
import Derived.Outline
import Derived.Deep.OwnRows
namespace Go.Proofs.Qxb6003851a
open Go.ChangeShapes Go.WideShapes Go.RowKit

/-- 's ends in ".cfg"' -/
def isCfg (s : ByteArray) : Bool := decide (4 ≤ s.size) && ((s.extract (s.size - 4) s.size).toList == [46, 99, 102, 103])

theorem isCfg_yes (s : ByteArray) (h : 4 ≤ s.size) : isCfg s = ((s.extract (s.size - 4) s.size).toList == [46, 99, 102, 103]) := by simp [isCfg, h]
theorem isCfg_no (s : ByteArray) (h : ¬ 4 ≤ s.size) : isCfg s = false := by simp [isCfg, h]

theorem ret_bool {a b : Bool} (h : a = b) : Ending.returned (.bool a) = .returned (.bool b) := by rw [h]

/-- a call that returned some bool -/
def IsBool (e : Ending) : Prop := ∃ r : Bool, e = .returned (.bool r)
theorem IsBool.mk (r : Bool) : IsBool (.returned (.bool r)) := ⟨r, rfl⟩

theorem suf26 (s : ByteArray) (hs : s.size ≤ maxLen) (w : World) :
    Calls Try.prog 26 #[.string s, .string ⟨#[46, 99, 102, 103]⟩] w fun e w' => e = .returned (.bool (isCfg s)) ∧ w' = w := by
  unfold maxLen at hs
  by_cases h : 4 ≤ s.size
  · go_enter Try.func26, Try.ntmps26
    go_wp2
    go_ret
    exact ⟨ret_bool (isCfg_yes s h).symm, rfl⟩
  · go_enter Try.func26, Try.ntmps26
    go_wp2
    go_ret
    exact ⟨ret_bool (isCfg_no s h).symm, rfl⟩

theorem suf25 (s : ByteArray) (hs : s.size ≤ maxLen) (w : World) :
    Calls Try.prog 25 #[.string s, .string ⟨#[46, 99, 102, 103]⟩] w fun e w' => e = .returned (.bool (isCfg s)) ∧ w' = w := by
  go_enter Try.func25, Try.ntmps25
  go_wp2_with (go_at_call 26; refine (suf26 s hs _).mono ?_; rintro e w' ⟨rfl, rfl⟩)
  go_ret
  exact ⟨rfl, rfl⟩

/-- WHAT A []string THAT IS READ LOOKS LIKE: it is empty; or its cells hold the strings S. -/
def Strs (w : World) (a : Option Addr) (n : Nat) (S : Nat → ByteArray) : Prop :=
  n = 0 ∨ ∃ b off, a = some ⟨b, off, none⟩ ∧ ∀ i, i < n → w.cell? ⟨b, off + i, none⟩ = some (.string (S i))

theorem Strs.below {w w' : World} {a : Option Addr} {n : Nat} {S : Nat → ByteArray} (h : Strs w a n S) (hb : Below w.heap.size w w') : Strs w' a n S := by
  rcases h with h | ⟨b, off, ha, hc⟩
  · exact .inl h
  · by_cases hn : n = 0
    · exact .inl hn
    · refine .inr ⟨b, off, ha, fun i hi => ?_⟩
      have h0 := hc i hi
      rw [hb.cell (World.block_lt_of_cell? w _ h0)]
      exact h0

/-- what vetConfigFile gives -/
def vet (n : Nat) (S : Nat → ByteArray) : ByteArray × Bool := if 0 < n ∧ isCfg (S (n - 1)) = true then (S (n - 1), true) else (⟨#[]⟩, false)

theorem vet24 (a : Option Addr) (n c : Nat) (S : Nat → ByteArray) (w : World) (h : Strs w a n S) (hn : n ≤ 131072) (hS : ∀ i, i < n → (S i).size ≤ maxLen) :
    Calls Try.prog 24 #[.slice a n c] w fun e w' => e = .returned (.tuple #[.string (vet n S).1, .bool (vet n S).2]) ∧ w' = w := by
  by_cases h0 : n = 0
  · subst h0
    go_enter Try.func24, Try.ntmps24
    go_wp2
    go_ret2
    exact ⟨rfl, rfl⟩
  · rcases h with h | ⟨b, off, rfl, hc⟩
    · omega
    obtain ⟨k, rfl⟩ : ∃ k, n = k + 1 := ⟨n - 1, by omega⟩
    have hck := hc k (by omega)
    have hSk := hS k (by omega)
    clear hc hS
    have hv : vet (k + 1) S = if isCfg (S k) = true then (S k, true) else (⟨#[]⟩, false) := by simp [vet]
    have HV : Hid (vet (k + 1) S = if isCfg (S k) = true then (S k, true) else (⟨#[]⟩, false)) := hv
    clear hv
    by_cases hcf : isCfg (S k) = true
    · go_enter Try.func24, Try.ntmps24
      go_wp2_with (go_at_call 25; refine (suf25 _ hSk _).mono ?_; rintro e w' ⟨rfl, rfl⟩)
      go_ret2
      exact ⟨by rw [HV.out, if_pos hcf]; rfl, rfl⟩
    · go_enter Try.func24, Try.ntmps24
      go_wp2_with (go_at_call 25; refine (suf25 _ hSk _).mono ?_; rintro e w' ⟨rfl, rfl⟩)
      go_ret2
      exact ⟨by rw [HV.out, if_neg hcf]; rfl, rfl⟩

theorem vet17 (a : Option Addr) (n c : Nat) (S : Nat → ByteArray) (w : World) (h : Strs w a n S) (hn : n ≤ 131072) (hS : ∀ i, i < n → (S i).size ≤ maxLen) :
    Calls Try.prog 17 #[.slice a n c] w fun e w' => e = .returned (.tuple #[.string (vet n S).1, .bool (vet n S).2]) ∧ w' = w := by
  have hv := vet24 a n c S w h hn hS
  generalize (vet n S).1 = x at hv ⊢
  generalize (vet n S).2 = y at hv ⊢
  have HV : Hid (Calls Try.prog 24 #[.slice a n c] w fun e w' => e = .returned (.tuple #[.string x, .bool y]) ∧ w' = w) := hv
  clear hv h hS
  go_enter Try.func17, Try.ntmps17
  go_wp2_with (go_at_call 24; refine (HV.out).mono ?_; rintro e w' ⟨rfl, rfl⟩)
  go_ret2
  exact ⟨rfl, rfl⟩

theorem four (t : ByteArray) (hsz : t.size = 4) : t.toList = [t[0], t[1], t[2], t[3]] := by
  rw [ByteArray.toList_eq]
  refine List.ext_getElem (by rw [Array.length_toList]; exact hsz) ?_
  intro i h1 h2
  have h4 : i = 0 ∨ i = 1 ∨ i = 2 ∨ i = 3 := by
    have : i < 4 := h2
    omega
  rcases h4 with rfl | rfl | rfl | rfl <;> rfl

theorem last4 (s : ByteArray) (h : 4 ≤ s.size) : (s.extract (s.size - 4) s.size).toList = [s[s.size - 4], s[s.size - 3], s[s.size - 2], s[s.size - 1]] := by
  have hsz : (s.extract (s.size - 4) s.size).size = 4 := by simp; omega
  have e : ∀ (j : Nat) (hj : j < (s.extract (s.size - 4) s.size).size), (s.extract (s.size - 4) s.size)[j] = s[s.size - 4 + j]'(by omega) := by
    intro j hj
    exact ByteArray.getElem_extract hj
  have e0 := e 0 (by omega)
  have e1 := e 1 (by omega)
  have e2 := e 2 (by omega)
  have e3 := e 3 (by omega)
  simp only [show s.size - 4 + 1 = s.size - 3 by omega, show s.size - 4 + 2 = s.size - 2 by omega, show s.size - 4 + 3 = s.size - 1 by omega, Nat.add_zero] at e0 e1 e2 e3
  rw [← e0, ← e1, ← e2, ← e3]
  exact four _ hsz

theorem isCfg_at (s : ByteArray) (h : 4 ≤ s.size) (a b c d : Bool) (ha : ((s[s.size - 4].toNat : Int) == 46) = a) (hb : ((s[s.size - 3].toNat : Int) == 99) = b)
    (hc : ((s[s.size - 2].toNat : Int) == 102) = c) (hd : ((s[s.size - 1].toNat : Int) == 103) = d) : (a && b && c && d) = isCfg s := by
  rw [isCfg_yes s h, last4 s h]
  have u8 : ∀ (x : UInt8) (n : Nat) (hn : n < 256), ((x.toNat : Int) == (n : Int)) = (x == UInt8.ofNat n) := by
    intro x n hn
    rw [Bool.eq_iff_iff]
    simp [← UInt8.toNat_inj]
    omega
  have e1 := u8 s[s.size - 4] 46 (by omega)
  have e2 := u8 s[s.size - 3] 99 (by omega)
  have e3 := u8 s[s.size - 2] 102 (by omega)
  have e4 := u8 s[s.size - 1] 103 (by omega)
  rw [← ha, ← hb, ← hc, ← hd]
  show ((((s[s.size - 4].toNat : Int) == ((46 : Nat) : Int)) && ((s[s.size - 3].toNat : Int) == ((99 : Nat) : Int))) && ((s[s.size - 2].toNat : Int) == ((102 : Nat) : Int)) && ((s[s.size - 1].toNat : Int) == ((103 : Nat) : Int))) = _
  rw [e1, e2, e3, e4]
  simp [Bool.and_assoc]

/-- g1HasCfgSuffix -/
theorem has19 (s : ByteArray) (hs : s.size ≤ maxLen) (w : World) :
    Calls Try.prog 19 #[.string s] w fun e w' => e = .returned (.bool (isCfg s)) ∧ w' = w := by
  unfold maxLen at hs
  by_cases h : 4 ≤ s.size
  · go_enter Try.func19, Try.ntmps19
    go_wp2
    · go_ret
      exact ⟨ret_bool (by have := isCfg_at s h true true true _ (by simp; omega) (by simp; omega) (by simp; omega) rfl; simpa using this), rfl⟩
    · go_ret
      exact ⟨ret_bool (by have := isCfg_at s h true true false _ (by simp; omega) (by simp; omega) (by simp; omega) rfl; simpa using this), rfl⟩
    · go_ret
      exact ⟨ret_bool (by have := isCfg_at s h true false _ _ (by simp; omega) (by simp; omega) rfl rfl; simpa using this), rfl⟩
    · go_ret
      exact ⟨ret_bool (by have := isCfg_at s h false _ _ _ (by simp; omega) rfl rfl rfl; simpa using this), rfl⟩
  · go_enter Try.func19, Try.ntmps19
    go_wp2
    go_ret
    exact ⟨ret_bool (isCfg_no s h).symm, rfl⟩

theorem bytes14 (a : Option Addr) (n c : Nat) (S : Nat → ByteArray) (w : World) (h : Strs w a n S) (hn : n ≤ maxLen) (hS : ∀ i, i < n → (S i).size ≤ maxLen) :
    Calls Try.prog 14 #[.slice a n c] w fun e w' => ∃ m : Int, 0 ≤ m ∧ m ≤ 1048577 ∧ e = .returned (.int .i64 m) ∧ w' = w := by
  unfold maxLen at hn hS
  by_cases h1 : 65536 < n
  · go_enter Try.func14, Try.ntmps14
    go_wp2
    go_ret
    exact ⟨_, by omega, by omega, rfl, rfl⟩
  · go_enter Try.func14, Try.ntmps14
    go_wp2
    go_loop [3, 4] (fun t i => ∃ (k : Nat) (m : Int), k ≤ n ∧ i = .int .i64 k ∧ t = .int .i64 m ∧ 0 ≤ m ∧ m ≤ 1048576) (fun _ i => n - (intOf i).toNat)
    case atStart => exact ⟨0, _, Nat.zero_le _, rfl, rfl, by omega, by omega⟩
    case round =>
      obtain ⟨k, m, hk, rfl, rfl, hm0, hm1⟩ := hrel
      by_cases hlt : k < n
      · rcases h with h | ⟨b, off, rfl, hc⟩
        · omega
        have hck := hc k hlt
        have hSk := hS k hlt
        clear hc hS
        generalize S k = sk at *
        go_wp2
        · go_ret
          exact ⟨_, by omega, by omega, rfl, rfl⟩
        · go_ret
          exact ⟨_, by omega, by omega, rfl, rfl⟩
        · exact ⟨⟨k + 1, _, by omega, by go_num, rfl, by omega, by omega⟩, by simp [intOf]; omega⟩
      · go_wp2
        go_ret
        exact ⟨_, by omega, by omega, rfl, rfl⟩

theorem zz13 (a : Option Addr) (n c : Nat) (S : Nat → ByteArray) (st : ByteArray) (w : World) (h : Strs w a n S) (hn : n ≤ maxLen) (hS : ∀ i, i < n → (S i).size ≤ maxLen) (hst : st.size ≤ maxLen) :
    Calls Try.prog 13 #[.slice a n c, .string st] w fun e w' => IsBool e ∧ w' = w := by
  unfold maxLen at hn hS hst
  by_cases h1 : 1048576 < n
  · go_enter Try.func13, Try.ntmps13
    go_wp2
    go_ret
    exact ⟨IsBool.mk _, rfl⟩
  · go_enter Try.func13, Try.ntmps13
    go_wp2
    go_loop [5, 6] (fun t i => ∃ (k : Nat) (m : Int), k ≤ n ∧ i = .int .i64 k ∧ t = .int .i64 m ∧ 0 ≤ m ∧ m ≤ 1048576) (fun _ i => n - (intOf i).toNat)
    case atStart => exact ⟨0, _, Nat.zero_le _, rfl, rfl, by omega, by omega⟩
    case round =>
      obtain ⟨k, m, hk, rfl, rfl, hm0, hm1⟩ := hrel
      by_cases hlt : k < n
      · rcases h with h | ⟨b, off, rfl, hc⟩
        · omega
        have hck := hc k hlt
        have hSk := hS k hlt
        clear hc hS
        generalize S k = sk at *
        go_wp2
        · go_ret
          exact ⟨IsBool.mk _, rfl⟩
        · go_ret
          exact ⟨IsBool.mk _, rfl⟩
        · exact ⟨⟨k + 1, _, by omega, by go_num, rfl, by omega, by omega⟩, by simp [intOf]; omega⟩
      · go_wp2
        all_goals
          go_ret
          exact ⟨IsBool.mk _, rfl⟩
end Go.Proofs.Qxb6003851a
