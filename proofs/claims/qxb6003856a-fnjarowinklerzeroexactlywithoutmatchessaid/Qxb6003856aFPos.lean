/-
  Seat b6003856a. Plain: positive doubles, and how their exponents go through the operations.
-/
import Ieee.Arith
namespace Go.Proofs.Qxb6003856a
open Ieee

/-- x is a positive number of exponent e: mag * 2 ^ place with place + log2 mag = e -/
def Has (x : Nat) (e : Int) : Prop := ∃ mag place, double.read x = .number false mag place ∧ 0 < mag ∧ place + (mag.log2 : Int) = e

theorem log2_pos_iff {n k : Nat} (hn : n ≠ 0) : n.log2 = k ↔ 2 ^ k ≤ n ∧ n < 2 ^ (k + 1) := by
  constructor
  · rintro rfl
    exact ⟨Nat.log2_self_le hn, Nat.lt_log2_self⟩
  · rintro ⟨h1, h2⟩
    have a : k ≤ n.log2 := (Nat.le_log2 hn).2 h1
    have b : n.log2 < k + 1 := (Nat.log2_lt hn).2 h2
    omega

theorem read_normal (r k : Nat) (hk1 : 1 ≤ k) (hk2 : k ≤ 2046) (hr : r < 2 ^ 52) : double.read (k * 2 ^ 52 + r) = .number false (2 ^ 52 + r) (-1074 + ((k - 1 : Nat) : Int)) := by
  have hb : double.binade = 2 ^ 52 := rfl
  have hi : double.infRung = 2047 * 2 ^ 52 := rfl
  have hw : double.signWeight = 2 ^ 63 := rfl
  have hl : double.leastPlace = -1074 := rfl
  unfold Format.read
  simp only []
  rw [hw, hb, hi, hl]
  have e1 : (k * 2 ^ 52 + r) / 2 ^ 63 = 0 := by omega
  have e2 : (k * 2 ^ 52 + r) % 2 ^ 63 = k * 2 ^ 52 + r := by omega
  have e3 : (k * 2 ^ 52 + r) % 2 ^ 52 = r := by omega
  have e4 : (k * 2 ^ 52 + r) / 2 ^ 52 = k := by omega
  rw [e1, e2, if_neg (by omega), if_pos (by omega), e3, e4]
  rfl

theorem shl_log2 (m u : Nat) (hm : m ≠ 0) : (m <<< u).log2 = m.log2 + u := by
  rw [Nat.shiftLeft_eq]
  rw [log2_pos_iff (Nat.mul_ne_zero hm (Nat.pos_iff_ne_zero.1 (Nat.pow_pos Nat.two_pos)))]
  obtain ⟨h1, h2⟩ := (log2_pos_iff hm).1 rfl
  constructor
  · rw [Nat.pow_add]; exact Nat.mul_le_mul_right _ h1
  · rw [show m.log2 + u + 1 = (m.log2 + 1) + u by omega, Nat.pow_add]
    exact Nat.mul_lt_mul_of_pos_right h2 (Nat.pow_pos Nat.two_pos)

/-- what 'cut' to 53 digits gives -/
theorem cut_range (n drop : Nat) (hn : n ≠ 0) (hl : n.log2 = 52 + drop) : 2 ^ 52 ≤ Toward.even.cut false n drop ∧ Toward.even.cut false n drop ≤ 2 ^ 53 := by
  obtain ⟨h1, h2⟩ := (log2_pos_iff hn).1 hl
  have hmin : min drop (n.log2 + 2) = drop := by omega
  have hlow1 : 2 ^ 52 ≤ n / 2 ^ drop := by
    rw [Nat.le_div_iff_mul_le (Nat.pow_pos Nat.two_pos), ← Nat.pow_add]
    exact h1
  have hlow2 : n / 2 ^ drop < 2 ^ 53 := by
    rw [Nat.div_lt_iff_lt_mul (Nat.pow_pos Nat.two_pos), ← Nat.pow_add]
    rw [show 53 + drop = 52 + drop + 1 by omega]
    exact h2
  unfold Toward.cut
  simp only [hmin, Nat.one_shiftLeft]
  generalize n / 2 ^ drop = low at *
  have hb : ∀ b : Bool, b.toNat ≤ 1 := by intro b; cases b <;> decide
  constructor
  · exact Nat.le_trans hlow1 (Nat.le_add_right _ _)
  · refine Nat.le_trans (Nat.add_le_add_left (hb _) _) ?_
    omega

theorem min_left {a b : Nat} (h : a ≤ b) : min a b = a := by omega
theorem word_le (k c B : Nat) (hk : k ≤ 2022) (h2 : c ≤ 2 * B) : k * B + c ≤ 2047 * B := by
  have : k * B ≤ 2022 * B := Nat.mul_le_mul_right _ hk
  omega
theorem word_min (k c : Nat) (hk : k ≤ 2022) (h2 : c ≤ 2 ^ 53) : min (k * 2 ^ 52 + c) (2047 * 2 ^ 52) = k * 2 ^ 52 + c := by
  have h : c ≤ 2 * 2 ^ 52 := h2
  have := word_le k c (2 ^ 52) hk h
  generalize k * 2 ^ 52 + c = x at *
  generalize 2047 * 2 ^ 52 = y at *
  exact min_left this

theorem log2_52 (r : Nat) (hr : r < 2 ^ 52) : (2 ^ 52 + r).log2 = 52 := (log2_pos_iff (by omega)).2 ⟨by omega, by omega⟩

theorem has_word (k c : Nat) (hk : k ≤ 2022) (h1 : 2 ^ 52 ≤ c) (h2 : c ≤ 2 ^ 53) : Has (k * 2 ^ 52 + c) ((k : Int) - 1022) ∨ Has (k * 2 ^ 52 + c) ((k : Int) - 1021) := by
  by_cases hc2 : c = 2 ^ 53
  · right
    have h := read_normal 0 (k + 2) (by omega) (by omega) (by omega)
    have e : k * 2 ^ 52 + c = (k + 2) * 2 ^ 52 + 0 := by rw [hc2, Nat.add_mul]
    refine ⟨2 ^ 52 + 0, -1074 + ((k + 2 - 1 : Nat) : Int), by rw [e]; exact h, by omega, ?_⟩
    rw [log2_52 0 (by omega)]
    omega
  · left
    obtain ⟨r, rfl⟩ := Nat.exists_eq_add_of_le h1
    have hr : r < 2 ^ 52 := by omega
    have h := read_normal r (k + 1) (by omega) (by omega) hr
    have e : k * 2 ^ 52 + (2 ^ 52 + r) = (k + 1) * 2 ^ 52 + r := by rw [Nat.add_mul, Nat.one_mul, Nat.add_assoc]
    refine ⟨2 ^ 52 + r, -1074 + ((k + 1 - 1 : Nat) : Int), by rw [e]; exact h, by omega, ?_⟩
    rw [log2_52 r hr]
    omega

/-- THE LAW OF ROUNDING: the exponent stays, or goes up by one -/
theorem nearest_has (mag : Nat) (place : Int) (hm : mag ≠ 0) (h1 : -1000 ≤ place + (mag.log2 : Int)) (h2 : place + (mag.log2 : Int) ≤ 1000) :
    ∃ e, (e = place + (mag.log2 : Int) ∨ e = place + (mag.log2 : Int) + 1) ∧ Has (double.nearest false mag place) e := by
  have hfb : double.fractionBits = 52 := rfl
  have hL : double.leastPlace = -1074 := rfl
  have hb : double.binade = 2 ^ 52 := rfl
  have hi : double.infRung = 2047 * 2 ^ 52 := rfl
  unfold Format.nearest
  rw [if_neg hm]
  simp only [hfb, hL, hb, hi]
  clear hfb hL hb hi
  obtain ⟨E, hE⟩ : ∃ E, place + (mag.log2 : Int) = E := ⟨_, rfl⟩
  have hmax : max (place + (mag.log2 : Int) - ((52 : Nat) : Int)) (-1074) = E - 52 := by omega
  rw [hmax, hE]
  have hcut := cut_range (mag <<< (place - (E - 52)).toNat) ((E - 52) - place).toNat (by rw [Nat.shiftLeft_eq]; exact Nat.mul_ne_zero hm (Nat.pos_iff_ne_zero.1 (Nat.pow_pos Nat.two_pos))) (by rw [shl_log2 _ _ hm]; omega)
  generalize Toward.even.cut false (mag <<< (place - (E - 52)).toNat) ((E - 52) - place).toNat = c at *
  obtain ⟨k, hk⟩ : ∃ k : Nat, (E - 52 - -1074).toNat = k := ⟨_, rfl⟩
  have hkE : (k : Int) = E + 1022 := by omega
  have hk2 : k ≤ 2022 := by omega
  rw [hk]
  clear hk hmax
  obtain ⟨hc1, hc2⟩ := hcut
  rw [word_min k c hk2 hc2]
  have hword : ∀ x, double.word false x = x := fun x => by simp [Format.word]
  rw [hword]
  rcases has_word k c hk2 hc1 hc2 with h | h
  · exact ⟨E, .inl rfl, by rw [show E = (k : Int) - 1022 by omega]; exact h⟩
  · exact ⟨E + 1, .inr rfl, by rw [show E + 1 = (k : Int) - 1021 by omega]; exact h⟩
end Go.Proofs.Qxb6003856a
