/-
  Seat b6003856a. Plain: the operations on positive doubles, by ranges of exponents.
-/
import Derived.Test.Qxb6003856aFPos
namespace Go.Proofs.Qxb6003856a
open Ieee

/-- x is a positive double whose exponent lies in lo .. hi -/
def R (x : Nat) (lo hi : Int) : Prop := ∃ e, lo ≤ e ∧ e ≤ hi ∧ Has x e
/-- x is +0 -/
def Z (x : Nat) : Prop := ∃ p, double.read x = .number false 0 p

theorem R.wide {x : Nat} {lo hi lo' hi' : Int} (h : R x lo hi) (h1 : lo' ≤ lo) (h2 : hi ≤ hi') : R x lo' hi' := by
  obtain ⟨e, a, b, c⟩ := h
  exact ⟨e, by omega, by omega, c⟩

theorem R_nearest (mag : Nat) (place lo hi : Int) (hm : mag ≠ 0) (h1 : lo ≤ place + (mag.log2 : Int)) (h2 : place + (mag.log2 : Int) ≤ hi) (hl : -1000 ≤ lo) (hh : hi ≤ 1000) :
    R (double.nearest false mag place) lo (hi + 1) := by
  obtain ⟨e, he, h⟩ := nearest_has mag place hm (by omega) (by omega)
  exact ⟨e, by omega, by omega, h⟩

theorem log2_mul (m n : Nat) (hm : m ≠ 0) (hn : n ≠ 0) : (m * n).log2 = m.log2 + n.log2 ∨ (m * n).log2 = m.log2 + n.log2 + 1 := by
  obtain ⟨a1, a2⟩ := (log2_pos_iff hm).1 rfl
  obtain ⟨b1, b2⟩ := (log2_pos_iff hn).1 rfl
  have hmn : m * n ≠ 0 := Nat.mul_ne_zero hm hn
  have lo : m.log2 + n.log2 ≤ (m * n).log2 := (Nat.le_log2 hmn).2 (by rw [Nat.pow_add]; exact Nat.mul_le_mul a1 b1)
  have hi : (m * n).log2 < m.log2 + n.log2 + 2 := (Nat.log2_lt hmn).2 (by
    rw [show m.log2 + n.log2 + 2 = (m.log2 + 1) + (n.log2 + 1) by omega, Nat.pow_add]
    exact Nat.mul_lt_mul'' a2 b2)
  omega

theorem R_mul {x y : Nat} {l1 h1 l2 h2 : Int} (hx : R x l1 h1) (hy : R y l2 h2) (hl : -900 ≤ l1 + l2) (hh : h1 + h2 ≤ 900) :
    ∃ r, double.mul x y = some r ∧ R r (l1 + l2) (h1 + h2 + 2) := by
  obtain ⟨e1, a1, b1, m1, p1, r1, q1, s1⟩ := hx
  obtain ⟨e2, a2, b2, m2, p2, r2, q2, s2⟩ := hy
  refine ⟨_, by unfold Format.mul; rw [r1, r2]; rfl, ?_⟩
  have := log2_mul m1 m2 (by omega) (by omega)
  exact (R_nearest (m1 * m2) (p1 + p2) (l1 + l2) (h1 + h2 + 1) (Nat.mul_ne_zero (by omega) (by omega)) (by omega) (by omega) (by omega) (by omega)).wide (by omega) (by omega)

theorem Z_mul {x y : Nat} {l2 h2 : Int} (hx : Z x) (hy : R y l2 h2) : ∃ r, double.mul x y = some r ∧ Z r := by
  obtain ⟨p1, r1⟩ := hx
  obtain ⟨e2, a2, b2, m2, p2, r2, q2, s2⟩ := hy
  refine ⟨_, by unfold Format.mul; rw [r1, r2]; rfl, ?_⟩
  refine ⟨-1074, ?_⟩
  show double.read (double.nearest false (0 * m2) (p1 + p2)) = _
  rw [Nat.zero_mul]
  have h0 : double.nearest false 0 (p1 + p2) = 0 := by unfold Format.nearest; rw [if_pos rfl]; rfl
  rw [h0]
  rfl

theorem log2_add (m n : Nat) (hm : m ≠ 0) : m.log2 ≤ (m + n).log2 ∧ (m + n).log2 ≤ max m.log2 n.log2 + 1 := by
  obtain ⟨a1, a2⟩ := (log2_pos_iff hm).1 rfl
  have hmn : m + n ≠ 0 := by omega
  constructor
  · exact (Nat.le_log2 hmn).2 (by omega)
  · have : (m + n).log2 < max m.log2 n.log2 + 2 := (Nat.log2_lt hmn).2 (by
      have h1 : m < 2 ^ (max m.log2 n.log2 + 1) := Nat.lt_of_lt_of_le a2 (Nat.pow_le_pow_right (by omega) (by omega))
      have h2 : n < 2 ^ (max m.log2 n.log2 + 1) := by
        by_cases hn : n = 0
        · subst hn; exact Nat.pow_pos Nat.two_pos
        · exact Nat.lt_of_lt_of_le ((log2_pos_iff hn).1 rfl).2 (Nat.pow_le_pow_right (by omega) (by omega))
      rw [show max m.log2 n.log2 + 2 = (max m.log2 n.log2 + 1) + 1 by omega, Nat.pow_succ]
      omega)
    omega

theorem sum_pos (m n : Nat) (i j : Int) (hm : 0 < m) :
    (Datum.number false m i).sum (.number false n j) = some (.number false (m <<< (i - min i j).toNat + n <<< (j - min i j).toNat) (min i j)) := by
  unfold Datum.sum
  simp only [signed, Bool.false_eq_true, if_false]
  have hp : 0 < m <<< (i - min i j).toNat := by rw [Nat.shiftLeft_eq]; exact Nat.mul_pos hm (Nat.pow_pos Nat.two_pos)
  generalize m <<< (i - min i j).toNat = A at *
  generalize n <<< (j - min i j).toNat = B at *
  rw [if_neg (by omega)]
  have : ((A : Int) + (B : Int)).natAbs = A + B := by omega
  rw [this]
  have h2 : decide ((A : Int) + (B : Int) < 0) = false := decide_eq_false (by omega)
  rw [h2]

theorem R_add {x y : Nat} {l1 h1 l2 h2 : Int} (hx : R x l1 h1) (hy : R y l2 h2) (hl : -900 ≤ l1) (hh1 : h1 ≤ 900) (hh2 : h2 ≤ 900) :
    ∃ r, double.add x y = some r ∧ R r l1 (max h1 h2 + 2) := by
  obtain ⟨e1, a1, b1, m1, p1, r1, q1, s1⟩ := hx
  obtain ⟨e2, a2, b2, m2, p2, r2, q2, s2⟩ := hy
  refine ⟨_, by unfold Format.add; rw [r1, r2, sum_pos m1 m2 p1 p2 q1]; rfl, ?_⟩
  have hA := shl_log2 m1 (p1 - min p1 p2).toNat (by omega)
  have hB := shl_log2 m2 (p2 - min p1 p2).toNat (by omega)
  have hp : m1 <<< (p1 - min p1 p2).toNat ≠ 0 := by rw [Nat.shiftLeft_eq]; exact Nat.mul_ne_zero (by omega) (Nat.pos_iff_ne_zero.1 (Nat.pow_pos Nat.two_pos))
  generalize m1 <<< (p1 - min p1 p2).toNat = A at *
  generalize m2 <<< (p2 - min p1 p2).toNat = B at *
  have := log2_add A B hp
  exact (R_nearest (A + B) (min p1 p2) l1 (max h1 h2 + 1) (by omega) (by omega) (by omega) (by omega) (by omega)).wide (by omega) (by omega)

theorem RZ_add {x y : Nat} {l1 h1 : Int} (hx : R x l1 h1) (hy : Z y) (hl : -900 ≤ l1) (hh1 : h1 ≤ 900) :
    ∃ r, double.add x y = some r ∧ R r l1 (h1 + 1) := by
  obtain ⟨e1, a1, b1, m1, p1, r1, q1, s1⟩ := hx
  obtain ⟨p2, r2⟩ := hy
  refine ⟨_, by unfold Format.add; rw [r1, r2, sum_pos m1 0 p1 p2 q1]; rfl, ?_⟩
  have hA := shl_log2 m1 (p1 - min p1 p2).toNat (by omega)
  have hp : m1 <<< (p1 - min p1 p2).toNat ≠ 0 := by rw [Nat.shiftLeft_eq]; exact Nat.mul_ne_zero (by omega) (Nat.pos_iff_ne_zero.1 (Nat.pow_pos Nat.two_pos))
  have h0 : 0 <<< (p2 - min p1 p2).toNat = 0 := by rw [Nat.shiftLeft_eq, Nat.zero_mul]
  rw [h0, Nat.add_zero]
  generalize m1 <<< (p1 - min p1 p2).toNat = A at *
  exact (R_nearest A (min p1 p2) l1 h1 (by omega) (by omega) (by omega) (by omega) (by omega)).wide (by omega) (by omega)

/-- the quotient's exponent -/
theorem log2_div (m n : Nat) (hm : m ≠ 0) (hn : n ≠ 0) (r : Nat) (hr : r ≤ 1) (more : Nat) (hmore : n.log2 + 2 ≤ m.log2 + more) :
    2 * ((m <<< more) / n) + r ≠ 0 ∧ m.log2 + more ≤ (2 * ((m <<< more) / n) + r).log2 + n.log2 ∧ (2 * ((m <<< more) / n) + r).log2 + n.log2 ≤ m.log2 + more + 1 := by
  have hM := shl_log2 m more hm
  have hp : m <<< more ≠ 0 := by rw [Nat.shiftLeft_eq]; exact Nat.mul_ne_zero hm (Nat.pos_iff_ne_zero.1 (Nat.pow_pos Nat.two_pos))
  generalize m <<< more = M at *
  obtain ⟨A1, A2⟩ := (log2_pos_iff hp).1 rfl
  obtain ⟨B1, B2⟩ := (log2_pos_iff hn).1 rfl
  have hlo : 2 ^ (M.log2 - n.log2 - 1) ≤ M / n := by
    rw [Nat.le_div_iff_mul_le (by omega)]
    refine Nat.le_trans (Nat.mul_le_mul_left _ (Nat.le_of_lt B2)) ?_
    rw [← Nat.pow_add, show M.log2 - n.log2 - 1 + (n.log2 + 1) = M.log2 by omega]
    exact A1
  have hhi : M / n < 2 ^ (M.log2 - n.log2 + 1) := by
    rw [Nat.div_lt_iff_lt_mul (by omega)]
    refine Nat.lt_of_lt_of_le A2 ?_
    refine Nat.le_trans ?_ (Nat.mul_le_mul_left _ B1)
    rw [← Nat.pow_add, show M.log2 - n.log2 + 1 + n.log2 = M.log2 + 1 by omega]
    exact Nat.le_refl _
  generalize M / n = q at *
  have hq : 0 < q := Nat.lt_of_lt_of_le (Nat.pow_pos Nat.two_pos) hlo
  have hne : 2 * q + r ≠ 0 := by omega
  have l1 : M.log2 - n.log2 ≤ (2 * q + r).log2 := (Nat.le_log2 hne).2 (by
    have : 2 ^ (M.log2 - n.log2) = 2 * 2 ^ (M.log2 - n.log2 - 1) := by
      rw [show M.log2 - n.log2 = (M.log2 - n.log2 - 1) + 1 by omega, Nat.pow_succ, Nat.mul_comm]
      rfl
    omega)
  have l2 : (2 * q + r).log2 < M.log2 - n.log2 + 2 := (Nat.log2_lt hne).2 (by
    rw [show M.log2 - n.log2 + 2 = (M.log2 - n.log2 + 1) + 1 by omega, Nat.pow_succ]
    omega)
  refine ⟨hne, by omega, by omega⟩

theorem quot_pos (m n : Nat) (i j : Int) (hn : 0 < n) :
    (Datum.number false m i).quotient (double.fractionBits + 2) (.number false n j) = some (.number false (2 * ((m <<< (double.fractionBits + 2 + n.log2 - m.log2)) / n) + ((m <<< (double.fractionBits + 2 + n.log2 - m.log2)) % n != 0).toNat) (i - j - (double.fractionBits + 2 + n.log2 - m.log2 : Nat) - 1)) := by
  show (if n = 0 then _ else _) = _
  rw [if_neg (by omega)]
  rfl

theorem R_div {x y : Nat} {l1 h1 l2 h2 : Int} (hx : R x l1 h1) (hy : R y l2 h2) (hl : -900 ≤ l1 - h2) (hh : h1 - l2 ≤ 900) :
    ∃ r, double.div x y = some r ∧ R r (l1 - h2 - 1) (h1 - l2 + 1) := by
  obtain ⟨e1, a1, b1, m1, p1, r1, q1, s1⟩ := hx
  obtain ⟨e2, a2, b2, m2, p2, r2, q2, s2⟩ := hy
  have hfb : double.fractionBits + 2 = 54 := rfl
  refine ⟨_, by unfold Format.div; rw [r1, r2]; rw [quot_pos m1 m2 p1 p2 q2]; rfl, ?_⟩
  rw [hfb]
  show R (double.nearest false _ _) _ _
  have hb : ∀ b : Bool, b.toNat ≤ 1 := by intro b; cases b <;> decide
  obtain ⟨d1, d2, d3⟩ := log2_div m1 m2 (by omega) (by omega) _ (hb (m1 <<< (54 + m2.log2 - m1.log2) % m2 != 0)) (54 + m2.log2 - m1.log2) (by omega)
  exact (R_nearest _ (p1 - p2 - (54 + m2.log2 - m1.log2 : Nat) - 1) (l1 - h2 - 1) (h1 - l2) d1 (by omega) (by omega) (by omega) (by omega)).wide (by omega) (by omega)

/-- small whole numbers are exact -/
theorem read_nat (n : Nat) (hn : n ≠ 0) (hs : n.log2 ≤ 52) : double.read (double.nearest false n 0) = .number false (n <<< (52 - n.log2)) ((n.log2 : Int) - 52) := by
  have hfb : double.fractionBits = 52 := rfl
  have hL : double.leastPlace = -1074 := rfl
  have hb : double.binade = 2 ^ 52 := rfl
  have hi : double.infRung = 2047 * 2 ^ 52 := rfl
  unfold Format.nearest
  rw [if_neg hn]
  simp only [hfb, hL, hb, hi]
  clear hfb hL hb hi
  obtain ⟨E, hE⟩ : ∃ E, n.log2 = E := ⟨_, rfl⟩
  have hmax : max ((0 : Int) + (n.log2 : Int) - ((52 : Nat) : Int)) (-1074) = (E : Int) - 52 := by omega
  rw [hmax, hE]
  have hsh : ((0 : Int) - ((E : Int) - 52)).toNat = 52 - E := by omega
  have hdr : ((E : Int) - 52 - 0).toNat = 0 := by omega
  rw [hsh, hdr]
  have hlog : (n <<< (52 - E)).log2 = 52 := by rw [shl_log2 _ _ hn]; omega
  have hne : n <<< (52 - E) ≠ 0 := by rw [Nat.shiftLeft_eq]; exact Nat.mul_ne_zero hn (Nat.pos_iff_ne_zero.1 (Nat.pow_pos Nat.two_pos))
  have hcut : Toward.even.cut false (n <<< (52 - E)) 0 = n <<< (52 - E) := by
    unfold Toward.cut
    simp [Nat.mod_one]
  rw [hcut]
  generalize n <<< (52 - E) = c at *
  obtain ⟨hc1, hc2⟩ := (log2_pos_iff hne).1 hlog
  obtain ⟨k, hk⟩ : ∃ k : Nat, ((E : Int) - 52 - -1074).toNat = k := ⟨_, rfl⟩
  have hkE : (k : Int) = E + 1022 := by omega
  have hk2 : k ≤ 2022 := by omega
  rw [hk]
  rw [word_min k c hk2 (by omega)]
  have hword : ∀ x, double.word false x = x := fun x => by simp [Format.word]
  rw [hword]
  obtain ⟨r, rfl⟩ := Nat.exists_eq_add_of_le hc1
  have e : k * 2 ^ 52 + (2 ^ 52 + r) = (k + 1) * 2 ^ 52 + r := by rw [Nat.add_mul, Nat.one_mul, Nat.add_assoc]
  rw [e, read_normal r (k + 1) (by omega) (by omega) (by omega)]
  congr 1
  omega

theorem R_nat (n : Nat) (hn : n ≠ 0) (hs : n ≤ 65536) : R (double.nearest false n 0) 0 17 := by
  have h : n.log2 < 17 := (Nat.log2_lt hn).2 (by omega)
  exact (R_nearest n 0 0 16 hn (by omega) (by omega) (by omega) (by omega)).wide (by omega) (by omega)

theorem Z_zero : Z (double.nearest false 0 0) := ⟨-1074, rfl⟩

/-- the difference of two small whole numbers -/
theorem R_sub (a b : Nat) (hb : b < a) (hs : a ≤ 65536) : ∃ r, double.sub (double.nearest false a 0) (double.nearest false b 0) = some r ∧ R r 0 17 := by
  have ha : a ≠ 0 := by omega
  have hla : a.log2 < 17 := (Nat.log2_lt ha).2 (by omega)
  have hra := read_nat a ha (by omega)
  have hab : a - b ≠ 0 := by omega
  have hlab : (a - b).log2 < 17 := (Nat.log2_lt hab).2 (by omega)
  by_cases hb0 : b = 0
  · subst hb0
    have hr0 : double.read (double.nearest false 0 0) = .number false 0 (-1074) := rfl
    unfold Format.sub
    rw [hra, hr0]
    have key : (Datum.number false (a <<< (52 - a.log2)) ((a.log2 : Int) - 52)).sum (Datum.number false 0 (-1074)).opposite = some (.number false ((a <<< (52 - a.log2)) <<< (a.log2 + 1022)) (-1074)) := by
      unfold Datum.opposite Datum.sum
      have hmin : min ((a.log2 : Int) - 52) (-1074) = -1074 := by omega
      simp only [signed, hmin, Bool.false_eq_true, if_false, Bool.not_false, if_true]
      have e1 : ((a.log2 : Int) - 52 - -1074).toNat = a.log2 + 1022 := by omega
      rw [e1]
      have hp : 0 < (a <<< (52 - a.log2)) <<< (a.log2 + 1022) := by
        rw [Nat.shiftLeft_eq, Nat.shiftLeft_eq]
        exact Nat.mul_pos (Nat.mul_pos (by omega) (Nat.pow_pos Nat.two_pos)) (Nat.pow_pos Nat.two_pos)
      have h0 : 0 <<< ((-1074 : Int) - -1074).toNat = 0 := rfl
      rw [h0]
      generalize (a <<< (52 - a.log2)) <<< (a.log2 + 1022) = A at *
      rw [if_neg (by omega)]
      have : ((A : Int) + -((0 : Nat) : Int)).natAbs = A := by omega
      rw [this]
      have h2 : decide ((A : Int) + -((0 : Nat) : Int) < 0) = false := decide_eq_false (by omega)
      rw [h2]
    rw [key]
    refine ⟨_, rfl, ?_⟩
    have hl1 := shl_log2 a (52 - a.log2) ha
    have hne1 : a <<< (52 - a.log2) ≠ 0 := by rw [Nat.shiftLeft_eq]; exact Nat.mul_ne_zero ha (Nat.pos_iff_ne_zero.1 (Nat.pow_pos Nat.two_pos))
    have hl2 := shl_log2 (a <<< (52 - a.log2)) (a.log2 + 1022) hne1
    have hne2 : (a <<< (52 - a.log2)) <<< (a.log2 + 1022) ≠ 0 := by rw [Nat.shiftLeft_eq _ (a.log2 + 1022)]; exact Nat.mul_ne_zero hne1 (Nat.pos_iff_ne_zero.1 (Nat.pow_pos Nat.two_pos))
    generalize (a <<< (52 - a.log2)) <<< (a.log2 + 1022) = A at *
    exact (R_nearest A (-1074) 0 16 hne2 (by omega) (by omega) (by omega) (by omega)).wide (by omega) (by omega)
  · have hlb : b.log2 ≤ a.log2 := (Nat.le_log2 ha).2 (Nat.le_trans ((log2_pos_iff hb0).1 rfl).1 (by omega))
    have hrb := read_nat b hb0 (by omega)
    unfold Format.sub
    rw [hra, hrb]
    have key : (Datum.number false (a <<< (52 - a.log2)) ((a.log2 : Int) - 52)).sum (Datum.number false (b <<< (52 - b.log2)) ((b.log2 : Int) - 52)).opposite = some (.number false ((a - b) <<< (52 - b.log2)) ((b.log2 : Int) - 52)) := by
      unfold Datum.opposite Datum.sum
      have hmin : min ((a.log2 : Int) - 52) ((b.log2 : Int) - 52) = (b.log2 : Int) - 52 := by omega
      simp only [signed, hmin, Bool.false_eq_true, if_false, Bool.not_false, if_true]
      have e1 : ((a.log2 : Int) - 52 - ((b.log2 : Int) - 52)).toNat = a.log2 - b.log2 := by omega
      have e2 : ((b.log2 : Int) - 52 - ((b.log2 : Int) - 52)).toNat = 0 := by omega
      rw [e1, e2, ← Nat.shiftLeft_add, Nat.shiftLeft_zero]
      rw [show 52 - a.log2 + (a.log2 - b.log2) = 52 - b.log2 by omega]
      generalize 52 - b.log2 = s
      simp only [Nat.shiftLeft_eq]
      have hpos : 0 < 2 ^ s := Nat.pow_pos Nat.two_pos
      rw [Nat.sub_mul]
      have hlt : b * 2 ^ s < a * 2 ^ s := Nat.mul_lt_mul_of_pos_right hb hpos
      generalize a * 2 ^ s = A at *
      generalize b * 2 ^ s = B at *
      rw [if_neg (by omega)]
      have : ((A : Int) + -(B : Int)).natAbs = A - B := by omega
      rw [this]
      have h2 : decide ((A : Int) + -(B : Int) < 0) = false := decide_eq_false (by omega)
      rw [h2]
    rw [key]
    refine ⟨_, rfl, ?_⟩
    have hl := shl_log2 (a - b) (52 - b.log2) hab
    have hne : (a - b) <<< (52 - b.log2) ≠ 0 := by rw [Nat.shiftLeft_eq]; exact Nat.mul_ne_zero hab (Nat.pos_iff_ne_zero.1 (Nat.pow_pos Nat.two_pos))
    exact (R_nearest _ ((b.log2 : Int) - 52) 0 16 hne (by omega) (by omega) (by omega) (by omega)).wide (by omega) (by omega)

/-- a positive double is not zero -/
theorem R_ne {x : Nat} {lo hi : Int} (h : R x lo hi) : double.order x 0 = some .gt := by
  obtain ⟨e, _, _, m, p, r, q, s⟩ := h
  unfold Format.order
  rw [r]
  have hr0 : double.read 0 = .number false 0 (-1074) := rfl
  rw [hr0]
  unfold Datum.order
  simp only [signed, Bool.false_eq_true, if_false]
  have hp : 0 < m <<< (p - min p (-1074)).toNat := by rw [Nat.shiftLeft_eq]; exact Nat.mul_pos q (Nat.pow_pos Nat.two_pos)
  generalize m <<< (p - min p (-1074)).toNat = A at *
  have h0 : 0 <<< (-1074 - min p (-1074)).toNat = 0 := by rw [Nat.shiftLeft_eq, Nat.zero_mul]
  rw [h0]
  congr 1
  exact Int.compare_eq_gt.2 (by omega)

/-- two positive doubles can be compared -/
theorem R_order {x y : Nat} {l1 h1 l2 h2 : Int} (hx : R x l1 h1) (hy : R y l2 h2) : ∃ o, double.order x y = some o := by
  obtain ⟨e1, a1, b1, m1, p1, r1, q1, s1⟩ := hx
  obtain ⟨e2, a2, b2, m2, p2, r2, q2, s2⟩ := hy
  exact ⟨_, by unfold Format.order; rw [r1, r2]; rfl⟩
end Go.Proofs.Qxb6003856a
