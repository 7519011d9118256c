/-
  Seat b6003856a. Plain: a whole number for each double that is no NaN, in the order of the doubles.
-/
import Ieee.Arith
namespace Go.Proofs.Qxb6003856a
open Ieee

/-- greater than every finite key -/
def bigExp : Nat := 2200
/-- 2 to that -/
def big : Int := ((2 ^ bigExp : Nat) : Int)

/-- the key of what a word stands for -/
def dkey : Datum → Int
  | .number s m i => signed s m (i - double.leastPlace).toNat
  | .infinity s => if s then -big else big
  | .nan .. => 0

def fkey (x : Nat) : Int := dkey (double.read x)

/-- a datum as 'read' gives them -/
def Fine : Datum → Prop
  | .number _ m i => m < 2 ^ 53 ∧ double.leastPlace ≤ i ∧ i ≤ double.leastPlace + 2046
  | .infinity _ => True
  | .nan .. => False

theorem signed_add (s : Bool) (m u v : Nat) : signed s m (u + v) = signed s m u * ((2 ^ v : Nat) : Int) := by
  unfold signed
  rw [Nat.shiftLeft_add, Nat.shiftLeft_eq (m <<< u)]
  split
  · rw [Int.natCast_mul, Int.neg_mul]
  · rw [Int.natCast_mul]

theorem sh_lt (m u a e : Nat) (hm : m < 2 ^ a) (h : a + u ≤ e) : m <<< u < 2 ^ e := by
  rw [Nat.shiftLeft_eq]
  have h3 : m * 2 ^ u < 2 ^ a * 2 ^ u := Nat.mul_lt_mul_of_pos_right hm (Nat.pow_pos Nat.two_pos)
  rw [← Nat.pow_add] at h3
  exact Nat.lt_of_lt_of_le h3 (Nat.pow_le_pow_right Nat.two_pos h)

theorem two_pow_pos (e : Nat) : (0 : Int) < ((2 ^ e : Nat) : Int) := Int.natCast_pos.2 (Nat.pow_pos Nat.two_pos)

theorem signed_lt (s : Bool) (m u : Nat) (hm : m < 2 ^ 53) (hu : u ≤ 2046) : -big < signed s m u ∧ signed s m u < big := by
  have h1 : m <<< u < 2 ^ bigExp := sh_lt m u 53 bigExp hm (by unfold bigExp; omega)
  unfold signed big
  generalize (2 ^ bigExp : Nat) = B at *
  generalize m <<< u = X at *
  split <;> omega

theorem compare_mul (x y : Int) (v : Nat) : compare (x * ((2 ^ v : Nat) : Int)) (y * ((2 ^ v : Nat) : Int)) = compare x y := by
  have hp : (0 : Int) < ((2 ^ v : Nat) : Int) := two_pow_pos v
  generalize ((2 ^ v : Nat) : Int) = c at *
  have key : ∀ a b : Int, a < b → a * c < b * c := fun a b h => Int.mul_lt_mul_of_pos_right h hp
  rcases Int.lt_trichotomy x y with h | h | h
  · rw [Int.compare_eq_lt.2 h, Int.compare_eq_lt.2 (key x y h)]
  · rw [h]; simp
  · rw [Int.compare_eq_gt.2 h, Int.compare_eq_gt.2 (key y x h)]

theorem compare_signed (s t : Bool) (m n : Nat) (i j L : Int) (hi : L ≤ i) (hj : L ≤ j) :
    compare (signed s m (i - min i j).toNat) (signed t n (j - min i j).toNat) = compare (signed s m (i - L).toNat) (signed t n (j - L).toNat) := by
  have e1 : (i - L).toNat = (i - min i j).toNat + (min i j - L).toNat := by omega
  have e2 : (j - L).toNat = (j - min i j).toNat + (min i j - L).toNat := by omega
  rw [e1, e2, signed_add, signed_add, compare_mul]

theorem order_dkey (d e : Datum) (hd : Fine d) (he : Fine e) : d.order e = some (compare (dkey d) (dkey e)) := by
  have hB : (0 : Int) < big := two_pow_pos bigExp
  match d, e, hd, he with
  | .number s m i, .number t n j, hd, he =>
    show some _ = some _
    rw [compare_signed s t m n i j double.leastPlace hd.2.1 he.2.1]
    rfl
  | .number s m i, .infinity t, hd, _ =>
    have := signed_lt s m (i - double.leastPlace).toNat hd.1 (by have := hd.2.2; omega)
    cases t
    · show some Ordering.lt = some _
      rw [show compare (dkey (.number s m i)) (dkey (.infinity false)) = .lt from Int.compare_eq_lt.2 this.2]
    · show some Ordering.gt = some _
      rw [show compare (dkey (.number s m i)) (dkey (.infinity true)) = .gt from Int.compare_eq_gt.2 this.1]
  | .infinity s, .number t n j, _, he =>
    have := signed_lt t n (j - double.leastPlace).toNat he.1 (by have := he.2.2; omega)
    cases s
    · show some Ordering.gt = some _
      rw [show compare (dkey (.infinity false)) (dkey (.number t n j)) = .gt from Int.compare_eq_gt.2 this.2]
    · show some Ordering.lt = some _
      rw [show compare (dkey (.infinity true)) (dkey (.number t n j)) = .lt from Int.compare_eq_lt.2 this.1]
  | .infinity s, .infinity t, _, _ =>
    cases s <;> cases t
    · show some Ordering.eq = some _
      rw [show compare (dkey (.infinity false)) (dkey (.infinity false)) = .eq from Int.compare_eq_eq.2 rfl]
    · show some Ordering.gt = some _
      rw [show compare (dkey (.infinity false)) (dkey (.infinity true)) = .gt from Int.compare_eq_gt.2 (by show -big < big; omega)]
    · show some Ordering.lt = some _
      rw [show compare (dkey (.infinity true)) (dkey (.infinity false)) = .lt from Int.compare_eq_lt.2 (by show -big < big; omega)]
    · show some Ordering.eq = some _
      rw [show compare (dkey (.infinity true)) (dkey (.infinity true)) = .eq from Int.compare_eq_eq.2 rfl]

theorem fine_read (x : Nat) (h : double.order x x = some .eq) : Fine (double.read x) := by
  have hn : ∀ s t, double.read x ≠ .nan s t := by
    intro s t e
    unfold Format.order at h
    rw [e] at h
    cases h
  revert hn
  unfold Format.read
  generalize hneg : (x / double.signWeight % 2 == 1) = neg
  generalize hr : x % double.signWeight = rung
  have hb : double.binade = 2 ^ 52 := rfl
  have hi : double.infRung = 2047 * 2 ^ 52 := rfl
  simp only []
  split
  · intro _
    refine ⟨?_, by omega, by omega⟩
    rw [hb] at *
    omega
  · split
    · intro _
      rw [hb, hi] at *
      refine ⟨by omega, by omega, by omega⟩
    · split
      · intro _
        trivial
      · intro hn
        exact absurd rfl (hn _ _)

/-- THE LAW: of two doubles that are equal to themselves the order is that of the keys. -/
theorem order_fkey (x y : Nat) (hx : double.order x x = some .eq) (hy : double.order y y = some .eq) : double.order x y = some (compare (fkey x) (fkey y)) :=
  order_dkey _ _ (fine_read x hx) (fine_read y hy)

theorem gt_fkey (x y : Nat) (hx : double.order x x = some .eq) (hy : double.order y y = some .eq) : (double.order x y == some .gt) = decide (fkey y < fkey x) := by
  rw [order_fkey x y hx hy]
  by_cases h : fkey y < fkey x
  · rw [Int.compare_eq_gt.2 h, decide_eq_true h]; rfl
  · rw [decide_eq_false h]
    rw [beq_eq_false_iff_ne]
    intro e
    exact h (Int.compare_eq_gt.1 (Option.some.inj e))

theorem eq_fkey (x y : Nat) (hx : double.order x x = some .eq) (hy : double.order y y = some .eq) : (double.order x y == some .eq) = decide (fkey x = fkey y) := by
  rw [order_fkey x y hx hy]
  by_cases h : fkey x = fkey y
  · rw [Int.compare_eq_eq.2 h, decide_eq_true h]; rfl
  · rw [decide_eq_false h]
    rw [beq_eq_false_iff_ne]
    intro e
    exact h (Int.compare_eq_eq.1 (Option.some.inj e))
end Go.Proofs.Qxb6003856a
