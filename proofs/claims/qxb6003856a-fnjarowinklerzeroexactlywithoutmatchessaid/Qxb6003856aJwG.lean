/-
  Seat b6003856a. JaroWinkler: jaroWinkler.
-/
import Derived.Test.Qxb6003856aJwF
import Derived.Test.Qxb6003856aFPosB
import Derived.Laws.FloatArith
namespace Go.Proofs.Qxb6003856a
open Go.ChangeShapes Go.WideShapes Go.RowKit
set_option linter.unusedVariables false

/-- what jaroWinkler returns -/
def JRet (e : Ending) (f g : Nat → Int) (la lb : Nat) : Prop := ∃ s : Nat, e = .returned (.float .f64 s) ∧ ((¬ Hit f g la lb ∧ s = 0) ∨ (Hit f g la lb ∧ ∃ lo hi, R s lo hi))

theorem ofNat_nearest (n : Nat) : floatOfInt .f64 (n : Int) = Ieee.double.nearest false n 0 := by
  show Ieee.double.nearest (decide ((n : Int) < 0)) (n : Int).natAbs 0 = _
  rw [decide_eq_false (by omega), Int.natAbs_natCast]

theorem R3 : R 4613937818241073152 1 1 := ⟨1, by omega, by omega, 6755399441055744, -51, by kernel_rfl, by omega, by kernel_rfl⟩
theorem R10 : R 4621819117588971520 3 3 := ⟨3, by omega, by omega, 5629499534213120, -49, by kernel_rfl, by omega, by kernel_rfl⟩
theorem R7 : R 4619567317775286272 2 2 := ⟨2, by omega, by omega, 7881299347898368, -50, by kernel_rfl, by omega, by kernel_rfl⟩
theorem ten : (4621819117588971520 : Nat) = Ieee.double.nearest false 10 0 := by kernel_rfl

theorem do_mul {x y r : Nat} (h : Ieee.double.mul x y = some r) (w : World) : (binOp .mul 25 (.float .f64 x) (.float .f64 y)).run Try.prog w = .ok (.float .f64 r) w := run_float_arith w .mul 25 .f64 x y r h
theorem do_add {x y r : Nat} (h : Ieee.double.add x y = some r) (w : World) : (binOp .add 25 (.float .f64 x) (.float .f64 y)).run Try.prog w = .ok (.float .f64 r) w := run_float_arith w .add 25 .f64 x y r h
theorem do_sub {x y r : Nat} (h : Ieee.double.sub x y = some r) (w : World) : (binOp .sub 25 (.float .f64 x) (.float .f64 y)).run Try.prog w = .ok (.float .f64 r) w := run_float_arith w .sub 25 .f64 x y r h
theorem do_div {x y r : Nat} (h : Ieee.double.div x y = some r) (w : World) : (binOp .quo 25 (.float .f64 x) (.float .f64 y)).run Try.prog w = .ok (.float .f64 r) w := run_float_arith w .quo 25 .f64 x y r h

theorem min3 (la lb : Nat) (ts : Array TypeId) (ty : TypeId) (w : World) : (Builtin.min_ ts ty #[.int .i64 4, .int .i64 (la : Nat), .int .i64 (lb : Nat)]).run Try.prog w = .ok (.int .i64 ((min 4 (min la lb) : Nat) : Int)) w := by
  rw [run_min_int3]
  congr 2
  split <;> split <;> omega

theorem nums (la lb m t : Nat) (h1 : la ≠ 0) (h2 : lb ≠ 0) (h3 : m ≠ 0) (hla : la ≤ 65536) (hlb : lb ≤ 65536) (hm : m ≤ 65536) (ht : t < m) (LA LB FM T : Nat) (eLA : floatOfInt .f64 (la : Int) = LA) (eLB : floatOfInt .f64 (lb : Int) = LB) (eFM : floatOfInt .f64 (m : Int) = FM) (eT : floatOfInt .f64 (t : Int) = T) :
    ∃ q1 q2 q3 q4 q5 q6 num d1 d2 den n10 d7 s, Ieee.double.mul FM FM = some q1 ∧ Ieee.double.add LA LB = some q2 ∧ Ieee.double.mul q1 q2 = some q3 ∧ Ieee.double.mul LA LB = some q4 ∧ Ieee.double.sub FM T = some q5 ∧ Ieee.double.mul q4 q5 = some q6 ∧ Ieee.double.add q3 q6 = some num ∧
      Ieee.double.mul 4613937818241073152 LA = some d1 ∧ Ieee.double.mul d1 LB = some d2 ∧ Ieee.double.mul d2 FM = some den ∧ Ieee.double.mul 4621819117588971520 num = some n10 ∧ Ieee.double.mul 4619567317775286272 den = some d7 ∧ Ieee.double.div num den = some s ∧ R num 0 100 ∧ R den 0 100 ∧ ∃ lo hi, R s lo hi := by
  rw [ofNat_nearest] at eLA eLB eFM eT
  subst eLA eLB eFM eT
  have rA := R_nat la h1 hla
  have rB := R_nat lb h2 hlb
  have rM := R_nat m h3 hm
  obtain ⟨q1, e1, r1⟩ := R_mul rM rM (by omega) (by omega)
  obtain ⟨q2, e2, r2⟩ := R_add rA rB (by omega) (by omega) (by omega)
  obtain ⟨q3, e3, r3⟩ := R_mul r1 r2 (by omega) (by omega)
  obtain ⟨q4, e4, r4⟩ := R_mul rA rB (by omega) (by omega)
  obtain ⟨q5, e5, r5⟩ := R_sub m t ht hm
  obtain ⟨q6, e6, r6⟩ := R_mul r4 r5 (by omega) (by omega)
  obtain ⟨num, e7, r7⟩ := R_add r3 r6 (by omega) (by omega) (by omega)
  obtain ⟨d1, e8, r8⟩ := R_mul R3 rA (by omega) (by omega)
  obtain ⟨d2, e9, r9⟩ := R_mul r8 rB (by omega) (by omega)
  obtain ⟨den, e10, r10⟩ := R_mul r9 rM (by omega) (by omega)
  have rn : R num 0 100 := r7.wide (by omega) (by omega)
  have rd : R den 0 100 := r10.wide (by omega) (by omega)
  obtain ⟨n10, e11, r11⟩ := R_mul R10 rn (by omega) (by omega)
  obtain ⟨d7, e12, r12⟩ := R_mul R7 rd (by omega) (by omega)
  obtain ⟨s, e13, r13⟩ := R_div rn rd (by omega) (by omega)
  exact ⟨q1, q2, q3, q4, q5, q6, num, d1, d2, den, n10, d7, s, e1, e2, e3, e4, e5, e6, e7, e8, e9, e10, e11, e12, e13, rn, rd, _, _, r13⟩

theorem ends (p num den P : Nat) (hp : p ≤ 4) (rn : R num 0 100) (rd : R den 0 100) (eP : floatOfInt .f64 (p : Int) = P) :
    ∃ u1 u2 u3 u4 u5 s, Ieee.double.sub 4621819117588971520 P = some u1 ∧ Ieee.double.mul u1 num = some u2 ∧ Ieee.double.mul P den = some u3 ∧ Ieee.double.add u2 u3 = some u4 ∧ Ieee.double.mul 4621819117588971520 den = some u5 ∧ Ieee.double.div u4 u5 = some s ∧ ∃ lo hi, R s lo hi := by
  rw [ofNat_nearest] at eP
  subst eP
  obtain ⟨u1, e1, r1⟩ := R_sub 10 p (by omega) (by omega)
  rw [← ten] at e1
  obtain ⟨u2, e2, r2⟩ := R_mul r1 rn (by omega) (by omega)
  obtain ⟨u5, e5, r5⟩ := R_mul R10 rd (by omega) (by omega)
  by_cases h0 : p = 0
  · subst h0
    obtain ⟨u3, e3, r3⟩ := Z_mul Z_zero rd
    obtain ⟨u4, e4, r4⟩ := RZ_add r2 r3 (by omega) (by omega)
    obtain ⟨s, e6, r6⟩ := R_div r4 r5 (by omega) (by omega)
    exact ⟨u1, u2, u3, u4, u5, s, e1, e2, e3, e4, e5, e6, _, _, r6⟩
  · obtain ⟨u3, e3, r3⟩ := R_mul (R_nat p h0 (by omega)) rd (by omega) (by omega)
    obtain ⟨u4, e4, r4⟩ := R_add r2 r3 (by omega) (by omega) (by omega)
    obtain ⟨s, e6, r6⟩ := R_div r4 r5 (by omega) (by omega)
    exact ⟨u1, u2, u3, u4, u5, s, e1, e2, e3, e4, e5, e6, _, _, r6⟩

set_option maxRecDepth 100000 in
set_option maxHeartbeats 4000000 in
theorem jw21 (a : Option Addr) (la ac : Nat) (f : Nat → Int) (b : Option Addr) (lb bc : Nat) (g : Nat → Int) (w : World)
    (hA : Ru w a la f) (hB : Ru w b lb g) (hla : la ≤ 65536) (hlb : lb ≤ 65536) (hwa : ∀ i, i < la → (Lit.int .i32 (f i)).wf = true) (hwb : ∀ i, i < lb → (Lit.int .i32 (g i)).wf = true) :
    Calls Try.prog 21 #[.slice a la ac, .slice b lb bc] w fun e w' => JRet e f g la lb ∧ Below w.heap.size w w' := by
  obtain ⟨E, hE⟩ : ∃ E : Nat, min 4 (min la lb) = E := ⟨_, rfl⟩
  have hmin := min3 la lb
  rw [hE] at hmin
  have hEa : E ≤ la := by omega
  have hEb : E ≤ lb := by omega
  have hE4 : E ≤ 4 := by omega
  clear hE
  by_cases h64 : lb ≤ 64
  all_goals
    go_enter Try.func21, Try.ntmps21
    go_wp2_with fail
    first
      | refine (short25 a la ac f b lb bc g w hA hB hla h64).mono ?_
      | refine (long22 a la ac f b lb bc g w hA hB hla hlb hwa hwb).mono ?_
    rintro e w1 ⟨⟨m, t, rfl, hm, ht, hml⟩, hbel⟩
    by_cases hm0 : m = 0
    · subst hm0
      go_wp2_with fail
      go_ret
      exact ⟨⟨0, rfl, .inl ⟨fun h => absurd (hm.2 h) (by omega), rfl⟩⟩, hbel⟩
    have hhit : Hit f g la lb := hm.1 (by omega)
    have hla0 : la ≠ 0 := by obtain ⟨i, j, h1, h2, _⟩ := hhit; omega
    have hlb0 : lb ≠ 0 := by obtain ⟨i, j, h1, h2, _⟩ := hhit; omega
    obtain ⟨LA, eLA⟩ : ∃ x, floatOfInt .f64 (la : Int) = x := ⟨_, rfl⟩
    obtain ⟨LB, eLB⟩ : ∃ x, floatOfInt .f64 (lb : Int) = x := ⟨_, rfl⟩
    obtain ⟨FM, eFM⟩ : ∃ x, floatOfInt .f64 (m : Int) = x := ⟨_, rfl⟩
    obtain ⟨T, eT⟩ : ∃ x, floatOfInt .f64 (t : Int) = x := ⟨_, rfl⟩
    obtain ⟨q1, q2, q3, q4, q5, q6, num, d1, d2, den, n10, d7, s, e1, e2, e3, e4, e5, e6, e7, e8, e9, e10, e11, e12, e13, rn, rd, hs⟩ := nums la lb m t hla0 hlb0 hm0 hla hlb (by omega) (by omega) LA LB FM T eLA eLB eFM eT
    have f1 := do_mul e1
    have f2 := do_add e2
    have f3 := do_mul e3
    have f4 := do_mul e4
    have f5 := do_sub e5
    have f6 := do_mul e6
    have f7 := do_add e7
    have f8 := do_mul e8
    have f9 := do_mul e9
    have f10 := do_mul e10
    have f11 := do_mul e11
    have f12 := do_mul e12
    have f13 := do_div e13
    clear e1 e2 e3 e4 e5 e6 e7 e8 e9 e10 e11 e12 e13
    have hmb : ((m : Int) == 0) = false := by simp; exact hm0
    obtain ⟨B, hcmp⟩ : ∃ B, (FloatKind.f64.format.order n10 d7 == some .lt || FloatKind.f64.format.order n10 d7 == some .eq) = B := ⟨_, rfl⟩
    cases B
    · go_wp2_with fail
      clear f1 f2 f3 f4 f5 f6 f7 f8 f9 f10 f11 f12 f13 hcmp
      go_loopw [12] (fun pv wi => ∃ p : Nat, pv = .int .i64 p ∧ p ≤ E ∧ Below w.heap.size w wi) (fun pv _ => E - (intOf pv).toNat)
      case atStart => exact ⟨0, rfl, Nat.zero_le _, hbel⟩
      case round =>
        clear hbel
        obtain ⟨p, rfl, hpE, hbel⟩ := hrel
        by_cases hp : p < E
        · have hpd : decide ((p : Int) < (E : Int)) = true := decide_eq_true (by omega)
          obtain ⟨ab, aoff, rfl, hca⟩ := (hA.below hbel).at (show p < la by omega)
          obtain ⟨bb, boff, rfl, hcb⟩ := (hB.below hbel).at (show p < lb by omega)
          have hpa : (p : Int) < (la : Int) := by omega
          have hpb : (p : Int) < (lb : Int) := by omega
          by_cases heq : f p = g p
          · have hd : decide (f p = g p) = true := decide_eq_true heq
            go_wp2_with fail
            go_quiet (fail)
            go_wp2_with fail
            exact ⟨⟨p + 1, by go_num, by omega, ⟨hbel.os, hbel.tape, hbel.output, hbel.size, hbel.block⟩⟩, by simp [intOf]; omega⟩
          · have hd : decide (f p = g p) = false := decide_eq_false heq
            obtain ⟨PF, eP⟩ : ∃ x, floatOfInt .f64 (p : Int) = x := ⟨_, rfl⟩
            obtain ⟨u1, u2, u3, u4, u5, s', k1, k2, k3, k4, k5, k6, hs'⟩ := ends p num den PF (by omega) rn rd eP
            have j1 := do_sub k1
            have j2 := do_mul k2
            have j3 := do_mul k3
            have j4 := do_add k4
            have j5 := do_mul k5
            have j6 := do_div k6
            clear k1 k2 k3 k4 k5 k6
            go_wp2_with fail
            go_quiet (fail)
            go_wp2_with fail
            go_ret
            exact ⟨⟨s', rfl, .inr ⟨hhit, hs'⟩⟩, ⟨hbel.os, hbel.tape, hbel.output, hbel.size, hbel.block⟩⟩
        · have hpd : decide ((p : Int) < (E : Int)) = false := decide_eq_false (by omega)
          obtain ⟨PF, eP⟩ : ∃ x, floatOfInt .f64 (p : Int) = x := ⟨_, rfl⟩
          obtain ⟨u1, u2, u3, u4, u5, s', k1, k2, k3, k4, k5, k6, hs'⟩ := ends p num den PF (by omega) rn rd eP
          have j1 := do_sub k1
          have j2 := do_mul k2
          have j3 := do_mul k3
          have j4 := do_add k4
          have j5 := do_mul k5
          have j6 := do_div k6
          clear k1 k2 k3 k4 k5 k6
          go_wp2_with fail
          go_quiet (fail)
          go_wp2_with fail
          go_ret
          exact ⟨⟨s', rfl, .inr ⟨hhit, hs'⟩⟩, ⟨hbel.os, hbel.tape, hbel.output, hbel.size, hbel.block⟩⟩
    · go_wp2_with fail
      go_ret
      exact ⟨⟨s, rfl, .inr ⟨hhit, hs⟩⟩, hbel⟩
end Go.Proofs.Qxb6003856a
