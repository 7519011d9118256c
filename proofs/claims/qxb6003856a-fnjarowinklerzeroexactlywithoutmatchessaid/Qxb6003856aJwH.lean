/-
  Seat b6003856a. JaroWinkler: zzCopyRunes, zzBytes, the exported names, and the law's walk.
-/
import Derived.Test.Qxb6003856aJwG
namespace Go.Proofs.Qxb6003856a
open Go.ChangeShapes Go.WideShapes Go.RowKit
set_option linter.unusedVariables false

theorem nil22 (w : World) (a : Option Addr) (n c n' c' : Nat) : (binOp .eql 22 (.slice a n c) (.slice none n' c')).run Try.prog w = .ok (.bool a.isNone) w :=
  Lib.run_eql_slice_nil w _ _ a n c n' c' Try.underlying22

/-- a slice of runes that came in -/
structure RuIn (w : World) (a : Option Addr) (n c : Nat) (f : Nat → Int) : Prop where
  cells : n = 0 ∨ ∃ b off, a = some ⟨b, off, none⟩ ∧ ∀ i, i < n → w.cell? ⟨b, off + i, none⟩ = some (.int .i32 (f i))
  nil : a = none → n = 0 ∧ c = 0
  len : n ≤ maxLen
  wf : ∀ i, i < n → (Lit.int .i32 (f i)).wf = true

theorem RuIn.below {w w' : World} {a : Option Addr} {n c : Nat} {f : Nat → Int} (h : RuIn w a n c f) (hb : Below w.heap.size w w') : RuIn w' a n c f := by
  refine ⟨?_, h.nil, h.len, h.wf⟩
  rcases h.cells with h | ⟨b, off, rfl, hc⟩
  · exact .inl h
  · refine .inr ⟨b, off, rfl, fun i hi => ?_⟩
    rw [hb.cell (World.block_lt_of_cell? w _ (hc i hi))]
    exact hc i hi

/-- the content of the copy after k rounds -/
def upToR (f : Nat → Int) (k j : Nat) : Value := if j < k then .int .i32 (f j) else .int .i32 0

theorem upToR_step {t : TypeId} {w : World} {b n : Nat} {f : Nat → Int} {k : Nat} (h : w.rowIs b t n (upToR f k)) : (w.setCell ⟨b, k, none⟩ (.int .i32 (f k))).rowIs b t n (upToR f (k + 1)) := by
  refine (h.set k (.int .i32 (f k))).congr fun j hj => ?_
  unfold upToR
  by_cases e : j = k
  · subst e; simp
  · rw [if_neg e]
    by_cases e2 : j < k
    · rw [if_pos e2, if_pos (by omega)]
    · rw [if_neg e2, if_neg (by omega)]

theorem copy8_nil (w : World) :
    Calls Try.prog 8 #[.slice none 0 0] w fun e w' => e = .returned (.slice none 0 0) ∧ w' = w := by
  have hq := nil22
  go_enter Try.func8, Try.ntmps8
  go_wp2
  go_ret
  exact ⟨rfl, rfl⟩

set_option maxRecDepth 100000 in
theorem copy8_some (a : Addr) (n c : Nat) (f : Nat → Int) (w : World) (h : RuIn w (some a) n c f) (hn : n ≤ 1048576) :
    Calls Try.prog 8 #[.slice (some a) n c] w fun e w' => e = .returned (.slice (some ⟨w.heap.size, 0, none⟩) n n) ∧ w'.rowIs w.heap.size 21 n (upToR f n) ∧ Below w.heap.size w w' := by
  have hq := nil22
  have hmk := run_make_row' (P := Try.prog) 22 21 (.int .i32 0) 4 Try.underlying22 jinfo21 rfl .i64 .i64 n (by omega) (by omega)
  go_enter Try.func8, Try.ntmps8
  go_wp2
  go_loopw [4] (fun i wr => ∃ k : Nat, k ≤ n ∧ i = .int .i64 k ∧ wr.rowIs w.heap.size 21 n (upToR f k) ∧ Below w.heap.size w wr) (fun i _ => n - (intOf i).toNat)
  case atStart => exact ⟨0, Nat.zero_le _, rfl, (World.rowIs_made _ _ _ _).congr (fun j _ => by simp [upToR]), (Below.refl _ _).alloc (Nat.le_refl _) _⟩
  case round =>
    obtain ⟨k, hk, rfl, hrow, hbel⟩ := hrel
    by_cases hlt : k < n
    · rcases h.cells with h | ⟨b, off, ha, hc⟩
      · omega
      obtain rfl := Option.some.inj ha
      have hck := hc k hlt
      have hck2 : wr.cell? ⟨b, off + k, none⟩ = some (.int .i32 (f k)) := by rw [hbel.cell (World.block_lt_of_cell? w _ hck)]; exact hck
      have hfz := hrow.frozen k
      have hcl := hrow.cell hlt
      clear hc hq hmk
      obtain ⟨v, hv⟩ : ∃ v, upToR f k k = v := ⟨_, rfl⟩
      rw [hv] at hcl
      clear hv
      go_wp2
      exact ⟨⟨k + 1, by omega, by go_num, upToR_step hrow, hbel.setCell (Nat.le_refl _) _⟩, by simp [intOf]; omega⟩
    · have e : k = n := by omega
      subst e
      go_wp2
      go_ret
      exact ⟨rfl, hrow, hbel⟩

/-- zzCopyRunes -/
theorem copy8 (a : Option Addr) (n c : Nat) (f : Nat → Int) (w : World) (h : RuIn w a n c f) (hn : n ≤ 1048576) :
    Calls Try.prog 8 #[.slice a n c] w fun e w' => ∃ a' c', e = .returned (.slice a' n c') ∧ Ru w' a' n f ∧ Below w.heap.size w w' := by
  cases a with
  | none =>
    obtain ⟨rfl, rfl⟩ := h.nil rfl
    refine (copy8_nil w).mono ?_
    rintro e w' ⟨rfl, rfl⟩
    exact ⟨_, _, rfl, .inl ⟨rfl, rfl⟩, Below.refl _ _⟩
  | some a =>
    refine (copy8_some a n c f w h hn).mono ?_
    rintro e w' ⟨rfl, hrow, hb⟩
    refine ⟨_, _, rfl, .inr ⟨_, _, rfl, fun i hi => ?_⟩, hb⟩
    rw [Nat.zero_add, hrow.cell hi]
    simp [upToR, hi]

/-- some bool -/
def SomeB (e : Ending) : Prop := ∃ r : Bool, e = .returned (.bool r)

set_option maxRecDepth 100000 in
theorem zz10 (a : Option Addr) (la ac : Nat) (b : Option Addr) (lb bc : Nat) (w : World) (hla : la ≤ maxLen) (hlb : lb ≤ maxLen) :
    Calls Try.prog 10 #[.slice a la ac, .slice b lb bc] w fun e w' => SomeB e ∧ w' = w := by
  unfold maxLen at hla hlb
  by_cases h1 : 1048576 < la
  · go_enter Try.func10, Try.ntmps10
    go_wp2
    go_ret
    exact ⟨⟨_, rfl⟩, rfl⟩
  by_cases h2 : 1048576 < lb
  · go_enter Try.func10, Try.ntmps10
    go_wp2
    go_ret
    exact ⟨⟨_, rfl⟩, rfl⟩
  by_cases h3 : 1048576 < la + lb
  · have h4 : (1048576 : Int) < (la : Int) + (lb : Int) := by omega
    go_enter Try.func10, Try.ntmps10
    go_wp2
    go_ret
    exact ⟨⟨_, rfl⟩, rfl⟩
  · have h4 : ¬ ((1048576 : Int) < (la : Int) + (lb : Int)) := by omega
    go_enter Try.func10, Try.ntmps10
    go_wp2
    go_ret
    exact ⟨⟨_, rfl⟩, rfl⟩

set_option maxRecDepth 100000 in
theorem jw9 (a : Option Addr) (la ac : Nat) (f : Nat → Int) (b : Option Addr) (lb bc : Nat) (g : Nat → Int) (w : World)
    (hA : Ru w a la f) (hB : Ru w b lb g) (hla : la ≤ 65536) (hlb : lb ≤ 65536) (hwa : ∀ i, i < la → (Lit.int .i32 (f i)).wf = true) (hwb : ∀ i, i < lb → (Lit.int .i32 (g i)).wf = true) :
    Calls Try.prog 9 #[.slice a la ac, .slice b lb bc] w fun e w' => JRet e f g la lb ∧ Below w.heap.size w w' := by
  go_enter Try.func9, Try.ntmps9
  go_wp2_with fail
  refine (jw21 a la ac f b lb bc g w hA hB hla hlb hwa hwb).mono ?_
  rintro e w' ⟨⟨s, rfl, hs⟩, hb⟩
  go_wp2_with fail
  go_ret
  exact ⟨⟨s, rfl, hs⟩, hb⟩

set_option maxRecDepth 100000 in
theorem ml11 (a : Option Addr) (la ac : Nat) (f : Nat → Int) (b : Option Addr) (lb bc : Nat) (g : Nat → Int) (w : World)
    (hA : Ru w a la f) (hB : Ru w b lb g) (hla : la ≤ 65536) (hlb : lb ≤ 65536) (hwa : ∀ i, i < la → (Lit.int .i32 (f i)).wf = true) (hwb : ∀ i, i < lb → (Lit.int .i32 (g i)).wf = true) :
    Calls Try.prog 11 #[.slice a la ac, .slice b lb bc] w fun e w' => MRet e f g la lb ∧ Below w.heap.size w w' := by
  go_enter Try.func11, Try.ntmps11
  go_wp2_with fail
  refine (long22 a la ac f b lb bc g w hA hB hla hlb hwa hwb).mono ?_
  rintro e w' ⟨⟨m, t, rfl, hm⟩, hb⟩
  go_wp2_with fail
  go_ret2
  exact ⟨⟨m, t, rfl, hm⟩, hb⟩

set_option maxRecDepth 100000 in
set_option maxHeartbeats 2000000 in
theorem walk4 (a : Option Addr) (la ac : Nat) (f : Nat → Int) (b : Option Addr) (lb bc : Nat) (g : Nat → Int) (w : World) (hA : RuIn w a la ac f) (hB : RuIn w b lb bc g) :
    Calls Try.prog 4 #[.slice a la ac, .slice b lb bc] w fun e w' => e = .returned (.bool true) ∧ Below w.heap.size w w' := by
  go_enter Try.func4, Try.ntmps4
  go_wp2_with fail
  refine (zz10 a la ac b lb bc w hA.len hB.len).mono ?_
  rintro e w' ⟨⟨r, rfl⟩, rfl⟩
  cases r
  · go_wp2_with fail
    go_ret
    exact ⟨rfl, Below.refl _ _⟩
  by_cases h1 : 65536 < la
  · go_wp2_with fail
    go_ret
    exact ⟨rfl, Below.refl _ _⟩
  by_cases h2 : 65536 < lb
  · go_wp2_with fail
    go_ret
    exact ⟨rfl, Below.refl _ _⟩
  go_wp2_with fail
  refine (copy8 a la ac f w' hA (by omega)).mono ?_
  rintro e w1 ⟨a1, c1, rfl, hA1, hb1⟩
  go_wp2_with fail
  refine (copy8 b lb bc g w1 (hB.below hb1) (by omega)).mono ?_
  rintro e w2 ⟨a2, c2, rfl, hB2, hb2⟩
  have hA2 := hA1.below hb2
  go_wp2_with fail
  refine (jw9 a1 la c1 f a2 lb c2 g w2 hA2 hB2 (by omega) (by omega) hA.wf hB.wf).mono ?_
  rintro e w3 ⟨⟨s, rfl, hs⟩, hb3⟩
  go_wp2_with fail
  refine (ml11 a1 la c1 f a2 lb c2 g w3 (hA2.below hb3) (hB2.below hb3) (by omega) (by omega) hA.wf hB.wf).mono ?_
  rintro e w4 ⟨⟨m, t, rfl, hm, _, _⟩, hb4⟩
  have hb : Below w'.heap.size w' w4 := ((hb1.trans (hb2.mono hb1.size)).trans (hb3.mono (Nat.le_trans hb1.size hb2.size))).trans (hb4.mono (Nat.le_trans (Nat.le_trans hb1.size hb2.size) hb3.size))
  clear hb1 hb2 hb3 hb4 hA1 hA2 hB2 hA hB
  rcases hs with ⟨hno, rfl⟩ | ⟨hyes, lo, hi, hR⟩
  · have hm0 : m = 0 := by
      by_cases h : m = 0
      · exact h
      · exact absurd (hm.1 (by omega)) hno
    subst hm0
    have ho : FloatKind.f64.format.order 0 0 = some .eq := by kernel_rfl
    go_wp2_with fail
    go_ret
    exact ⟨rfl, hb⟩
  · have hm0 : ((m : Int) == 0) = false := by
      have := hm.2 hyes
      simp; omega
    have ho : FloatKind.f64.format.order s 0 = some .gt := R_ne hR
    go_wp2_with fail
    go_ret
    exact ⟨rfl, hb⟩
end Go.Proofs.Qxb6003856a
