/-
  Seat b6003851a. 'Rows.FnStringSpansAgreeWithElemsSaid' proved. (The row's step after the given shell.)
-/
import Derived.Test.Qxb6003851aRows
import Derived.Test.Qxb6003851aArchD
import Derived.ProofKit
import Derived.OpenShut
import Derived.ShutString
import Derived.ChangeOld
namespace Go.Proofs.Qxb6003851a
open Go.ChangeShapes Go.WideShapes Go.ChangeAt Go.RowKit
open Go.ChangeMaps (open_string shut_string)
set_option linter.unusedVariables false

theorem spans_own : ownKnob Try.prog.godebug = none := by kernel_rfl
theorem spans_laidOut : laidOutB Try.prog = true := by kernel_rfl

/-- a slice of integers that came in -/
def IsRowI (k : IntKind) (w : World) (a : Option Addr) (len cap : Nat) (zs : List Int) : Prop :=
  (a = none ∧ len = 0 ∧ cap = 0 ∧ zs = []) ∨
  ∃ x, a = some x ∧ len ≤ cap ∧ cap ≤ maxLen ∧ zs.length = cap ∧ (∀ i, i < zs.length → w.cell? (x.add i) = some (.int k (zs.getD i 0))) ∧ ∀ n ∈ zs, (Lit.int k n).wf = true

theorem IsRowI.ints {k : IntKind} {w : World} {a : Option Addr} {len cap : Nat} {zs : List Int} (h : IsRowI k w a len cap zs) :
    Ints k w a len (fun i => zs.getD i 0) ∧ len ≤ maxLen ∧ (a = none → len = 0 ∧ cap = 0) ∧ (∀ i, i < len → (Lit.int k (zs.getD i 0)).wf = true) := by
  rcases h with ⟨rfl, rfl, rfl, rfl⟩ | ⟨x, rfl, hl, hm, hz, hc, hw⟩
  · exact ⟨.inl rfl, by simp [maxLen], fun _ => ⟨rfl, rfl⟩, fun i hi => by omega⟩
  · refine ⟨?_, Nat.le_trans hl hm, (fun h => by cases h), fun i hi => hw _ ?_⟩
    · by_cases h0 : len = 0
      · exact .inl h0
      · obtain ⟨b, off, spot⟩ := x
        have hspot : spot = none := by simpa [Addr.add] using World.cell?_spot (hc 0 (by omega))
        subst hspot
        exact .inr ⟨b, off, rfl, fun i hi => by rw [← add_plain]; exact hc i (by omega)⟩
    · rw [List.getD_eq_getElem?_getD, List.getElem?_eq_getElem (by omega)]
      exact List.getElem_mem _

theorem spans_walk (a0 : Int) (a1 : Option Addr) (len1 cap1 : Nat) (z1 : List Int) (a2 : Option Addr) (len2 cap2 : Nat) (z2 : List Int) (a3 : Int) (w : World) (w0 : (Lit.int .u32 a0).wf = true) (w1 : IsRowI .u32 w a1 len1 cap1 z1) (w2 : IsRowI .u8 w a2 len2 cap2 z2) (w3 : (Lit.int .i64 a3).wf = true) :
    Calls Try.prog 3 #[.int .u32 a0, .slice a1 len1 cap1, .slice a2 len2 cap2, .int .i64 a3] w fun e w' => e = .returned (.bool true) ∧ Below w.heap.size w w' := by
  obtain ⟨i1, l1, n1, f1⟩ := w1.ints
  obtain ⟨i2, l2, n2, f2⟩ := w2.ints
  have b0 := bounds_u32 w0
  have b3 := bounds_i64 w3
  obtain ⟨se, rfl⟩ := Int.eq_ofNat_of_zero_le b0.1
  have i1' : Ints .u32 w a1 len1 (fun i => (((z1.getD i 0).toNat : Nat) : Int)) := by
    rcases i1 with h | ⟨b, off, ha, hc⟩
    · exact .inl h
    · refine .inr ⟨b, off, ha, fun i hi => ?_⟩
      have := bounds_u32 (f1 i hi)
      rw [hc i hi]
      exact congrArg some (int_eq (by show z1.getD i 0 = (((z1.getD i 0).toNat : Nat) : Int); omega))
  exact walk3 se a3 a1 a2 len1 cap1 len2 cap2 (fun i => (z1.getD i 0).toNat) (fun i => z2.getD i 0) w (by omega) (by omega) i1' l1 n1 (fun i hi => by have := bounds_u32 (f1 i hi); show (z1.getD i 0).toNat < 4294967296; omega) i2 l2 n2

set_option maxRecDepth 100000 in
theorem spans_lifted (os : Os) (started : os.Started) (H : Type) (enc : TypeId × Value → H) :
    ReturnsInHanded {} Try.checked os 3 .any (Rows.fnStringSpansAgreeWithElemsSpec.pre6 enc Try.prog Try.f3 Rows.fnStringSpansAgreeWithElemsRow.domain false) (Rows.fnStringSpansAgreeWithElemsSpec.post enc Try.prog Try.f3 false true false false) := by
  refine returnsInHanded_of_change (C := Try.checked) spans_own started (by kernel_rfl) Try.func3
    (ChangeSpec.witness6 (enc := enc) (C := Try.checked) false ⟨#[], #[.int .u32 0, .slice none 0 0, .slice none 0 0, .int .i64 0], []⟩ 8 (by kernel_rfl) (by kernel_rfl) (by kernel_rfl) (by kernel_rfl)) ?_
  intro W base args ds gs before hval0 hW hcnd _
  have hval : ∀ (j : Nat) t v, Try.f3.params[j]? = some t → args[j]? = some v → Value.okWide Try.prog W .any base t v := hval0
  have hW' := hW
  obtain ⟨p, q, hA0, hV, rfl, hfz, hnd⟩ := hW
  have hA : DataW.TrodAll enc Try.prog W 0 (fun _ => true) true Try.f3.params.toList args.toList ds p := hA0
  rw [Try.params3] at hA hval
  obtain ⟨v0, vs0, d0, ds0, p0, q0, hargs, rfl, rfl, h0, r0⟩ := trodAll_cons hA
  obtain ⟨v1, vs1, d1, ds1, p1, q1, rfl, rfl, rfl, h1, r1⟩ := trodAll_cons r0
  obtain ⟨v2, vs2, d2, ds2, p2, q2, rfl, rfl, rfl, h2, r2⟩ := trodAll_cons r1
  obtain ⟨v3, vs3, d3, ds3, p3, q3, rfl, rfl, rfl, h3, r3⟩ := trodAll_cons r2
  obtain ⟨rfl, rfl, rfl⟩ := trodAll_nil r3
  obtain rfl : args = #[v0, v1, v2, v3] := by cases args; simp_all
  obtain ⟨rfl, rfl⟩ := trodVars_none hV
  obtain ⟨a0, rfl, rfl, rfl, w0⟩ := open_int Try.underlying22 (hval 0 22 v0 rfl rfl) h0
  obtain ⟨a1, len1, cap1, rfl⟩ := okWide_slice Try.underlying23 (hval 1 23 v1 rfl rfl)
  have k1 := h1
  have lt1 : ∀ x ∈ p1, x.block < W.heap.size := by obtain ⟨m, hm⟩ := k1; exact DataW.trod_lt m _ _ _ hm
  obtain ⟨z1, w1⟩ : ∃ zs, IsRowI .u32 W a1 len1 cap1 zs := by
    obtain ⟨fuel, hf⟩ := h1
    rcases open_ints Try.underlying23 Try.underlying22 (by kernel_rfl) hf with ⟨hcs, _⟩ | ⟨x, l, c, zs, hcs, _, hl, hm, hz, _, hcell, hwz⟩
    · simp [Value.cells] at hcs
      obtain ⟨rfl, rfl, rfl⟩ := hcs
      exact ⟨[], .inl ⟨rfl, rfl, rfl, rfl⟩⟩
    · simp [Value.cells] at hcs
      obtain ⟨rfl, rfl, rfl⟩ := hcs
      exact ⟨zs, .inr ⟨_, rfl, hl, hm, by simpa using hz, hcell, hwz⟩⟩
  obtain ⟨a2, len2, cap2, rfl⟩ := okWide_slice Try.underlying24 (hval 2 24 v2 rfl rfl)
  have k2 := h2
  have lt2 : ∀ x ∈ p2, x.block < W.heap.size := by obtain ⟨m, hm⟩ := k2; exact DataW.trod_lt m _ _ _ hm
  obtain ⟨z2, w2⟩ : ∃ zs, IsRowI .u8 W a2 len2 cap2 zs := by
    obtain ⟨fuel, hf⟩ := h2
    rcases open_ints Try.underlying24 Try.underlying5 (by kernel_rfl) hf with ⟨hcs, _⟩ | ⟨x, l, c, zs, hcs, _, hl, hm, hz, _, hcell, hwz⟩
    · simp [Value.cells] at hcs
      obtain ⟨rfl, rfl, rfl⟩ := hcs
      exact ⟨[], .inl ⟨rfl, rfl, rfl, rfl⟩⟩
    · simp [Value.cells] at hcs
      obtain ⟨rfl, rfl, rfl⟩ := hcs
      exact ⟨zs, .inr ⟨_, rfl, hl, hm, by simpa using hz, hcell, hwz⟩⟩
  obtain ⟨a3, rfl, rfl, rfl, w3⟩ := open_int Try.underlying3 (hval 3 3 v3 rfl rfl) h3
  clear hA0 hval0
  refine (spans_walk a0 a1 len1 cap1 z1 a2 len2 cap2 z2 a3 W w0 w1 w2 w3).mono fun e W' ⟨he, bel⟩ => ?_
  subst he
  exact ⟨_, rfl, _, _, _, [], _, [], hW', trodAll_mk1 (shut_bool Try.underlying4 _), (trodAll_cons_mk (shut_int Try.underlying22 w0) (trodAll_cons_mk (Below.trod spans_laidOut (by kernel_rfl) (of_decide_eq_true (by kernel_rfl)) k1 bel lt1) (trodAll_cons_mk (Below.trod spans_laidOut (by kernel_rfl) (of_decide_eq_true (by kernel_rfl)) k2 bel lt2) (trodAll_cons_mk (shut_int Try.underlying3 w3) trodAll_mk0)))), rfl, bel.frame _, fun h => by cases h⟩

theorem spans_over : Rows.fnStringSpansAgreeWithElemsRow.holds Try.pinned (OpenSpec.ofChange Rows.fnStringSpansAgreeWithElemsSpec) :=
  OpenClaim.holds_of_wide 3 Try.f3 rfl rfl rfl rfl rfl rfl rfl ⟨rfl, rfl, rfl, rfl, rfl⟩ rfl rfl rfl rfl rfl (by kernel_rfl) Try.func3 (by kernel_rfl)
    (of_decide_eq_true (by kernel_rfl)) (by unfold Func.isWrapper; first | (rw [if_pos (by decide +kernel)]; kernel_rfl) | (rw [if_neg (by decide +kernel)]; exact ⟨rfl, rfl⟩))
    (fun os started H enc _ => spans_lifted os started H enc)

/-- ████ THE STATEMENT ████ -/
theorem spans_proved : Rows.FnStringSpansAgreeWithElemsSaid := spans_over
#print axioms spans_proved
end Go.Proofs.Qxb6003851a
