/-
  Seat b6003856a. JaroWinkler: matchShort.
-/
import Derived.Test.Qxb6003856aJwB
import Derived.Lib.MinMax
import Derived.Deep.OwnRows
namespace Go.Proofs.Qxb6003856a
open Go.ChangeShapes Go.WideShapes Go.RowKit
set_option linter.unusedVariables false

/-- what either matcher returns -/
def MRet (e : Ending) (f g : Nat → Int) (la lb : Nat) : Prop := ∃ m t : Nat, e = .returned (.tuple #[.int .i64 m, .int .i64 t]) ∧ (0 < m ↔ Hit f g la lb) ∧ 2 * t ≤ m ∧ m ≤ lb

/-- matchShort's memory: the word in block V, the characters of a that match in block V + 1 -/
structure SS (V x : Nat) (z : Nat → Int) (w : World) : Prop where
  word : w.rowIs V 53 1 (fun _ => .int .u64 (x : Nat))
  arr : w.rowIs (V + 1) 54 64 (fun i => .int .i32 (z i))

theorem SS.of {V x : Nat} {z : Nat → Int} {w w' : World} (h : SS V x z w) (e : w'.heap = w.heap) : SS V x z w' := ⟨h.word.of_block (by rw [e]), h.arr.of_block (by rw [e])⟩

theorem SS.mark {V x : Nat} {z : Nat → Int} {w : World} (h : SS V x z w) (x' m : Nat) (r : Int) :
    SS V x' (fun i => if i = m then r else z i) ((w.setCell ⟨V, 0, none⟩ (.int .u64 (x' : Nat))).setCell ⟨V + 1, m, none⟩ (.int .i32 r)) := by
  refine ⟨((h.word.set 0 _).setOther (by show V ≠ V + 1; omega) _).congr (fun i hi => ?_), ((h.arr.setOther (by show V + 1 ≠ V; omega) _).set m _).congr (fun i hi => ?_)⟩
  · have : i = 0 := by omega
    subst this; rfl
  · by_cases e : i = m
    · rw [if_pos e, if_pos e]
    · rw [if_neg e, if_neg e]

/-- what is known after i rounds -/
structure SI (f g : Nat → Int) (la lb i m x : Nat) : Prop where
  cm : m = cnt x.testBit lb
  lt : x < 2 ^ 64
  pos : 0 < m → Hit f g la lb
  zero : m = 0 → ∀ i', i' < i → ∀ j, j < lb → i' ≤ j + win la lb → j ≤ i' + win la lb → f i' ≠ g j

theorem SI.start (f g : Nat → Int) (la lb : Nat) : SI f g la lb 0 0 0 :=
  ⟨by rw [show (0 : Nat).testBit = fun _ => false from funext fun j => Nat.zero_testBit j, cnt_false], by omega, by omega, fun _ i' h => by omega⟩

theorem SI.hit {f g : Nat → Int} {la lb i m x : Nat} (h : SI f g la lb i m x) (j : Nat) (hi : i < la) (hj : j < lb) (hlb : lb ≤ 64) (e : g j = f i) (w1 : i ≤ j + win la lb) (w2 : j ≤ i + win la lb) (hb : x.testBit j = false) :
    SI f g la lb (i + 1) (m + 1) (x ||| 2 ^ j) := by
  refine ⟨?_, or_lt64 h.lt (by omega), fun _ => ⟨i, j, hi, hj, e.symm, w1, w2⟩, by omega⟩
  rw [cnt_set x.testBit (x ||| 2 ^ j).testBit j hb or_same (fun i hi => or_other hi) lb, if_pos hj, ← h.cm]

theorem SI.miss {f g : Nat → Int} {la lb i m x : Nat} (h : SI f g la lb i m x) (hno : ∀ j, j < lb → i ≤ j + win la lb → j ≤ i + win la lb → ¬ (g j = f i ∧ x.testBit j = false)) : SI f g la lb (i + 1) m x := by
  refine ⟨h.cm, h.lt, h.pos, fun h0 i' hi' j hj w1 w2 e => ?_⟩
  by_cases hi : i' = i
  · subst hi
    exact hno j hj w1 w2 ⟨e.symm, cnt_zero (by rw [← h.cm]; exact h0) hj⟩
  · exact h.zero h0 i' (by omega) j hj w1 w2 e

theorem SI.room {f g : Nat → Int} {la lb i m x : Nat} (h : SI f g la lb i m x) {j : Nat} (hj : j < lb) (hb : x.testBit j = false) : m < lb := by
  have h1 := cnt_set x.testBit (x ||| 2 ^ j).testBit j hb or_same (fun i hi => or_other hi) lb
  have h2 := cnt_le (x ||| 2 ^ j).testBit lb
  rw [if_pos hj] at h1
  have := h.cm
  omega

theorem SI.atEnd {f g : Nat → Int} {la lb m x : Nat} (h : SI f g la lb la m x) : 0 < m ↔ Hit f g la lb := by
  refine ⟨h.pos, fun ⟨i, j, hi, hj, e, w1, w2⟩ => ?_⟩
  by_cases h0 : m = 0
  · exact absurd e (h.zero h0 i hi j hj w1 w2)
  · omega

theorem zeros64 : (#[.int .i32 0, .int .i32 0, .int .i32 0, .int .i32 0, .int .i32 0, .int .i32 0, .int .i32 0, .int .i32 0, .int .i32 0, .int .i32 0, .int .i32 0, .int .i32 0, .int .i32 0, .int .i32 0, .int .i32 0, .int .i32 0, .int .i32 0, .int .i32 0, .int .i32 0, .int .i32 0, .int .i32 0, .int .i32 0, .int .i32 0, .int .i32 0, .int .i32 0, .int .i32 0, .int .i32 0, .int .i32 0, .int .i32 0, .int .i32 0, .int .i32 0, .int .i32 0, .int .i32 0, .int .i32 0, .int .i32 0, .int .i32 0, .int .i32 0, .int .i32 0, .int .i32 0, .int .i32 0, .int .i32 0, .int .i32 0, .int .i32 0, .int .i32 0, .int .i32 0, .int .i32 0, .int .i32 0, .int .i32 0, .int .i32 0, .int .i32 0, .int .i32 0, .int .i32 0, .int .i32 0, .int .i32 0, .int .i32 0, .int .i32 0, .int .i32 0, .int .i32 0, .int .i32 0, .int .i32 0, .int .i32 0, .int .i32 0, .int .i32 0, .int .i32 0] : Array Value) = Array.replicate 64 (.int .i32 0) := rfl

theorem sl54 (A m : Nat) (hm : m ≤ 64) (w : World) : (Instr.sliceAt 54 (.pointer (some ⟨A, 0, none⟩)) none (some (.int .i64 (m : Nat))) none).run Try.prog w = .ok (.slice (some ⟨A, 0, none⟩) m 64) w := by
  have hal : Try.prog.arrayLen 54 = 64 := by kernel_rfl
  have hsz : (sizeOf (Try.prog.elem 54)).run Try.prog w = .ok 1 w := by kernel_rfl
  have h := run_sliceAt_array_h (P := Try.prog) (w := w) (t := 54) (a := ⟨A, 0, none⟩) (by kernel_rfl) .i64 (m : Int) (by omega) (by rw [hal]; omega)
  rw [h, hal, hsz]
  simp [slicedAt, Result.andThen, Addr.add]

theorem call28 (args : Array Value) (w : World) : (callFunc 28 args).run Try.prog w = .ok (.enter 28 args) w := by simp [go_sem]
theorem call27 (args : Array Value) (w : World) : (callFunc 27 args).run Try.prog w = .ok (.enter 27 args) w := by simp [go_sem]

set_option maxRecDepth 100000 in
set_option maxHeartbeats 2000000 in
theorem short25 (a : Option Addr) (la ac : Nat) (f : Nat → Int) (b : Option Addr) (lb bc : Nat) (g : Nat → Int) (w : World)
    (hA : Ru w a la f) (hB : Ru w b lb g) (hla : la ≤ 65536) (hlb : lb ≤ 64) :
    Calls Try.prog 25 #[.slice a la ac, .slice b lb bc] w fun e w' => MRet e f g la lb ∧ Below w.heap.size w w' := by
  obtain ⟨W, hW⟩ : ∃ W : Nat, win la lb = W := ⟨_, rfl⟩
  have hWl : W ≤ 65536 := by rw [← hW]; unfold win; omega
  have hwin : max (max (la : Int) (lb : Int) / 2 - 1) 0 = (W : Int) := by rw [← hW]; unfold win; omega
  have HW : Hid (win la lb = W) := hW
  clear hW
  have hmf : ∀ (fn : Fn) (first cap : Array Value) (w : World), (Instr.makeFunc fn first cap).run Try.prog w = .ok (.func fn first cap) w := fun _ _ _ _ => rfl
  go_enter Try.func25, Try.ntmps25
  go_wp2_with fail
  have hst : SS w.heap.size 0 (fun _ => 0) ((w.alloc (.cells #[.int .u64 0] 53)).alloc (.cells #[.int .i32 0, .int .i32 0, .int .i32 0, .int .i32 0, .int .i32 0, .int .i32 0, .int .i32 0, .int .i32 0, .int .i32 0, .int .i32 0, .int .i32 0, .int .i32 0, .int .i32 0, .int .i32 0, .int .i32 0, .int .i32 0, .int .i32 0, .int .i32 0, .int .i32 0, .int .i32 0, .int .i32 0, .int .i32 0, .int .i32 0, .int .i32 0, .int .i32 0, .int .i32 0, .int .i32 0, .int .i32 0, .int .i32 0, .int .i32 0, .int .i32 0, .int .i32 0, .int .i32 0, .int .i32 0, .int .i32 0, .int .i32 0, .int .i32 0, .int .i32 0, .int .i32 0, .int .i32 0, .int .i32 0, .int .i32 0, .int .i32 0, .int .i32 0, .int .i32 0, .int .i32 0, .int .i32 0, .int .i32 0, .int .i32 0, .int .i32 0, .int .i32 0, .int .i32 0, .int .i32 0, .int .i32 0, .int .i32 0, .int .i32 0, .int .i32 0, .int .i32 0, .int .i32 0, .int .i32 0, .int .i32 0, .int .i32 0, .int .i32 0, .int .i32 0] 54)) := by
    have hs1 : (w.alloc (.cells #[.int .u64 0] 53)).heap.size = w.heap.size + 1 := by simp
    refine ⟨World.rowIs.alloc (World.rowIs_alloc w #[.int .u64 0] 53 _ (fun i hi => ?_)) _, ?_⟩
    · have : i = 0 := by simpa using hi
      subst this; rfl
    · rw [zeros64]
      have := World.rowIs_alloc (w.alloc (.cells #[.int .u64 0] 53)) (Array.replicate 64 (.int .i32 0)) 54 (fun _ => .int .i32 0) (fun i hi => by rw [Array.getElem?_replicate, if_pos (by simpa using hi)])
      rw [hs1, Array.size_replicate] at this
      exact this
  have hbel : Below w.heap.size w ((w.alloc (.cells #[.int .u64 0] 53)).alloc (.cells #[.int .i32 0, .int .i32 0, .int .i32 0, .int .i32 0, .int .i32 0, .int .i32 0, .int .i32 0, .int .i32 0, .int .i32 0, .int .i32 0, .int .i32 0, .int .i32 0, .int .i32 0, .int .i32 0, .int .i32 0, .int .i32 0, .int .i32 0, .int .i32 0, .int .i32 0, .int .i32 0, .int .i32 0, .int .i32 0, .int .i32 0, .int .i32 0, .int .i32 0, .int .i32 0, .int .i32 0, .int .i32 0, .int .i32 0, .int .i32 0, .int .i32 0, .int .i32 0, .int .i32 0, .int .i32 0, .int .i32 0, .int .i32 0, .int .i32 0, .int .i32 0, .int .i32 0, .int .i32 0, .int .i32 0, .int .i32 0, .int .i32 0, .int .i32 0, .int .i32 0, .int .i32 0, .int .i32 0, .int .i32 0, .int .i32 0, .int .i32 0, .int .i32 0, .int .i32 0, .int .i32 0, .int .i32 0, .int .i32 0, .int .i32 0, .int .i32 0, .int .i32 0, .int .i32 0, .int .i32 0, .int .i32 0, .int .i32 0, .int .i32 0, .int .i32 0] 54)) := ((Below.refl _ _).alloc (Nat.le_refl _) _).alloc (by simp) _
  generalize (w.alloc (.cells #[.int .u64 0] 53)).alloc (.cells #[.int .i32 0, .int .i32 0, .int .i32 0, .int .i32 0, .int .i32 0, .int .i32 0, .int .i32 0, .int .i32 0, .int .i32 0, .int .i32 0, .int .i32 0, .int .i32 0, .int .i32 0, .int .i32 0, .int .i32 0, .int .i32 0, .int .i32 0, .int .i32 0, .int .i32 0, .int .i32 0, .int .i32 0, .int .i32 0, .int .i32 0, .int .i32 0, .int .i32 0, .int .i32 0, .int .i32 0, .int .i32 0, .int .i32 0, .int .i32 0, .int .i32 0, .int .i32 0, .int .i32 0, .int .i32 0, .int .i32 0, .int .i32 0, .int .i32 0, .int .i32 0, .int .i32 0, .int .i32 0, .int .i32 0, .int .i32 0, .int .i32 0, .int .i32 0, .int .i32 0, .int .i32 0, .int .i32 0, .int .i32 0, .int .i32 0, .int .i32 0, .int .i32 0, .int .i32 0, .int .i32 0, .int .i32 0, .int .i32 0, .int .i32 0, .int .i32 0, .int .i32 0, .int .i32 0, .int .i32 0, .int .i32 0, .int .i32 0, .int .i32 0, .int .i32 0] 54) = Wst at *
  have hVs : w.heap.size + 1 < Wst.heap.size := hst.arr.lt
  go_loopw [4, 22] (fun mv iv wr => ∃ (m i x : Nat) (z : Nat → Int), mv = .int .i64 m ∧ iv = .int .i64 i ∧ i ≤ la ∧ SI f g la lb i m x ∧ SS w.heap.size x z wr ∧ Below w.heap.size w wr) (fun _ iv _ => la - (intOf iv).toNat)
  case atStart => exact ⟨0, 0, 0, _, rfl, rfl, Nat.zero_le _, SI.start f g la lb, hst, hbel⟩
  case round =>
    clear hst hbel hVs
    obtain ⟨m, i, x, z, rfl, rfl, hi, hSI, hSS, hbel⟩ := hrel
    have hml : m ≤ 64 := by rw [hSI.cm]; exact Nat.le_trans (cnt_le _ _) hlb
    by_cases hil : i < la
    · obtain ⟨ab, aoff, rfl, hca⟩ := (hA.below hbel).at hil
      obtain ⟨S, hS⟩ : ∃ S : Nat, i - W = S := ⟨_, rfl⟩
      obtain ⟨E, hE⟩ : ∃ E : Nat, min (i + W + 1) lb = E := ⟨_, rfl⟩
      have hst : max ((i : Int) - (W : Int)) 0 = (S : Int) := by omega
      have hen : min ((i : Int) + (W : Int) + 1) (lb : Int) = (E : Int) := by omega
      have HS : Hid (i - W = S) := hS
      have HE : Hid (min (i + W + 1) lb = E) := hE
      clear hS hE
      go_wp2_with fail
      go_loopw [4, 11] (fun mv jv wi => ∃ j : Nat, mv = .int .i64 m ∧ jv = .int .i64 j ∧ S ≤ j ∧ (∀ j', S ≤ j' → j' < j → ¬ (g j' = f i ∧ x.testBit j' = false)) ∧ SS w.heap.size x z wi ∧ Below w.heap.size w wi) (fun _ jv _ => lb - (intOf jv).toNat)
      case atStart => exact ⟨S, rfl, rfl, Nat.le_refl _, fun j' h1 h2 => by omega, hSS, hbel⟩
      case round =>
        clear hSS hbel hca
        obtain ⟨j, rfl, rfl, hSj, hno, hSS, hbel⟩ := hrel
        have hcx := hSS.word.cell (i := 0) (by omega)
        have hfx := hSS.word.frozen 0
        by_cases hjE : j < E
        · have hjl : j < lb := by have h : min (i + W + 1) lb = E := HE; omega
          have hdE : decide ((j : Int) < (E : Int)) = true := decide_eq_true (by omega)
          have hd0 : decide ((j : Int) < 0) = false := decide_eq_false (by omega)
          obtain ⟨bb, boff, rfl, hcb⟩ := (hB.below hbel).at hjl
          have hbit := and_eq (j := j) hSI.lt (by omega)
          have hor := or_pow (j := j) hSI.lt (by omega)
          by_cases heq : g j = f i
          · have hd : decide (g j = f i) = true := decide_eq_true heq
            cases hb : x.testBit j
            · rw [hb] at hbit
              have hm64 : m < 64 := Nat.lt_of_lt_of_le (hSI.room hjl hb) hlb
              go_wp2_with fail
              go_quiet (fail)
              go_wp2_with fail
              go_region
              have hSS1 : SS w.heap.size x z (wr.drewN (nq + 1)) := hSS.of rfl
              have hbel1 : Below w.heap.size w (wr.drewN (nq + 1)) := ⟨hbel.os, hbel.tape, hbel.output, hbel.size, hbel.block⟩
              have hSS2 := hSS1.mark (x ||| 2 ^ j) m (f i)
              have hbel2 : Below w.heap.size w ((wr.drewN (nq + 1)).setCell ⟨w.heap.size, 0, none⟩ (.int .u64 (x ||| 2 ^ j : Nat))) := hbel1.setCell (Nat.le_refl _) _
              have harr := hSS1.arr.setOther (a := ⟨w.heap.size, 0, none⟩) (by show w.heap.size + 1 ≠ w.heap.size; omega) (.int .u64 (x ||| 2 ^ j : Nat))
              have hcm := harr.cell hm64
              have hfm := harr.frozen m
              clear harr hSS1 hbel1 hcx hfx hcb
              generalize (wr.drewN (nq + 1)).setCell ⟨w.heap.size, 0, none⟩ (.int .u64 (x ||| 2 ^ j : Nat)) = W1 at *
              go_wp2_with fail
              refine ⟨⟨m + 1, i + 1, x ||| 2 ^ j, _, by go_num, by go_num, by omega, hSI.hit j hil hjl hlb heq ?_ ?_ hb, hSS2, hbel2.setCell (Nat.le_succ _) _⟩, by simp [intOf]; omega⟩
              · have hw : win la lb = W := HW
                have hs : i - W = S := HS
                rw [hw]; omega
              · have hw : win la lb = W := HW
                have he : min (i + W + 1) lb = E := HE
                rw [hw]; omega
            · rw [hb] at hbit
              go_wp2_with fail
              go_quiet (fail)
              go_wp2_with fail
              exact ⟨⟨j + 1, rfl, by go_num, by omega, fun j' h1 h2 h3 => by
                by_cases e : j' = j
                · rw [e, hb] at h3; exact Bool.noConfusion h3.2
                · exact hno j' h1 (by omega) h3, hSS.of rfl, ⟨hbel.os, hbel.tape, hbel.output, hbel.size, hbel.block⟩⟩, by simp [intOf]; omega⟩
          · have hd : decide (g j = f i) = false := decide_eq_false heq
            go_wp2_with fail
            go_quiet (fail)
            go_wp2_with fail
            exact ⟨⟨j + 1, rfl, by go_num, by omega, fun j' h1 h2 h3 => by
              by_cases e : j' = j
              · rw [e] at h3; exact heq h3.1
              · exact hno j' h1 (by omega) h3, hSS.of rfl, ⟨hbel.os, hbel.tape, hbel.output, hbel.size, hbel.block⟩⟩, by simp [intOf]; omega⟩
        · have hdE : decide ((j : Int) < (E : Int)) = false := decide_eq_false (by omega)
          go_wp2_with fail
          refine ⟨⟨m, i + 1, x, z, rfl, by go_num, by omega, hSI.miss (fun j' h1 h2 h3 => ?_), hSS, hbel⟩, by simp [intOf]; omega⟩
          have hw : win la lb = W := HW
          have hs : i - W = S := HS
          have he : min (i + W + 1) lb = E := HE
          rw [hw] at h2 h3
          exact hno j' (by omega) (by omega)
    · have hd : decide ((i : Int) < (la : Int)) = false := decide_eq_false (by omega)
      have hil2 : i = la := by omega
      subst hil2
      have hcx := hSS.word.cell (i := 0) (by omega)
      have hsl := sl54 (w.heap.size + 1) m hml
      go_wp2_with fail
      refine (ooo26 28 (.pointer (some ⟨w.heap.size, 0, none⟩)) x.testBit (some ⟨w.heap.size + 1, 0, none⟩) m 64 z b lb bc g wr call28 (.inr ⟨_, 0, rfl, fun k hk => by rw [Nat.zero_add]; exact hSS.arr.cell (by omega)⟩) (hB.below hbel) hSI.cm.symm (by omega)
        (fun j hj wr' hb' => clo28 w.heap.size x j wr' hSI.lt (by omega) (by rw [hb'.cell (World.block_lt_of_cell? wr _ hcx)]; exact hcx))).mono ?_
      rintro e w' ⟨⟨t, rfl, ht⟩, hbel'⟩
      clear hcx hsl
      go_wp2_with fail
      go_ret2
      exact ⟨⟨m, t, rfl, hSI.atEnd, ht, by rw [hSI.cm]; exact cnt_le _ _⟩, hbel.trans (hbel'.mono hbel.size)⟩
end Go.Proofs.Qxb6003856a
