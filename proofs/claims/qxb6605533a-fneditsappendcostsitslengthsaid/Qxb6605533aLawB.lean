/-
  Seat b6605533a. The walk of the law FnEditsAppendCostsItsLength.
-/
import Derived.Test.Qxb6605533aLawA
import Derived.Test.Qxb6605533aUtf
import Derived.Laws.RangeAny
import Derived.Lib.RuneCount
namespace Go.Proofs.Qxb6605533a
open Go.ChangeShapes Go.WideShapes Go.RowKit
set_option linter.unusedVariables false

theorem run_back (s : ByteArray) (w : World) :
    (convert 23 9 (.slice (some ⟨w.heap.size, 0, none⟩) (rl s) (capR w s))).run Try.prog (newR w s) = .ok (.string (runesBytes (rn s))) (newR w s) := by
  obtain ⟨h1, _, _⟩ := newR_spec w s
  have h := run_convert_runes (P := Try.prog) (newR w s) 23 9 21 ⟨w.heap.size, 0, none⟩ (rl s) (capR w s) (rn s) (Nat.le_refl _) Try.underlying23 Try.underlying21 Try.underlying9
    (fun j hj => by rw [Addr.add_lit, Nat.zero_add]; exact h1 j hj)
  rw [show (rn s).take (rl s) = rn s from List.take_length] at h
  exact h

/-- the runes from place pos on, counted -/
def cnt (s : ByteArray) (pos : Nat) : Nat := (rnL s.data.toList.length (s.data.toList.drop pos)).length

theorem cnt_zero (s : ByteArray) : cnt s 0 = rl s := by unfold cnt rl; rw [rn_rnL, List.drop_zero]

theorem cnt_end (s : ByteArray) (pos : Nat) (h : ¬ pos < s.size) : cnt s pos = 0 := by
  have hl : s.data.toList.length = s.size := by rw [Array.length_toList]; rfl
  unfold cnt
  rw [List.drop_eq_nil_of_le (by omega)]
  cases s.data.toList.length <;> simp [rnL]

theorem cnt_step (s : ByteArray) (pos : Nat) (h : pos < s.size) : cnt s pos = cnt s (pos + (Utf8.decode s pos).2) + 1 := by
  have hl : s.data.toList.length = s.size := by rw [Array.length_toList]; rfl
  have hw := Lib.decodeL_width (s.data.toList.drop pos)
  unfold cnt
  obtain ⟨f, hf⟩ : ∃ f, s.data.toList.length = f + 1 := ⟨s.data.toList.length - 1, by omega⟩
  rw [hf]
  conv => lhs; unfold rnL
  rw [if_neg (by intro e; have := congrArg List.length e; rw [List.length_drop] at this; simp at this; omega), Lib.decodeL_drop, List.drop_drop, List.length_cons]
  rw [Lib.decodeL_drop] at hw
  rw [rnL_fuel f (f + 1) _ (by rw [List.length_drop]; omega) (by rw [List.length_drop]; omega)]

/-- what the four distances come to -/
theorem behind_eq (L M : List Int) (A B : ByteArray) (hA : rn A = L) (hB : rn B = L ++ M) : osa (rf A) (rf B) (rl A) (rl B) = M.length := by
  have e1 : rl A = L.length := by unfold rl; rw [hA]
  have e2 : rl B = L.length + M.length := by unfold rl; rw [hB, List.length_append]
  rw [e1, e2]
  refine osa_behind _ _ _ (fun k hk => ?_) _
  unfold rf
  rw [hA, hB, List.getD_eq_getElem?_getD, List.getD_eq_getElem?_getD, List.getElem?_append_left hk]

theorem ahead_eq (L M : List Int) (A B : ByteArray) (hA : rn A = L) (hB : rn B = M ++ L) : osa (rf A) (rf B) (rl A) (rl B) = M.length := by
  have e1 : rl A = L.length := by unfold rl; rw [hA]
  have e2 : rl B = M.length + L.length := by unfold rl; rw [hB, List.length_append]
  rw [e1, e2]
  refine osa_ahead _ _ _ _ (fun k hk => ?_)
  unfold rf
  rw [hA, hB, List.getD_eq_getElem?_getD, List.getD_eq_getElem?_getD, List.getElem?_append_right (by omega)]
  congr 2
  omega

set_option maxHeartbeats 1000000 in
theorem walk4 (a x : ByteArray) (w : World) (ha : a.size ≤ maxLen) (hx : x.size ≤ maxLen) :
    Calls Try.prog 4 #[.string a, .string x] w fun e w' => e = .returned (.bool true) ∧ Below w.heap.size w w' := by
  go_enter Try.func4, Try.ntmps4
  go_wp2_with fail
  refine (zz8 a x w ha hx).mono ?_
  rintro e w' ⟨⟨r, rfl⟩, rfl⟩
  unfold maxLen at ha hx
  cases r
  · go_wp2
    go_ret
    exact ⟨rfl, Below.refl _ _⟩
  by_cases h1 : 512 < a.size
  · go_wp2
    go_ret
    exact ⟨rfl, Below.refl _ _⟩
  by_cases h2 : 512 < x.size
  · go_wp2
    go_ret
    exact ⟨rfl, Below.refl _ _⟩
  have hca := run_runes a (by omega)
  have hcb := run_runes x (by omega)
  have hba := run_back a w'
  have hbx := run_back x (newR w' a)
  have hla := rl_le a
  have hlb := rl_le x
  go_wp2_with fail
  clear hca hcb hba hbx
  obtain ⟨_, e1, z1⟩ := newR_spec w' a
  obtain ⟨_, e2, z2⟩ := newR_spec (newR w' a) x
  have hbel := e1.trans (e2.mono e1.size)
  clear e1 e2 z1 z2
  generalize newR (newR w' a) x = W2 at *
  generalize capR (newR w' a) x = cb at *
  generalize capR w' a = ca at *
  generalize (newR w' a).heap.size = B2 at *
  have qA : rn (runesBytes (rn a)) = rn a := rn_bytes _ (rn_valid a)
  have qX : rn (runesBytes (rn x)) = rn x := rn_bytes _ (rn_valid x)
  have qAX : rn (runesBytes (rn a) ++ runesBytes (rn x)) = rn a ++ rn x := rn_bytes_append _ _ (rn_valid a) (rn_valid x)
  have qXA : rn (runesBytes (rn x) ++ runesBytes (rn a)) = rn x ++ rn a := rn_bytes_append _ _ (rn_valid x) (rn_valid a)
  have sA : (runesBytes (rn a)).size ≤ 2048 := by have := runesBytes_size_le (rn a); unfold rl at hla; omega
  have sX : (runesBytes (rn x)).size ≤ 2048 := by have := runesBytes_size_le (rn x); unfold rl at hlb; omega
  have lX : rl (runesBytes (rn x)) = (rn x).length := by unfold rl; rw [qX]
  generalize runesBytes (rn a) = A at *
  generalize runesBytes (rn x) = X at *
  have d1 := behind_eq (rn a) (rn x) A (A ++ X) qA qAX
  have d2 := (osa_comm (rf (A ++ X)) (rf A) (rl (A ++ X)) (rl A)).trans d1
  have d3 := ahead_eq (rn a) (rn x) A (X ++ A) qA qXA
  have d4 := (osa_comm (rf (X ++ A)) (rf A) (rl (X ++ A)) (rl A)).trans d3
  have sAX : (A ++ X).size ≤ 8192 := by rw [ByteArray.size_append]; omega
  have sXA : (X ++ A).size ≤ 8192 := by rw [ByteArray.size_append]; omega
  have HL : Hid (rl X = (rn x).length) := lX
  have hK : (rn x).length ≤ 512 := by unfold rl at hlb; omega
  clear qA qX qAX qXA lX hla hlb
  have D1 : Hid (osa (rf A) (rf (A ++ X)) (rl A) (rl (A ++ X)) = (rn x).length) := d1
  have D2 : Hid (osa (rf (A ++ X)) (rf A) (rl (A ++ X)) (rl A) = (rn x).length) := d2
  have D3 : Hid (osa (rf A) (rf (X ++ A)) (rl A) (rl (X ++ A)) = (rn x).length) := d3
  have D4 : Hid (osa (rf (X ++ A)) (rf A) (rl (X ++ A)) (rl A) = (rn x).length) := d4
  clear d1 d2 d3 d4
  generalize (rn x).length = K at *
  go_loopw [7] (fun kv wr => ∃ (pos j : Nat), kv = .int .i64 j ∧ wr = W2.iter X pos ∧ j + cnt X pos = K) (fun _ wr => X.size - wr.iterPos W2.heap.size)
  case atStart => exact ⟨0, 0, rfl, rfl, by rw [cnt_zero, HL.out]; omega⟩
  case round =>
    obtain ⟨pos, j, rfl, rfl, hj⟩ := hrel
    have HJ : Hid (j + cnt X pos = K) := hj
    have hjK : j ≤ K := by omega
    clear hj
    by_cases hp : pos < X.size
    · have hnx := fun ty => run_next_any (P := Try.prog) W2 X pos ty hp
      have hst := cnt_step X pos hp
      have hw := Lib.decode_width_pos X pos hp
      have HS : Hid (cnt X pos = cnt X (pos + (Utf8.decode X pos).2) + 1) := hst
      clear hst
      go_wp2_with fail
      refine ⟨⟨pos + (Utf8.decode X pos).2, j + 1, by go_num, rfl, ?_⟩, ?_⟩
      · have := HJ.out; have := HS.out; omega
      · simp; omega
    · have hnx := fun ty => run_next_end (P := Try.prog) W2 X pos ty hp
      have hjj : j = K := by have := HJ.out; rw [cnt_end X pos hp] at this; omega
      subst hjj
      have hbel2 : Below w'.heap.size w' (W2.iter X pos) := hbel.alloc hbel.size _
      clear HJ HL
      go_wp2_with fail
      clear hnx
      generalize W2.iter X pos = W3 at *
      refine (edits6 A (A ++ X) (by omega) sAX _).mono ?_
      rintro e w5 ⟨rfl, hb5⟩
      rw [D1.out]
      go_wp2_with fail
      refine (edits6 (A ++ X) A sAX (by omega) _).mono ?_
      rintro e w6 ⟨rfl, hb6⟩
      rw [D2.out]
      go_wp2_with fail
      refine (edits6 A (X ++ A) (by omega) sXA _).mono ?_
      rintro e w7 ⟨rfl, hb7⟩
      rw [D3.out]
      go_wp2_with fail
      refine (edits6 (X ++ A) A sXA (by omega) _).mono ?_
      rintro e w8 ⟨rfl, hb8⟩
      rw [D4.out]
      have hb56 := hb5.trans (hb6.mono hb5.size)
      have hb57 := hb56.trans (hb7.mono hb56.size)
      have hb58 := hb57.trans (hb8.mono hb57.size)
      have hbE := hbel2.trans (hb58.mono hbel2.size)
      clear hb5 hb6 hb7 hb8 hb56 hb57 hb58 D1 D2 D3 D4
      go_wp2
      go_ret
      exact ⟨by simp, hbE⟩
end Go.Proofs.Qxb6605533a
