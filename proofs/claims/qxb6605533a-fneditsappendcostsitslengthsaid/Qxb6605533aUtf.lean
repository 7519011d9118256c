/-
  Seat b6605533a. Plain: decoding what was encoded.
-/
import Derived.Test.Qxb6605533aRunes
import Derived.Lib.TrimUEq
namespace Go.Proofs.Qxb6605533a
set_option linter.unusedVariables false

/-- the bytes of a rune -/
def encL (r : Int) : List UInt8 := (Utf8.encode r).data.toList

theorem u8 (n : Nat) (h : n < 256) : (UInt8.ofNat n).toNat = n := by simp; omega

set_option maxHeartbeats 1000000 in
theorem decodeL_enc (r : Int) (hr : Utf8.valid r = true) (rest : List UInt8) : Lib.decodeL (encL r ++ rest) = (r.toNat, (encL r).length) := by
  have hv : (0 ≤ r ∧ r < 55296) ∨ (57344 ≤ r ∧ r ≤ 1114111) := by simpa [Utf8.valid] using hr
  rw [Lib.decodeL_N]
  unfold encL Utf8.encode
  simp only [hr, if_true]
  obtain ⟨c, hc⟩ : ∃ c, r.toNat = c := ⟨_, rfl⟩
  have hcb : c ≤ 1114111 := by omega
  have hsur : c < 55296 ∨ 57344 ≤ c := by omega
  rw [hc]
  clear hc hv hr
  by_cases h1 : c < 128
  · simp only [h1, if_true]
    simp only [List.cons_append, List.nil_append, List.getD_cons_zero, List.getD_cons_succ, List.length_cons, List.length_nil]
    rw [u8 c (by omega)]
    unfold Lib.decodeN
    rw [if_pos h1]
  by_cases h2 : c < 2048
  · simp only [h1, h2, if_true, if_false]
    simp only [List.cons_append, List.nil_append, List.getD_cons_zero, List.getD_cons_succ, List.length_cons, List.length_nil]
    rw [u8 (192 + c / 64) (by omega), u8 (128 + c % 64) (by omega)]
    unfold Lib.decodeN
    rw [if_neg (by omega), if_pos (by omega), if_pos (by omega)]
    congr 1
    omega
  by_cases h3 : c < 65536
  · simp only [h1, h2, h3, if_true, if_false]
    simp only [List.cons_append, List.nil_append, List.getD_cons_zero, List.getD_cons_succ, List.length_cons, List.length_nil]
    rw [u8 (224 + c / 4096) (by omega), u8 (128 + c / 64 % 64) (by omega), u8 (128 + c % 64) (by omega)]
    unfold Lib.decodeN
    have e : (224 + c / 4096) % 16 * 4096 + (128 + c / 64 % 64) % 64 * 64 + (128 + c % 64) % 64 = c := by omega
    rw [if_neg (by omega), if_neg (by omega), if_pos (by omega), e, if_pos (by omega)]
  · simp only [h1, h2, h3, if_false]
    simp only [List.cons_append, List.nil_append, List.getD_cons_zero, List.getD_cons_succ, List.length_cons, List.length_nil]
    rw [u8 (240 + c / 262144) (by omega), u8 (128 + c / 4096 % 64) (by omega), u8 (128 + c / 64 % 64) (by omega), u8 (128 + c % 64) (by omega)]
    unfold Lib.decodeN
    have e : (240 + c / 262144) % 8 * 262144 + (128 + c / 4096 % 64) % 64 * 4096 + (128 + c / 64 % 64) % 64 * 64 + (128 + c % 64) % 64 = c := by omega
    rw [if_neg (by omega), if_neg (by omega), if_neg (by omega), if_pos (by omega), e, if_pos (by omega)]

/-- what decoding gives is a rune that encoding takes as it is -/
theorem decode_valid (s : ByteArray) (i : Nat) : Utf8.valid (Int.ofNat (Utf8.decode s i).1) = true := by
  have hv : ∀ c : Nat, (c < 55296 ∨ (57344 ≤ c ∧ c ≤ 1114111)) → Utf8.valid (Int.ofNat c) = true := by
    intro c hc
    simp [Utf8.valid]
    omega
  rw [Lib.decode_at]
  unfold Lib.decodeN
  refine hv _ ?_
  repeat' split
  all_goals simp only []
  all_goals omega

/-- the runes of a list of bytes -/
def rnL : Nat → List UInt8 → List Int
  | 0, _ => []
  | f + 1, l => if l = [] then [] else (Int.ofNat (Lib.decodeL l).1) :: rnL f (l.drop (Lib.decodeL l).2)

theorem runesL_rnL (s : ByteArray) : ∀ f i, runesL s f i = rnL f (s.data.toList.drop i)
  | 0, i => rfl
  | f + 1, i => by
    unfold runesL rnL
    have hl : s.data.toList.length = s.size := by rw [Array.length_toList]; rfl
    by_cases h : i < s.size
    · rw [if_pos h, if_neg (by intro e; have := congrArg List.length e; simp at this; omega), Lib.decodeL_drop, runesL_rnL s f, List.drop_drop]
    · rw [if_neg h, if_pos (List.drop_eq_nil_of_le (by omega))]

/-- more fuel than bytes changes nothing -/
theorem rnL_fuel : ∀ (f g : Nat) (l : List UInt8), l.length ≤ f → l.length ≤ g → rnL f l = rnL g l
  | 0, 0, l, _, _ => rfl
  | 0, g + 1, l, h, _ => by
    have : l = [] := List.eq_nil_of_length_eq_zero (by omega)
    subst this; rfl
  | f + 1, 0, l, _, h => by
    have : l = [] := List.eq_nil_of_length_eq_zero (by omega)
    subst this; rfl
  | f + 1, g + 1, l, hf, hg => by
    unfold rnL
    by_cases h : l = []
    · rw [if_pos h, if_pos h]
    · rw [if_neg h, if_neg h]
      have hw := Lib.decodeL_width l
      rw [rnL_fuel f g _ (by rw [List.length_drop]; omega) (by rw [List.length_drop]; omega)]

theorem rn_rnL (s : ByteArray) : rn s = rnL s.data.toList.length s.data.toList := by
  have hl : s.data.toList.length = s.size := by rw [Array.length_toList]; rfl
  unfold rn
  rw [runesL_rnL, List.drop_zero, hl]

theorem encL_ne (r : Int) : encL r ≠ [] := by
  unfold encL Utf8.encode
  simp only
  repeat' split
  all_goals simp

theorem rnL_enc (r : Int) (hr : Utf8.valid r = true) (rest : List UInt8) (f : Nat) (hf : (encL r ++ rest).length ≤ f) : rnL f (encL r ++ rest) = r :: rnL f rest := by
  have hl : 0 < (encL r).length := List.length_pos_iff.2 (encL_ne r)
  cases f with
  | zero => rw [List.length_append] at hf; omega
  | succ f =>
    rw [rnL, if_neg (by simp [encL_ne]), decodeL_enc r hr]
    have e0 : Int.ofNat r.toNat = r := by
      have hv : (0 ≤ r ∧ r < 55296) ∨ (57344 ≤ r ∧ r ≤ 1114111) := by simpa [Utf8.valid] using hr
      simp; omega
    rw [e0]
    simp only [List.drop_left]
    rw [List.length_append] at hf
    rw [rnL_fuel f (f + 1) rest (by omega) (by omega)]

/-- the bytes of runes -/
def encs (rs : List Int) : List UInt8 := rs.flatMap encL

theorem rnL_encs (rs : List Int) (hv : ∀ r ∈ rs, Utf8.valid r = true) (rest : List UInt8) (f : Nat) (hf : (encs rs ++ rest).length ≤ f) : rnL f (encs rs ++ rest) = rs ++ rnL f rest := by
  induction rs with
  | nil => simp [encs]
  | cons r rs ih =>
    have e : encs (r :: rs) ++ rest = encL r ++ (encs rs ++ rest) := by simp [encs]
    rw [e] at hf ⊢
    rw [rnL_enc r (hv r (by simp)) _ f hf, ih (fun x hx => hv x (by simp [hx])) (by simp at hf ⊢; omega)]
    rfl

theorem rn_valid (s : ByteArray) : ∀ r ∈ rn s, Utf8.valid r = true := by
  unfold rn
  generalize s.size = f
  generalize 0 = i
  induction f generalizing i with
  | zero => intro r hr; simp [runesL] at hr
  | succ f ih =>
    intro r hr
    unfold runesL at hr
    split at hr
    · rcases List.mem_cons.1 hr with h | h
      · rw [h]; exact decode_valid s i
      · exact ih _ r h
    · simp at hr

theorem runesBytes_list (ns : List Int) : (runesBytes ns).data.toList = encs ns := by
  have key : ∀ (ns : List Int) (s : ByteArray), (ns.foldl (fun r n => r ++ Utf8.encode n) s).data.toList = s.data.toList ++ encs ns := by
    intro ns
    induction ns with
    | nil => intro s; simp [encs]
    | cons n ns ih =>
      intro s
      rw [List.foldl_cons, ih]
      simp [encs, encL]
  have := key ns ByteArray.empty
  simpa [runesBytes] using this

/-- the runes of the bytes of runes -/
theorem rn_bytes (rs : List Int) (hv : ∀ r ∈ rs, Utf8.valid r = true) : rn (runesBytes rs) = rs := by
  rw [rn_rnL, runesBytes_list]
  have := rnL_encs rs hv [] (encs rs).length (by simp)
  simp at this
  rw [this]
  cases (encs rs).length <;> simp [rnL]

theorem rn_bytes_append (rs qs : List Int) (hv : ∀ r ∈ rs, Utf8.valid r = true) (hq : ∀ r ∈ qs, Utf8.valid r = true) : rn (runesBytes rs ++ runesBytes qs) = rs ++ qs := by
  rw [rn_rnL]
  have e : (runesBytes rs ++ runesBytes qs).data.toList = encs rs ++ encs qs := by
    rw [← runesBytes_list rs, ← runesBytes_list qs]
    simp
  rw [e, rnL_encs rs hv _ _ (Nat.le_refl _)]
  congr 1
  have := rnL_encs qs hq [] (encs rs ++ encs qs).length (by simp)
  simp only [List.append_nil] at this
  rw [this]
  cases (encs rs ++ encs qs).length <;> simp [rnL]
end Go.Proofs.Qxb6605533a
