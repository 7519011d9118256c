/-
  Seat b6605533a. The walk of edits.
-/
import Derived.Test.Qxb6605533aRunes
import Derived.BigRegion
import Derived.Deep.DeepCutAuto
namespace Go.Proofs.Qxb6605533a
open Go.ChangeShapes Go.WideShapes Go.RowKit
set_option linter.unusedVariables false

theorem info27 : (Try.prog.info? 27).map (fun i => (i.zero, i.size, i.bytes)) = some (some (.slice none 0 0), 1, 24) := by kernel_rfl
theorem info3 : (Try.prog.info? 3).map (fun i => (i.zero, i.size, i.bytes)) = some (some (.int .i64 0), 1, 8) := by kernel_rfl

/-- the table in memory: block D holds the rows' slices, block D+1+r row r -/
structure Tab (w : World) (D n m : Nat) (V : Nat → Nat → Nat) : Prop where
  tops : w.rowIs D 27 (n + 1) (fun r => .slice (some ⟨D + 1 + r, 0, none⟩) (m + 1) (m + 1))
  row : ∀ r, r ≤ n → w.rowIs (D + 1 + r) 3 (m + 1) (fun j => .int .i64 (V r j : Nat))

def upd2 (V : Nat → Nat → Nat) (i j x : Nat) : Nat → Nat → Nat := fun r c => if r = i ∧ c = j then x else V r c

theorem Tab.set {w : World} {D n m : Nat} {V : Nat → Nat → Nat} (h : Tab w D n m V) (i j x : Nat) (hi : i ≤ n) : Tab (w.setCell ⟨D + 1 + i, j, none⟩ (.int .i64 (x : Nat))) D n m (upd2 V i j x) := by
  refine ⟨h.tops.setOther (by show D ≠ D + 1 + i; omega) _, fun r hr => ?_⟩
  by_cases e : r = i
  · subst e
    refine ((h.row r hr).set j _).congr fun c hc => ?_
    unfold upd2
    by_cases e2 : c = j <;> simp [e2]
  · refine ((h.row r hr).setOther (by show D + 1 + r ≠ D + 1 + i; omega) _).congr fun c hc => ?_
    simp [upd2, e]

theorem Tab.congr {w : World} {D n m : Nat} {V V' : Nat → Nat → Nat} (h : Tab w D n m V) (e : ∀ r c, r ≤ n → c ≤ m → V r c = V' r c) : Tab w D n m V' :=
  ⟨h.tops, fun r hr => (h.row r hr).congr fun c hc => by rw [e r c hr (by omega)]⟩

theorem Tab.of {w w' : World} {D n m : Nat} {V : Nat → Nat → Nat} (h : Tab w D n m V) (e : ∀ b, D ≤ b → b ≤ D + 1 + n → w'.heap[b]? = w.heap[b]?) : Tab w' D n m V :=
  ⟨h.tops.of_block (e D (Nat.le_refl _) (by omega)), fun r hr => (h.row r hr).of_block (e _ (by omega) (by omega))⟩

/-- what a table of which the rows ahead of I, and of row I the first J cells, are done, holds -/
def part (s t : Nat → Int) (I J : Nat) (r c : Nat) : Nat := if r < I ∨ (r = I ∧ c < J) then osa s t r c else if c = 0 then r else 0

theorem mkTops (n : Nat) (hn : n ≤ 8192) (W : World) : (Instr.makeSlice 26 (.int .i64 ((n : Int) + 1)) (.int .i64 ((n : Int) + 1))).run Try.prog W = .ok (.slice (some ⟨W.heap.size, 0, none⟩) (n + 1) (n + 1)) (W.alloc (.cells (madeCells #[.slice none 0 0] (n + 1)) 27)) := by
  have h := run_make_row' (P := Try.prog) 26 27 (.slice none 0 0) 24 Try.underlying26 info27 rfl .i64 .i64 (n + 1) (by omega) (by omega) W
  have e : ((n + 1 : Nat) : Int) = (n : Int) + 1 := by omega
  rwa [e] at h
theorem mkRow (n : Nat) (hn : n ≤ 8192) (W : World) : (Instr.makeSlice 27 (.int .i64 ((n : Int) + 1)) (.int .i64 ((n : Int) + 1))).run Try.prog W = .ok (.slice (some ⟨W.heap.size, 0, none⟩) (n + 1) (n + 1)) (W.alloc (.cells (madeCells #[.int .i64 0] (n + 1)) 3)) := by
  have h := run_make_row' (P := Try.prog) 27 3 (.int .i64 0) 8 Try.underlying27 info3 rfl .i64 .i64 (n + 1) (by omega) (by omega) W
  have e : ((n + 1 : Nat) : Int) = (n : Int) + 1 := by omega
  rwa [e] at h

/-- the tops after k rounds of the first loop -/
def topTo (D m k r : Nat) : Value := if r < k then .slice (some ⟨D + 1 + r, 0, none⟩) (m + 1) (m + 1) else .slice none 0 0

/-- after k rounds of the first loop -/
structure Mk (w : World) (D n m k : Nat) : Prop where
  tops : w.rowIs D 27 (n + 1) (topTo D m k)
  row : ∀ r, r < k → w.rowIs (D + 1 + r) 3 (m + 1) (fun j => .int .i64 ((if j = 0 then r else 0 : Nat) : Nat))
  size : w.heap.size = D + 1 + k

theorem Mk.step {w : World} {D n m k : Nat} (h : Mk w D n m k) :
    Mk ((w.setCell ⟨D, k, none⟩ (.slice (some ⟨w.heap.size, 0, none⟩) (m + 1) (m + 1))).alloc (.cells ((madeCells #[.int .i64 0] (m + 1)).setIfInBounds 0 (.int .i64 k)) 3)) D n m (k + 1) := by
  have hsz : (w.setCell ⟨D, k, none⟩ (.slice (some ⟨w.heap.size, 0, none⟩) (m + 1) (m + 1))).heap.size = D + 1 + k := by simp [World.setCell]; exact h.size
  refine ⟨((h.tops.set k _).alloc _).congr fun r hr => ?_, fun r hr => ?_, ?_⟩
  · unfold topTo
    by_cases e : r = k
    · subst e; simp [h.size]
    · rw [if_neg e]
      by_cases e2 : r < k
      · rw [if_pos e2, if_pos (by omega)]
      · rw [if_neg e2, if_neg (by omega)]
  · by_cases e : r = k
    · subst e
      have := World.rowIs_alloc (w.setCell ⟨D, r, none⟩ (.slice (some ⟨w.heap.size, 0, none⟩) (m + 1) (m + 1))) ((madeCells #[.int .i64 0] (m + 1)).setIfInBounds 0 (.int .i64 r)) 3 (fun j => .int .i64 ((if j = 0 then r else 0 : Nat) : Nat)) (by
        intro i hi
        simp [madeCells] at hi
        rw [Array.getElem?_setIfInBounds]
        by_cases e0 : i = 0
        · subst e0; simp [madeCells]
        · rw [if_neg (fun h => e0 h.symm)]
          simp [madeCells, hi, e0, Nat.mod_one])
      rw [hsz] at this
      simpa [madeCells] using this
    · exact ((h.row r (by omega)).setOther (by show D + 1 + r ≠ D; omega) _).alloc _
  · simp [World.setCell]
    have := h.size
    omega

/-- the table while its first row is filled -/
def first (q r c : Nat) : Nat := if r = 0 ∧ c < q then c else if c = 0 then r else 0

theorem Mk.tab {w : World} {D n m : Nat} (h : Mk w D n m (n + 1)) : Tab w D n m (first 0) := by
  refine ⟨h.tops.congr fun r hr => by simp [topTo, hr], fun r hr => (h.row r (by omega)).congr fun j hj => ?_⟩
  unfold first
  simp

theorem first_step (q r c : Nat) : upd2 (first q) 0 q q r c = first (q + 1) r c := by
  unfold upd2 first
  repeat' split
  all_goals omega

theorem osa_col (s t : Nat → Int) (r : Nat) : osa s t r 0 = r := by
  cases r with
  | zero => rfl
  | succ r => rfl

theorem first_end (s t : Nat → Int) (m r c : Nat) (hc : c ≤ m) : first (m + 1) r c = part s t 1 1 r c := by
  unfold first part
  by_cases h0 : c = 0
  · subst h0
    rw [osa_col]
    repeat' split
    all_goals omega
  · by_cases h1 : r = 0
    · subst h1
      rw [osa_zero]
      repeat' split
      all_goals omega
    · repeat' split
      all_goals first | rfl | (exfalso; omega)

theorem part_row (s t : Nat → Int) (m p r c : Nat) (hc : c ≤ m) : part s t (p + 1) (m + 1) r c = part s t (p + 2) 1 r c := by
  unfold part
  by_cases h0 : c = 0
  · subst h0
    rw [osa_col]
    repeat' split
    all_goals omega
  · repeat' split
    all_goals first | rfl | (exfalso; omega)

theorem part_step (s t : Nat → Int) (p q r c : Nat) : upd2 (part s t (p + 1) (q + 1)) (p + 1) (q + 1) (osa s t (p + 1) (q + 1)) r c = part s t (p + 1) (q + 2) r c := by
  unfold upd2 part
  by_cases h : r = p + 1 ∧ c = q + 1
  · obtain ⟨rfl, rfl⟩ := h
    rw [if_pos ⟨rfl, rfl⟩, if_pos (by omega)]
  · rw [if_neg h]
    repeat' split
    all_goals first | rfl | (exfalso; omega)

theorem trans_t {s t : Nat → Int} {p q p2 q2 : Nat} (hp : p = p2 + 1) (hq : q = q2 + 1) (h3 : s p = t q2) (h4 : s p2 = t q) : trans s t p q = true := by
  subst hp hq
  simp [trans, h3, h4]
theorem trans_f3 {s t : Nat → Int} {p q p2 q2 : Nat} (hp : p = p2 + 1) (hq : q = q2 + 1) (h3 : ¬ s p = t q2) : trans s t p q = false := by
  subst hp hq
  simp [trans, h3]
theorem trans_f4 {s t : Nat → Int} {p q p2 q2 : Nat} (hp : p = p2 + 1) (hq : q = q2 + 1) (h4 : ¬ s p2 = t q) : trans s t p q = false := by
  subst hp hq
  simp [trans, h4]

set_option maxRecDepth 100000 in
set_option maxHeartbeats 2000000 in
theorem edits9 (a b : ByteArray) (ha : a.size ≤ 8192) (hb : b.size ≤ 8192) (w : World) :
    Calls Try.prog 9 #[.string a, .string b] w fun e w' => e = .returned (.int .i64 (osa (rf a) (rf b) (rl a) (rl b) : Nat)) ∧ Below w.heap.size w w' := by
  have hca := run_runes a (by omega)
  have hcb := run_runes b (by omega)
  have hla := rl_le a
  have hlb := rl_le b
  have hmt := mkTops (rl a) (by omega)
  go_enter Try.func9, Try.ntmps9
  go_wp2_with fail
  obtain ⟨r1, e1, z1⟩ := newR_spec w a
  obtain ⟨r2, e2, z2⟩ := newR_spec (newR w a) b
  have hc1 := newR_cap w a
  have hc2 := newR_cap (newR w a) b
  have hs1 : RunesAt (newR (newR w a) b) w.heap.size (rl a) (rf a) := r1.below e2 (by omega)
  have hbel := e1.trans (e2.mono e1.size)
  clear hca hcb r1 e1 e2 hmt
  generalize newR (newR w a) b = W2 at *
  generalize capR (newR w a) b = cb at *
  generalize capR w a = ca at *
  have hB2 : w.heap.size ≤ (newR w a).heap.size := by omega
  have hB3 : w.heap.size < (newR w a).heap.size := by omega
  have hD : (newR w a).heap.size < W2.heap.size := by omega
  clear z1 z2
  generalize (newR w a).heap.size = B2 at *
  have hst : Mk (W2.alloc (.cells (madeCells #[.slice none 0 0] (rl a + 1)) 27)) W2.heap.size (rl a) (rl b) 0 :=
    ⟨(World.rowIs_made W2 (.slice none 0 0) (rl a + 1) 27).congr (fun r _ => by simp [topTo]), fun r hr => by omega, by simp⟩
  have hbelD := (hbel.alloc hbel.size (.cells (madeCells #[.slice none 0 0] (rl a + 1)) 27))
  have hs1D := hs1.below ((Below.refl W2.heap.size W2).alloc (Nat.le_refl _) (.cells (madeCells #[.slice none 0 0] (rl a + 1)) 27)) (by omega)
  have hs2D := r2.below ((Below.refl W2.heap.size W2).alloc (Nat.le_refl _) (.cells (madeCells #[.slice none 0 0] (rl a + 1)) 27)) hD
  generalize W2.alloc (.cells (madeCells #[.slice none 0 0] (rl a + 1)) 27) = W3 at *
  clear hs1 r2 hbel
  generalize W2.heap.size = D at *
  generalize hn : rl a = n at *
  generalize hm : rl b = m at *
  generalize hs : rf a = s at *
  generalize ht : rf b = t at *
  have HQ : Hid (osa (rf a) (rf b) (rl a) (rl b) = osa s t n m) := by unfold Hid; rw [hn, hm, hs, ht]
  clear hn hm hs ht
  have hmr := mkRow m (by omega)
  go_loopw [8, 23] (fun _ iv wr => ∃ k : Nat, iv = .int .i64 k ∧ k ≤ n + 1 ∧ Mk wr D n m k ∧ Below w.heap.size w wr ∧ Below D W3 wr) (fun _ iv _ => n + 1 - (intOf iv).toNat)
  case atStart => exact ⟨0, rfl, by omega, hst, hbelD, Below.refl _ _⟩
  case round =>
    obtain ⟨k, rfl, hk, hmk, hbel, hbel3⟩ := hrel
    by_cases hkn : k < n + 1
    · have hki : (k : Int) < (n : Int) + 1 := by omega
      have h1 := hmk.tops.cell hkn
      have h2 := hmk.tops.frozen k
      have hDl : D < wr.heap.size := by have := hmk.size; omega
      have hm0 : (0 : Int) < (m : Int) + 1 := by omega
      have hz : (madeCells #[Value.int .i64 0] (m + 1))[0]? = some (.int .i64 0) := by simp [madeCells]
      obtain ⟨v, hv⟩ : ∃ v, topTo D m k k = v := ⟨_, rfl⟩
      rw [hv] at h1
      clear hv
      go_wp2_with fail
      exact ⟨⟨k + 1, by go_num, by omega, hmk.step, (hbel.setCell (by show w.heap.size ≤ D; omega) _).alloc (by simp [World.setCell]; exact hbel.size) _, (hbel3.setCell (Nat.le_refl _) _).alloc (by simp [World.setCell]; omega) _⟩, by simp [intOf]; omega⟩
    · obtain rfl : k = n + 1 := by omega
      have hT := hmk.tab
      have h0 : wr.cell? ⟨D, 0, none⟩ = some (.slice (some ⟨D + 1, 0, none⟩) (m + 1) (m + 1)) := hT.tops.cell (i := 0) (by omega)
      have hn0 : (0 : Int) < (n : Int) + 1 := by omega
      clear hmk hst hbelD hmr
      go_wp2_with fail
      go_loopw [9, 44] (fun _ iv wr => ∃ q : Nat, iv = .int .i64 q ∧ q ≤ m + 1 ∧ Tab wr D n m (first q) ∧ Below w.heap.size w wr ∧ Below D W3 wr) (fun _ iv _ => m + 1 - (intOf iv).toNat)
      case atStart => exact ⟨0, rfl, by omega, hT, hbel, hbel3⟩
      case round =>
        clear hT hbel hbel3 h0
        obtain ⟨q, rfl, hq, hT, hbel, hbel3⟩ := hrel
        by_cases hqm : q < m + 1
        · have h0 : wr.cell? ⟨D, 0, none⟩ = some (.slice (some ⟨D + 1, 0, none⟩) (m + 1) (m + 1)) := hT.tops.cell (i := 0) (by omega)
          have h1 := (hT.row 0 (by omega)).cell hqm
          have h2 := (hT.row 0 (by omega)).frozen q
          rw [Nat.add_zero] at h1 h2
          have hqi : (q : Int) < (m : Int) + 1 := by omega
          have hTs := (hT.set 0 q q (by omega)).congr (fun r c _ _ => first_step q r c)
          rw [Nat.add_zero] at hTs
          clear hT
          go_wp2_with fail
          exact ⟨⟨q + 1, by go_num, by omega, hTs, hbel.setCell (by show w.heap.size ≤ D + 1; omega) _, hbel3.setCell (by show D ≤ D + 1; omega) _⟩, by simp [intOf]; omega⟩
        · obtain rfl : q = m + 1 := by omega
          have hTp := hT.congr (fun r c _ hc => first_end s t m r c hc)
          clear hT
          go_wp2_with fail
          go_loopw [10] (fun iv wr => ∃ p : Nat, iv = .int .i64 (p + 1) ∧ p ≤ n ∧ Tab wr D n m (part s t (p + 1) 1) ∧ Below w.heap.size w wr ∧ Below D W3 wr) (fun iv _ => n + 1 - (intOf iv).toNat)
          case atStart => exact ⟨0, rfl, by omega, hTp, hbel, hbel3⟩
          case round =>
            clear hTp hbel hbel3
            obtain ⟨p, rfl, hp, hT, hbel, hbel3⟩ := hrel
            by_cases hpn : p < n
            · have hpi : (p : Int) + 1 ≤ (n : Int) := by omega
              go_wp2_with fail
              go_loopw [11] (fun iv wr => ∃ q : Nat, iv = .int .i64 (q + 1) ∧ q ≤ m ∧ Tab wr D n m (part s t (p + 1) (q + 1)) ∧ Below w.heap.size w wr ∧ Below D W3 wr) (fun iv _ => m + 1 - (intOf iv).toNat)
              case atStart => exact ⟨0, rfl, by omega, hT, hbel, hbel3⟩
              case round =>
                clear hT hbel hbel3
                obtain ⟨q, rfl, hq, hT, hbel, hbel3⟩ := hrel
                by_cases hqm : q < m
                · have hqi : (q : Int) + 1 ≤ (m : Int) := by omega
                  have hS : wr.cell? ⟨w.heap.size, p, none⟩ = some (.int .i32 (s p)) := (hs1D.below hbel3 (by omega)) p hpn
                  have hTt : wr.cell? ⟨B2, q, none⟩ = some (.int .i32 (t q)) := (hs2D.below hbel3 hD) q hqm
                  have b1 : (p : Int) < (n : Int) := by omega
                  have b2 : (q : Int) < (m : Int) := by omega
                  have c0 : wr.cell? ⟨D, p, none⟩ = some (.slice (some ⟨D + 1 + p, 0, none⟩) (m + 1) (m + 1)) := hT.tops.cell (by omega)
                  have c1 : wr.cell? ⟨D, p + 1, none⟩ = some (.slice (some ⟨D + 1 + (p + 1), 0, none⟩) (m + 1) (m + 1)) := hT.tops.cell (by omega)
                  have x01 : wr.cell? ⟨D + 1 + p, q + 1, none⟩ = some (.int .i64 (osa s t p (q + 1) : Nat)) := by
                    rw [(hT.row p (by omega)).cell (by omega)]; simp [part]
                  have x00 : wr.cell? ⟨D + 1 + p, q, none⟩ = some (.int .i64 (osa s t p q : Nat)) := by
                    rw [(hT.row p (by omega)).cell (by omega)]; simp [part]
                  have x10 : wr.cell? ⟨D + 1 + (p + 1), q, none⟩ = some (.int .i64 (osa s t (p + 1) q : Nat)) := by
                    rw [(hT.row (p + 1) (by omega)).cell (by omega)]; simp [part]
                  have x11 := (hT.row (p + 1) (by omega)).cell (i := q + 1) (by omega)
                  have f11 := (hT.row (p + 1) (by omega)).frozen (q + 1)
                  have u01 := osa_le s t p (q + 1)
                  have u10 := osa_le s t (p + 1) q
                  have u00 := osa_le s t p q
                  have b3 : (p : Int) < (n : Int) + 1 := by omega
                  have b4 : (q : Int) < (m : Int) + 1 := by omega
                  have b5 : (p : Int) + 1 < (n : Int) + 1 := by omega
                  have b6 : (q : Int) + 1 < (m : Int) + 1 := by omega
                  have HO : Hid (osa s t (p + 1) (q + 1) = cellOf (osa s t p (q + 1)) (osa s t (p + 1) q) (osa s t p q) (s p == t q) (trans s t p q) (osa s t (p - 1) (q - 1))) := osa_succ s t p q
                  generalize osa s t p (q + 1) = y01 at *
                  generalize osa s t p q = y00 at *
                  generalize osa s t (p + 1) q = y10 at *
                  generalize part s t (p + 1) (q + 1) (p + 1) (q + 1) = y11 at *
                  generalize hR1 : D + 1 + (p + 1) = R1 at *
                  generalize D + 1 + p = R0 at *
                  have HR1 : Hid (D + 1 + (p + 1) = R1) := hR1
                  have hR1w : w.heap.size ≤ R1 := by omega
                  have hR1D : D ≤ R1 := by omega
                  clear hR1
                  obtain ⟨rr, hrr⟩ : ∃ rr : Nat, rr = if s p == t q then 0 else 1 := ⟨_, rfl⟩
                  have hrr1 : rr ≤ 1 := by rw [hrr]; split <;> omega
                  have HRR : Hid (rr = if s p == t q then 0 else 1) := hrr
                  clear hrr
                  go_wp2_with fail
                  go_quiet (fail)
                  go_upto_if 76 with fail
                  go_cut [12] (fun v wx => v = .int .i64 (rr : Nat) ∧ ∃ d : Nat, wx = wr.drewN d)
                  case first =>
                    by_cases heq : s p = t q
                    · have hbq : (s p == t q) = true := by rw [heq]; simp
                      have e0 : rr = 0 := by rw [HRR.out, hbq]; rfl
                      subst e0
                      go_wp2_with fail
                      go_meet
                      case rel => exact ⟨rfl, _, rfl⟩
                    · have hbq : (s p == t q) = false := by simpa using heq
                      have e0 : rr = 1 := by rw [HRR.out, hbq]; rfl
                      subst e0
                      go_wp2_with fail
                      go_meet
                      case rel => exact ⟨rfl, _, rfl⟩
                  case rest =>
                    obtain ⟨rfl, dd, rfl⟩ := hcut
                    go_wp2_with fail
                    go_region
                    obtain ⟨v0, hv0⟩ : ∃ v0 : Nat, v0 = min (min (y01 + 1) (y10 + 1)) (y00 + rr) := ⟨_, rfl⟩
                    have ev : (if (y00 : Int) + (rr : Int) < (if y10 < y01 then (y10 : Int) + 1 else (y01 : Int) + 1) then (y00 : Int) + (rr : Int) else if y10 < y01 then (y10 : Int) + 1 else (y01 : Int) + 1) = (v0 : Int) := by
                      split <;> split <;> omega
                    rw [ev]
                    have hT1 := hT.set (p + 1) (q + 1) v0 (by omega)
                    rw [HR1.out] at hT1
                    have hT2 : Tab ((wr.drewN (dd + 1)).setCell ⟨R1, q + 1, none⟩ (.int .i64 (v0 : Nat))) D n m (upd2 (part s t (p + 1) (q + 1)) (p + 1) (q + 1) v0) := hT1.of (fun b _ _ => rfl)
                    have hbel2 : Below w.heap.size w ((wr.drewN (dd + 1)).setCell ⟨R1, q + 1, none⟩ (.int .i64 (v0 : Nat))) := (below_drewN hbel _).setCell hR1w _
                    have hbel4 : Below D W3 ((wr.drewN (dd + 1)).setCell ⟨R1, q + 1, none⟩ (.int .i64 (v0 : Nat))) := (below_drewN hbel3 _).setCell hR1D _
                    have hvb : v0 ≤ 16386 := by omega
                    have HV : Hid (trans s t p q = false → v0 = osa s t (p + 1) (q + 1)) := by
                      intro ht
                      rw [HO.out, hv0, HRR.out, ht]
                      rfl
                    have HV2 : Hid (trans s t p q = true → min v0 (osa s t (p - 1) (q - 1) + 1) = osa s t (p + 1) (q + 1)) := by
                      intro ht
                      rw [HO.out, hv0, HRR.out, ht]
                      rfl
                    clear ev hv0 hT hT1 hbel hbel3 c0 c1 x01 x00 x10 x11 f11 hS hTt u01 u10 u00 HO HRR
                    generalize (wr.drewN (dd + 1)).setCell ⟨R1, q + 1, none⟩ (.int .i64 (v0 : Nat)) = W5 at *
                    by_cases hp1 : p = 0
                    · have hd : decide ((1 : Int) < (p : Int) + 1) = false := decide_eq_false (by omega)
                      have HF : Hid (v0 = osa s t (p + 1) (q + 1)) := HV.out (by simp [trans, hp1])
                      clear HV HV2 HR1 hp1
                      as_aux_lemma =>
                        go_wp2_with fail
                        go_quiet (fail)
                        as_aux_lemma =>
                          go_wp2_with fail
                          exact ⟨⟨q + 1, by go_num, by omega, (hT2.congr (fun r c _ _ => by rw [HF.out, part_step])).of (fun _ _ _ => rfl), below_drewN hbel2 _, below_drewN hbel4 _⟩, by simp [intOf]; omega⟩
                    · have hd : decide ((1 : Int) < (p : Int) + 1) = true := decide_eq_true (by omega)
                      by_cases hq1 : q = 0
                      · have hd2 : decide ((1 : Int) < (q : Int) + 1) = false := decide_eq_false (by omega)
                        have HF : Hid (v0 = osa s t (p + 1) (q + 1)) := HV.out (by simp [trans, hq1])
                        clear HV HV2 HR1 hp1 hq1
                        as_aux_lemma =>
                          go_wp2_with fail
                          go_quiet (fail)
                          as_aux_lemma =>
                            go_wp2_with fail
                            exact ⟨⟨q + 1, by go_num, by omega, (hT2.congr (fun r c _ _ => by rw [HF.out, part_step])).of (fun _ _ _ => rfl), below_drewN hbel2 _, below_drewN hbel4 _⟩, by simp [intOf]; omega⟩
                      · have hd2 : decide ((1 : Int) < (q : Int) + 1) = true := decide_eq_true (by omega)
                        obtain ⟨p2, hp2⟩ : ∃ p2, p = p2 + 1 := ⟨p - 1, by omega⟩
                        obtain ⟨q2, hq2⟩ : ∃ q2, q = q2 + 1 := ⟨q - 1, by omega⟩
                        have e2 : (p : Int) + 1 - 2 = (p2 : Nat) := by omega
                        have f2 : (q : Int) + 1 - 2 = (q2 : Nat) := by omega
                        have S1 : W5.cell? ⟨w.heap.size, p, none⟩ = some (.int .i32 (s p)) := (hs1D.below hbel4 (by omega)) p hpn
                        have S2 : W5.cell? ⟨w.heap.size, p2, none⟩ = some (.int .i32 (s p2)) := (hs1D.below hbel4 (by omega)) p2 (by omega)
                        have T1 : W5.cell? ⟨B2, q, none⟩ = some (.int .i32 (t q)) := (hs2D.below hbel4 hD) q hqm
                        have T2 : W5.cell? ⟨B2, q2, none⟩ = some (.int .i32 (t q2)) := (hs2D.below hbel4 hD) q2 (by omega)
                        have g1 : (p2 : Int) < (n : Int) := by omega
                        have g2 : (q2 : Int) < (m : Int) := by omega
                        have HP : Hid (p = p2 + 1) := hp2
                        have HQ2 : Hid (q = q2 + 1) := hq2
                        clear hp2 hq2
                        by_cases h3 : s p = t q2
                        · have hb3 : (s p == t q2) = true := by rw [h3]; simp
                          by_cases h4 : s p2 = t q
                          · have hb4 : (s p2 == t q) = true := by rw [h4]; simp
                            have HF : Hid (min v0 (osa s t p2 q2 + 1) = osa s t (p + 1) (q + 1)) := by
                              have := HV2.out (trans_t HP.out HQ2.out h3 h4)
                              rw [← this, HP.out, HQ2.out]
                              rfl
                            have c1 : W5.cell? ⟨D, p + 1, none⟩ = some (.slice (some ⟨R1, 0, none⟩) (m + 1) (m + 1)) := by
                              have := hT2.tops.cell (i := p + 1) (by omega)
                              rw [HR1.out] at this
                              exact this
                            have c2 : W5.cell? ⟨D, p2, none⟩ = some (.slice (some ⟨D + 1 + p2, 0, none⟩) (m + 1) (m + 1)) := hT2.tops.cell (by omega)
                            have z11 : W5.cell? ⟨R1, q + 1, none⟩ = some (.int .i64 (v0 : Nat)) := by
                              have := (hT2.row (p + 1) (by omega)).cell (i := q + 1) (by omega)
                              rw [HR1.out] at this
                              rw [this]
                              simp [upd2]
                            have f11 := (hT2.row (p + 1) (by omega)).frozen (q + 1)
                            rw [HR1.out] at f11
                            have z22 : W5.cell? ⟨D + 1 + p2, q2, none⟩ = some (.int .i64 (osa s t p2 q2 : Nat)) := by
                              have h0 := HP.out
                              rw [(hT2.row p2 (by omega)).cell (by omega)]
                              have h1 : ¬ (p2 = p + 1 ∧ q2 = q + 1) := by omega
                              have h2 : p2 < p + 1 := by omega
                              simp [upd2, part, h1, h2]
                            have u22 := osa_le s t p2 q2
                            generalize osa s t p2 q2 = y22 at *
                            generalize D + 1 + p2 = R2 at *
                            have g3 : (p2 : Int) < (n : Int) + 1 := by omega
                            have g4 : (q2 : Int) < (m : Int) + 1 := by omega
                            have hvy : y22 ≤ 8192 := by omega
                            obtain ⟨v1, hv1⟩ : ∃ v1 : Nat, v1 = min v0 (y22 + 1) := ⟨_, rfl⟩
                            have ev : (if (y22 : Int) + 1 < (v0 : Int) then (y22 : Int) + 1 else (v0 : Int)) = (v1 : Int) := by
                              split <;> omega
                            have hv1b : v1 ≤ 16386 := by omega
                            have hT3 := hT2.set (p + 1) (q + 1) v1 (by omega)
                            rw [HR1.out] at hT3
                            have HT3 : Hid (∀ d, Tab ((W5.drewN d).setCell ⟨R1, q + 1, none⟩ (.int .i64 (v1 : Nat))) D n m (part s t (p + 1) (q + 2))) := by
                              intro d
                              have h5 : Tab ((W5.drewN d).setCell ⟨R1, q + 1, none⟩ (.int .i64 (v1 : Nat))) D n m (upd2 (upd2 (part s t (p + 1) (q + 1)) (p + 1) (q + 1) v0) (p + 1) (q + 1) v1) := hT3.of (fun b _ _ => rfl)
                              refine h5.congr (fun r c _ _ => ?_)
                              rw [← part_step, ← HF.out, hv1]
                              unfold upd2
                              split <;> rfl
                            have HEV : Hid ((if (y22 : Int) + 1 < (v0 : Int) then (y22 : Int) + 1 else (v0 : Int)) = (v1 : Int)) := ev
                            clear u22 HV HV2 ev hv1 hT3 HF
                            as_aux_lemma =>
                              go_wp2_with fail
                              go_quiet (fail)
                              go_wp2_with fail
                              as_aux_lemma =>
                                go_region
                                rw [HEV.out]
                                as_aux_lemma =>
                                  go_wp2_with fail
                                  exact ⟨⟨q + 1, by go_num, by omega, HT3.out _, (below_drewN hbel2 _).setCell hR1w _, (below_drewN hbel4 _).setCell hR1D _⟩, by simp [intOf]; omega⟩
                          · have hb4 : (s p2 == t q) = false := by simpa using h4
                            have HF : Hid (v0 = osa s t (p + 1) (q + 1)) := HV.out (trans_f4 HP.out HQ2.out h4)
                            clear HV HV2 HR1 hp1 hq1 HP HQ2 h3 h4
                            as_aux_lemma =>
                              go_wp2_with fail
                              go_quiet (fail)
                              as_aux_lemma =>
                                go_wp2_with fail
                                exact ⟨⟨q + 1, by go_num, by omega, (hT2.congr (fun r c _ _ => by rw [HF.out, part_step])).of (fun _ _ _ => rfl), below_drewN hbel2 _, below_drewN hbel4 _⟩, by simp [intOf]; omega⟩
                        · have hb3 : (s p == t q2) = false := by simpa using h3
                          have HF : Hid (v0 = osa s t (p + 1) (q + 1)) := HV.out (trans_f3 HP.out HQ2.out h3)
                          clear HV HV2 HR1 hp1 hq1 HP HQ2 h3
                          as_aux_lemma =>
                            go_wp2_with fail
                            go_quiet (fail)
                            as_aux_lemma =>
                              go_wp2_with fail
                              exact ⟨⟨q + 1, by go_num, by omega, (hT2.congr (fun r c _ _ => by rw [HF.out, part_step])).of (fun _ _ _ => rfl), below_drewN hbel2 _, below_drewN hbel4 _⟩, by simp [intOf]; omega⟩
                · obtain rfl : q = m := by omega
                  have hTp := hT.congr (fun r c _ hc => part_row s t q p r c hc)
                  clear hT
                  go_wp2_with fail
                  exact ⟨⟨p + 1, by go_num, by omega, hTp, hbel, hbel3⟩, by simp [intOf]; omega⟩
            · obtain rfl : p = n := by omega
              have h1 : wr.cell? ⟨D, p, none⟩ = some (.slice (some ⟨D + 1 + p, 0, none⟩) (m + 1) (m + 1)) := hT.tops.cell (i := p) (by omega)
              have h2 : wr.cell? ⟨D + 1 + p, m, none⟩ = some (.int .i64 (osa s t p m : Nat)) := by
                have := (hT.row p (Nat.le_refl _)).cell (i := m) (by omega)
                rw [this]
                simp [part]
              have b1 : (p : Int) < (p : Int) + 1 := by omega
              have b2 : (m : Int) < (m : Int) + 1 := by omega
              clear hT
              go_wp2
              go_ret
              exact ⟨by rw [HQ.out]; rfl, hbel⟩
end Go.Proofs.Qxb6605533a
