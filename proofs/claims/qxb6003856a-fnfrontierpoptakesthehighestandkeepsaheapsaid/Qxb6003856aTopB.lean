/-
  Seat b6003856a. The walk of the law FnFrontierPopTakesTheHighestAndKeepsAHeap.
-/
import Derived.Test.Qxb6003856aTopA
namespace Go.Proofs.Qxb6003856a
open Go.ChangeShapes Go.WideShapes Go.RowKit
set_option linter.unusedVariables false
attribute [local go_sem] run_store_float

theorem eq_yes (x y : Nat) (hx : Num x) (hy : Num y) (h : fkey x = fkey y) : (FloatKind.f64.format.order x y != some Ordering.eq) = false := by
  have := eq_fkey x y hx hy
  rw [decide_eq_true h] at this
  have h2 : (FloatKind.f64.format.order x y == some Ordering.eq) = true := this
  simpa using h2

/-- THE STATE OF THE LAST LOOP: block b holds the heap of m nodes; P the slice over it; S the nodes seen, none of those from k on among them; a2 leads to the bounds. -/
structure TS (P S b n m k : Nat) (a2 : Option Addr) (bd π : Nat → Nat) (sn : Nat → Bool) (w : World) : Prop where
  heap : HeapIs w b m bd π
  cell : w.cell? ⟨P, 0, none⟩ = some (.slice (some ⟨b, 0, none⟩) m n)
  seen : w.rowIs S 4 n (fun v => .bool (sn v))
  fl : Floats w a2 n bd
  un : ∀ j, k ≤ j → j < m → sn (π j) = false

set_option maxRecDepth 100000 in
set_option maxHeartbeats 4000000 in
theorem walk6 (a : Option Addr) (n c : Nat) (bd : Nat → Nat) (w : World) (h : IsFloats w a n c bd) :
    Calls Try.prog 6 #[.slice a n c] w fun e w' => e = .returned (.bool true) ∧ Below w.heap.size w w' := by
  obtain ⟨hf, hz, hl⟩ := h
  go_enter Try.func6, Try.ntmps6
  go_wp2_with fail
  refine (zz19 a n c w hl).mono ?_
  rintro e w' ⟨⟨r, rfl, hr⟩, rfl⟩
  cases r
  · clear hr
    go_wp2
    go_ret
    exact ⟨rfl, Below.refl _ _⟩
  have hn1 := hr rfl
  clear hr hl
  by_cases hn : 65536 < n
  · go_wp2
    go_ret
    exact ⟨rfl, Below.refl _ _⟩
  go_wp2_with fail
  refine (nan13 a n c bd w' hf (by omega)).mono ?_
  rintro e w1 ⟨⟨r, rfl, hr⟩, hbel1⟩
  cases r
  case true =>
    clear hr
    go_wp2
    go_ret
    exact ⟨rfl, hbel1⟩
  have hnum := hr rfl
  clear hr
  by_cases hn0 : n = 0
  · subst hn0
    go_wp2
    go_ret
    exact ⟨rfl, hbel1⟩
  have hnz : ((n : Int) == 0) = false := by simp; omega
  go_wp2_with fail
  refine (copy14 a n c bd w1 (hf.below hbel1) hz (by omega)).mono ?_
  rintro e w2 ⟨a2, rfl, hf2, ha2, hbel2⟩
  clear hf hz
  rcases hf2 with h | ⟨ab, ao, rfl, hfc⟩
  · omega
  have hf2 : Floats w2 (some ⟨ab, ao, none⟩) n bd := .inr ⟨ab, ao, rfl, hfc⟩
  have hf0 := hfc 0 (by omega)
  rw [Nat.add_zero] at hf0
  have hnp : (0 : Int) < (n : Int) := by omega
  go_wp2_with fail
  go_loop [4, 5] (fun hv iv => ∃ (k v : Nat), iv = .int .i64 (k : Nat) ∧ 1 ≤ k ∧ k ≤ n ∧ hv = .float .f64 (bd v) ∧ v < n ∧ ∀ j, j < k → fkey (bd j) ≤ fkey (bd v)) (fun _ iv => n - (intOf iv).toNat)
  case atStart => exact ⟨1, 0, by go_num, by omega, by omega, rfl, by omega, (fun j hj => by have e : j = 0 := (by omega); subst e; exact Int.le_refl _)⟩
  case round =>
    obtain ⟨k, v, rfl, hk1, hkn, rfl, hv, hmax⟩ := hrel
    by_cases hlt : k < n
    · have hck := hfc k hlt
      by_cases hgt : fkey (bd v) < fkey (bd k)
      · have hg := gt_yes _ _ (hnum k hlt) (hnum v hv) hgt
        have HM : Hid (∀ j, j < k → fkey (bd j) ≤ fkey (bd v)) := hmax
        clear hfc hnum hmax hf2 ha2
        go_wp2
        refine ⟨⟨k + 1, k, by go_num, by omega, by omega, rfl, hlt, fun j hj => ?_⟩, by simp [intOf]; omega⟩
        by_cases e : j = k
        · subst e; exact Int.le_refl _
        · have := HM.out j (by omega); omega
      · have hg := gt_no _ _ (hnum k hlt) (hnum v hv) hgt
        have HM : Hid (∀ j, j < k → fkey (bd j) ≤ fkey (bd v)) := hmax
        clear hfc hnum hmax hf2 ha2
        go_wp2
        refine ⟨⟨k + 1, v, by go_num, by omega, by omega, rfl, hv, fun j hj => ?_⟩, by simp [intOf]; omega⟩
        by_cases e : j = k
        · subst e; omega
        · exact HM.out j (by omega)
    · obtain rfl : k = n := by omega
      have hnumv := hnum v hv
      obtain ⟨m, hm⟩ : ∃ m, m + 1 = k := ⟨k - 1, by omega⟩
      have HM1 : Hid (m + 1 = k) := hm
      have hm1 : m + 1 ≤ k := by omega
      have hm2 : k ≤ m + 1 := by omega
      clear hm hfc
      go_wp2_with fail
      refine (build15 (some ⟨ab, ao, none⟩) k k bd w2 hf2 hnum (by omega)).mono ?_
      rintro e w3 ⟨b, π, rfl, hb2, hb3, hH, hheap, hperm, hbel3⟩
      have hf3 := hf2.below hbel3
      have hbel : Below w'.heap.size w' w3 := (hbel1.trans (hbel2.mono hbel1.size)).trans (hbel3.mono (Nat.le_trans hbel1.size hbel2.size))
      have hbw : w'.heap.size ≤ b := Nat.le_trans (Nat.le_trans hbel1.size hbel2.size) hb2
      have hab : ab < b := Nat.lt_of_lt_of_le (ha2 _ rfl).2 hb2
      clear hbel1 hbel2 hbel3 hf2 ha2 hb2 hf0
      have htop : fkey (bd (π 0)) = fkey (bd v) := by
        obtain ⟨j, hj, e⟩ := hperm.sur v hv
        have h1 := root_max hheap j hj
        rw [e] at h1
        have h2 := hmax (π 0) (hperm.rng 0 (by omega))
        omega
      have hne := eq_yes _ _ (hnum (π 0) (hperm.rng 0 (by omega))) hnumv htop
      clear htop hmax
      go_wp2_with fail
      have hnew : Below w3.heap.size w3 (w3.alloc (.cells #[.slice (some ⟨b, 0, none⟩) k k] 33)) := (Below.refl _ _).alloc (Nat.le_refl _) _
      have hPb := heap_alloc_new w3 (.cells #[.slice (some ⟨b, 0, none⟩) k k] 33)
      have hsz4 : w3.heap.size < (w3.alloc (.cells #[.slice (some ⟨b, 0, none⟩) k k] 33)).heap.size := by simp
      have hH4 := hH.of_block (hnew.block b hb3)
      have hf4 := hf3.below hnew
      have hbel4 := hbel.trans (hnew.mono hbel.size)
      clear hH hf3 hbel hnew
      generalize w3.alloc (.cells #[.slice (some ⟨b, 0, none⟩) k k] 33) = W4 at *
      generalize w3.heap.size = P at *
      have hcP : W4.cell? ⟨P, 0, none⟩ = some (.slice (some ⟨b, 0, none⟩) (m + 1) k) := by rw [cell_of_row _ _ _ _ _ _ hPb, HM1.out]; rfl
      have hfP : W4.frozen? ⟨P, 0, none⟩ = false := by simp [World.frozen?, hPb]
      refine (pop16 bd P b k m k π W4 (by omega) (by omega) (by omega) (by omega) hcP hfP hH4 (by omega) (fun j hj => hnum _ (hperm.rng j hj)) (by rw [HM1.out]; exact hheap) (by rw [HM1.out]; exact hperm.inj)).mono ?_
      rintro e w5 ⟨π', rfl, hH5, hc5, hfr5, hheap5, hinj5, hsub5, hk5⟩
      have hf5 : Floats w5 (some ⟨ab, ao, none⟩) k bd := hf4.of (fun x hx => by obtain rfl := Option.some.inj hx; exact hk5.block _ (by show ab < _; omega) (by show ¬ (ab = b ∨ ab = P); omega))
      have hbel5 : Below w'.heap.size w' w5 := hbel4.trans (hk5.below hbel4.size (fun j hj => by rcases hj with rfl | rfl <;> omega))
      have hsz5 : P < w5.heap.size := by have := hk5.size; omega
      have hmax5 : ∀ j, j < m → fkey (bd (π' j)) ≤ fkey (bd (π 0)) := fun j hj => by
        obtain ⟨i, hi0, hi1, e⟩ := hsub5 j hj
        rw [e]
        exact root_max hheap i (by omega)
      have hrng5 : ∀ j, j < m → π' j < k := fun j hj => by
        obtain ⟨i, hi0, hi1, e⟩ := hsub5 j hj
        rw [e]
        exact hperm.rng i (by omega)
      have hne5 : ∀ j, j < m → π' j ≠ π 0 := fun j hj e2 => by
        obtain ⟨i, hi0, hi1, e⟩ := hsub5 j hj
        have := hperm.inj i 0 (by omega) (by omega) (e.symm.trans e2)
        omega
      have hv0 : π 0 < k := hperm.rng 0 (by omega)
      clear hH4 hf4 hbel4 hcP hfP hPb hk5 hsub5 hheap hperm hsz4
      go_wp2_with fail
      refine (bound18 _ _ _).mono ?_
      rintro e w6 ⟨rfl, rfl⟩
      have hnew : Below w5.heap.size w5 ((w5.alloc (.cells #[.float .f64 (bd (π 0)), .pointer none, .pointer none, .int .i64 (π 0)] 39)).alloc (.cells #[.float .f64 (bd (π 0)), .pointer none, .pointer none, .int .i64 (π 0)] 39)) := ((Below.refl _ _).alloc (Nat.le_refl _) _).alloc (by simp) _
      have hTb : ((w5.alloc (.cells #[.float .f64 (bd (π 0)), .pointer none, .pointer none, .int .i64 (π 0)] 39)).alloc (.cells #[.float .f64 (bd (π 0)), .pointer none, .pointer none, .int .i64 (π 0)] 39)).heap[w5.heap.size]? = some (.cells #[.float .f64 (bd (π 0)), .pointer none, .pointer none, .int .i64 (π 0)] 39) := by rw [Below.heap_alloc _ _ _ (by simp)]; exact heap_alloc_new _ _
      have hsz6 : w5.heap.size < ((w5.alloc (.cells #[.float .f64 (bd (π 0)), .pointer none, .pointer none, .int .i64 (π 0)] 39)).alloc (.cells #[.float .f64 (bd (π 0)), .pointer none, .pointer none, .int .i64 (π 0)] 39)).heap.size := by simp; omega
      have hH6 := hH5.of_block (hnew.block b (by omega))
      have hc6 := (hnew.cell (p := ⟨P, 0, none⟩) hsz5).trans hc5
      have hf6 := hf5.below hnew
      have hbel6 := hbel5.trans (hnew.mono hbel5.size)
      clear hH5 hc5 hf5 hbel5 hnew hfr5
      generalize (w5.alloc (.cells #[.float .f64 (bd (π 0)), .pointer none, .pointer none, .int .i64 (π 0)] 39)).alloc (.cells #[.float .f64 (bd (π 0)), .pointer none, .pointer none, .int .i64 (π 0)] 39) = W6 at *
      have hgtP : P < w5.heap.size := hsz5
      generalize w5.heap.size = T5 at *
      have hlen : ((m : Int) != (k : Int) - 1) = false := by simp; omega
      go_wp2_with fail
      refine (heap20 b m k bd π' W6 (hH6.le (by omega)) (fun j hj => hnum _ (hrng5 j hj)) hheap5 (by omega)).mono ?_
      rintro e w7 ⟨rfl, hbel7⟩
      have hH7 := hH6.of_block (hbel7.block b (by omega))
      have hc7 := (hbel7.cell (p := ⟨P, 0, none⟩) (by show P < _; omega)).trans hc6
      have hf7 := hf6.below hbel7
      have hbel8 := hbel6.trans (hbel7.mono hbel6.size)
      obtain ⟨t0, t1, t2, t3, _⟩ := four_cells ((hbel7.block T5 hsz6).trans hTb)
      have hsz7 : T5 < w7.heap.size := by have := hbel7.size; omega
      have hinjm := hinj5
      clear hH6 hc6 hf6 hbel6 hTb hbel7 hheap5 hinj5 hsz6
      have hmk := run_make_row' (P := Try.prog) 35 4 (.bool false) 1 Try.underlying35 info4 rfl .i64 .i64 k (by omega) (by omega)
      go_wp2_with fail
      refine (node17 _ _ _).mono ?_
      rintro e w8 ⟨rfl, rfl⟩
      have hnew : Below w7.heap.size w7 ((w7.alloc (.cells (madeCells #[.bool false] k) 4)).alloc (.cells #[.float .f64 (bd (π 0)), .pointer none, .pointer none, .int .i64 (π 0)] 39)) := ((Below.refl _ _).alloc (Nat.le_refl _) _).alloc (by simp) _
      have hS8 : ((w7.alloc (.cells (madeCells #[.bool false] k) 4)).alloc (.cells #[.float .f64 (bd (π 0)), .pointer none, .pointer none, .int .i64 (π 0)] 39)).rowIs w7.heap.size 4 k (fun _ => .bool false) := (World.rowIs_made w7 (.bool false) k 4).alloc _
      have hH8 := hH7.of_block (hnew.block b (by omega))
      have hc8 := (hnew.cell (p := ⟨P, 0, none⟩) (by show P < _; omega)).trans hc7
      have hf8 := hf7.below hnew
      have hbel9 := hbel8.trans (hnew.mono hbel8.size)
      clear hH7 hc7 hf7 hbel8 hnew t0 t1 t2 t3 hmk
      generalize (w7.alloc (.cells (madeCells #[.bool false] k) 4)).alloc (.cells #[.float .f64 (bd (π 0)), .pointer none, .pointer none, .int .i64 (π 0)] 39) = W8 at *
      generalize w7.heap.size = S at *
      have hszS := hS8.lt
      have hnv0 := hnum _ hv0
      have hne0 := eq_yes _ _ hnv0 hnv0 rfl
      have hvn : ((π 0 : Nat) : Int) < (k : Int) := by omega
      have hcs : W8.cell? ⟨S, π 0, none⟩ = some (.bool false) := hS8.cell hv0
      have hcf := hS8.frozen (π 0)
      have hcb : W8.cell? ⟨ab, ao + π 0, none⟩ = some (.float .f64 (bd (π 0))) := by
        rcases hf8 with h | ⟨x, y, e, hc⟩
        · omega
        · obtain ⟨rfl, rfl⟩ : ab = x ∧ ao = y := by simpa using e
          exact hc _ hv0
      have hTS : TS P S b k m 0 (some ⟨ab, ao, none⟩) bd π' (fun v => decide (v = π 0)) (W8.setCell ⟨S, π 0, none⟩ (.bool true)) := by
        refine ⟨(hH8.le (by omega)).of_block (Below.heap_setCell _ _ _ _ (by show b ≠ S; omega)), ?_, ?_, ?_, ?_⟩
        · rw [World.cell?_of_block (w := W8) (a := ⟨P, 0, none⟩) (Below.heap_setCell _ _ _ _ (by show P ≠ S; omega))]; exact hc8
        · refine (hS8.set (π 0) (.bool true)).congr fun j _ => ?_
          by_cases e : j = π 0 <;> simp [e]
        · exact hf8.of (fun x hx => Below.heap_setCell _ _ _ _ (by obtain rfl := Option.some.inj hx; show ab ≠ S; omega))
        · intro j _ hj
          exact decide_eq_false (hne5 j hj)
      have hbelT : Below w'.heap.size w' (W8.setCell ⟨S, π 0, none⟩ (.bool true)) := hbel9.setCell (by show w'.heap.size ≤ S; omega) _
      have hszT : S < (W8.setCell ⟨S, π 0, none⟩ (.bool true)).heap.size := by simp [World.setCell]; exact hszS
      clear hS8 hH8 hc8 hf8 hbel9 hne5
      have habS : ¬ ab = S := by omega
      generalize hp0 : π 0 = v0 at *
      clear hp0
      have hd0 : decide ((v0 : Int) < 0) = false := decide_eq_false (by omega)
      have hd1 : decide (k ≤ v0) = false := decide_eq_false (by omega)
      go_wp2_with fail
      go_loopw [11] (fun iv wr => ∃ (q : Nat) (sn : Nat → Bool), iv = .int .i64 q ∧ q ≤ m ∧ TS P S b k m q (some ⟨ab, ao, none⟩) bd π' sn wr ∧ Below w'.heap.size w' wr ∧ S < wr.heap.size) (fun iv _ => m - (intOf iv).toNat)
      case atStart => exact ⟨0, _, rfl, Nat.zero_le _, hTS, hbelT, hszT⟩
      case round =>
        clear hTS hbelT hszT hcs hcf hcb hszS
        obtain ⟨q, sn, rfl, hq, hts, hbel, hszS⟩ := hrel
        have hcP := hts.cell
        by_cases hqm : q < m
        · have a0 := hts.heap.c0 hqm
          have a1 := hts.heap.c1 hqm
          have a2 := hts.heap.c2 hqm
          have a3 := hts.heap.c3 hqm
          have hqi : (q : Int) < (m : Int) := by omega
          have hbw2 : b < wr.heap.size := by omega
          have hPw : P < wr.heap.size := by omega
          go_wp2_with fail
          refine (node17 _ _ _).mono ?_
          rintro e w9 ⟨rfl, rfl⟩
          go_wp2_with fail
          refine (bound18 _ _ _).mono ?_
          rintro e w9 ⟨rfl, rfl⟩
          have hnew : Below wr.heap.size wr ((wr.alloc (.cells #[.float .f64 (bd (π' q)), .pointer none, .pointer none, .int .i64 (π' q)] 39)).alloc (.cells #[.float .f64 (bd (π' q)), .pointer none, .pointer none, .int .i64 (π' q)] 39)) := ((Below.refl _ _).alloc (Nat.le_refl _) _).alloc (by simp) _
          have hS9 := hts.seen.of_block (hnew.block S hszS)
          have hH9 := hts.heap.of_block (hnew.block b (by omega))
          have hc9 := (hnew.cell (p := ⟨P, 0, none⟩) (by show P < _; omega)).trans hcP
          have hf9 := hts.fl.below hnew
          have hbel9 := hbel.trans (hnew.mono hbel.size)
          have hun := hts.un
          clear a0 a1 a2 a3 hcP hts hbel hnew hbw2 hPw
          generalize (wr.alloc (.cells #[.float .f64 (bd (π' q)), .pointer none, .pointer none, .int .i64 (π' q)] 39)).alloc (.cells #[.float .f64 (bd (π' q)), .pointer none, .pointer none, .int .i64 (π' q)] 39) = W9 at *
          have hsz9 := hS9.lt
          have hr := hrng5 q hqm
          have hnvq := hnum _ hr
          have hneq := eq_yes _ _ hnvq hnvq rfl
          have hgt := gt_no _ _ hnvq hnv0 (Int.not_lt.2 (hmax5 q hqm))
          have hrn : ((π' q : Nat) : Int) < (k : Int) := by omega
          have hcs : W9.cell? ⟨S, π' q, none⟩ = some (.bool false) := by rw [hS9.cell hr, hun q (Nat.le_refl _) hqm]
          have hcf := hS9.frozen (π' q)
          have hcb : W9.cell? ⟨ab, ao + π' q, none⟩ = some (.float .f64 (bd (π' q))) := by
            rcases hf9 with h | ⟨x, y, e, hc⟩
            · omega
            · obtain ⟨rfl, rfl⟩ : ab = x ∧ ao = y := by simpa using e
              exact hc _ hr
          have hTS : TS P S b k m (q + 1) (some ⟨ab, ao, none⟩) bd π' (fun v => if v = π' q then true else sn v) (W9.setCell ⟨S, π' q, none⟩ (.bool true)) := by
            refine ⟨hH9.of_block (Below.heap_setCell _ _ _ _ (by show b ≠ S; omega)), ?_, ?_, ?_, ?_⟩
            · rw [World.cell?_of_block (w := W9) (a := ⟨P, 0, none⟩) (Below.heap_setCell _ _ _ _ (by show P ≠ S; omega))]; exact hc9
            · refine (hS9.set (π' q) (.bool true)).congr fun j _ => ?_
              split <;> rfl
            · exact hf9.of (fun x hx => Below.heap_setCell _ _ _ _ (by obtain rfl := Option.some.inj hx; show ab ≠ S; omega))
            · intro j hj1 hj2
              have hjq : π' j ≠ π' q := fun e => by have := hinjm j q hj2 hqm e; omega
              show (if π' j = π' q then true else sn (π' j)) = false
              rw [if_neg hjq]
              exact hun j (by omega) hj2
          have hbelT : Below w'.heap.size w' (W9.setCell ⟨S, π' q, none⟩ (.bool true)) := hbel9.setCell (by show w'.heap.size ≤ S; omega) _
          have hszT : S < (W9.setCell ⟨S, π' q, none⟩ (.bool true)).heap.size := by simp [World.setCell]; exact hsz9
          clear hS9 hH9 hc9 hf9 hbel9 hun hrng5 hmax5 hnum hinjm
          generalize π' q = u at *
          go_wp2_with fail
          exact ⟨⟨q + 1, _, by go_num, by omega, hTS, hbelT, hszT⟩, by simp [intOf]; omega⟩
        · clear hrng5 hmax5 hnum hts
          go_wp2
          go_ret
          exact ⟨rfl, hbel⟩
end Go.Proofs.Qxb6003856a
