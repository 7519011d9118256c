/-
  Seat b6003856a. The walk of the law FnFrontierPopDrainsInNonIncreasingOrder.
-/
import Derived.Test.Qxb6003856aMemC
namespace Go.Proofs.Qxb6003856a
open Go.ChangeShapes Go.WideShapes Go.RowKit
set_option linter.unusedVariables false
attribute [local go_sem] run_store_float

theorem info4 : (Try.prog.info? 4).map (fun i => (i.zero, i.size, i.bytes)) = some (some (.bool false), 1, 1) := by kernel_rfl

theorem HeapIs.le {w : World} {b n m : Nat} {bd π : Nat → Nat} (h : HeapIs w b n bd π) (hm : m ≤ n) : HeapIs w b m bd π := ⟨fun j hj => h.has j (by omega), h.free⟩

theorem Floats.of {w w' : World} {a : Option Addr} {n : Nat} {f : Nat → Nat} (h : Floats w a n f) (e : ∀ x, a = some x → w'.heap[x.block]? = w.heap[x.block]?) : Floats w' a n f := by
  rcases h with h | ⟨b, off, rfl, hc⟩
  · exact .inl h
  · refine .inr ⟨b, off, rfl, fun i hi => ?_⟩
    rw [World.cell?_of_block (w := w) (w' := w') (a := ⟨b, off + i, none⟩) (e ⟨b, off, none⟩ rfl)]
    exact hc i hi

theorem Floats.below {w w' : World} {a : Option Addr} {n : Nat} {f : Nat → Nat} (h : Floats w a n f) (hb : Below w.heap.size w w') : Floats w' a n f := by
  rcases h with h | ⟨b, off, rfl, hc⟩
  · exact .inl h
  · refine .inr ⟨b, off, rfl, fun i hi => ?_⟩
    rw [hb.cell (World.block_lt_of_cell? w _ (hc i hi))]
    exact hc i hi

/-- a slice of floats that came in -/
structure IsFloats (w : World) (a : Option Addr) (n c : Nat) (f : Nat → Nat) : Prop where
  fl : Floats w a n f
  nil : a = none → n = 0 ∧ c = 0
  len : n ≤ maxLen

/-- THE STATE OF THE DRAIN: block b holds the heap, of which m nodes are left; P the slice over it; S the nodes that were seen; a2 leads to the bounds. -/
structure DS (P S b n m : Nat) (a2 : Option Addr) (bd π : Nat → Nat) (sn : Nat → Bool) (w : World) : Prop where
  heap : HeapIs w b m bd π
  cell : w.cell? ⟨P, 0, none⟩ = some (.slice (some ⟨b, 0, none⟩) m n)
  free : w.frozen? ⟨P, 0, none⟩ = false
  seen : w.rowIs S 4 n (fun v => .bool (sn v))
  fl : Floats w a2 n bd
  hp : HeapOn (fun v => fkey (bd v)) m π
  inj : InjOn m π
  rng : ∀ j, j < m → π j < n
  un : ∀ j, j < m → sn (π j) = false

/-- nothing that the state speaks of has turned -/
theorem DS.below {P S b n m : Nat} {a2 : Option Addr} {bd π : Nat → Nat} {sn : Nat → Bool} {w w' : World} (h : DS P S b n m a2 bd π sn w) (hbl : b < w.heap.size) (hb : Below w.heap.size w w') : DS P S b n m a2 bd π sn w' := by
  have hP := World.block_lt_of_cell? w _ h.cell
  exact ⟨h.heap.of_block (hb.block _ hbl), by rw [hb.cell hP]; exact h.cell, by rw [hb.frozen hP]; exact h.free, h.seen.of_block (hb.block _ h.seen.lt), h.fl.below hb, h.hp, h.inj, h.rng, h.un⟩

/-- the state behind pop, and the node marked -/
theorem DS.popped {P b n m : Nat} {a2 : Option Addr} {bd π π' : Nat → Nat} {sn : Nat → Bool} {w w' : World} (h : DS P (P + 1) b n (m + 1) a2 bd π sn w) (hbP : b < P) (hPw : P < w.heap.size) (ha : ∀ x, a2 = some x → x.block < b)
    (hH : HeapIs w' b (m + 1) bd π') (hc : w'.cell? ⟨P, 0, none⟩ = some (.slice (some ⟨b, 0, none⟩) m n)) (hf : w'.frozen? ⟨P, 0, none⟩ = false) (hheap : HeapOn (fun v => fkey (bd v)) m π') (hinj : InjOn m π') (hsub : SubOf m π' π (m + 1)) (hk : Kept (fun k => k = b ∨ k = P) w w') :
    w'.rowIs (P + 1) 4 n (fun v => .bool (sn v)) ∧ Floats w' a2 n bd ∧ DS P (P + 1) b n m a2 bd π' (fun v => if v = π 0 then true else sn v) (w'.setCell ⟨P + 1, π 0, none⟩ (.bool true)) := by
  have hS := h.seen.of_block (hk.block _ h.seen.lt (by show ¬ (P + 1 = b ∨ P + 1 = P); omega))
  have hfl : Floats w' a2 n bd := h.fl.of (fun x hx => hk.block _ (by have := ha x hx; omega) (by show ¬ (x.block = b ∨ x.block = P); have := ha x hx; omega))
  refine ⟨hS, hfl, ?_, ?_, ?_, ?_, ?_, hheap, hinj, ?_, ?_⟩
  · exact (hH.le (by omega)).of_block (Below.heap_setCell _ _ _ _ (by show b ≠ P + 1; omega))
  · rw [World.cell?_of_block (w := w') (a := ⟨P, 0, none⟩) (Below.heap_setCell _ _ _ _ (by show P ≠ P + 1; omega))]; exact hc
  · rw [World.frozen?_setCell]; exact hf
  · refine (hS.set (π 0) (.bool true)).congr fun j _ => ?_
    split <;> rfl
  · exact hfl.of (fun x hx => Below.heap_setCell _ _ _ _ (by show x.block ≠ P + 1; have := ha x hx; omega))
  · intro j hj
    obtain ⟨i, hi0, hi1, e⟩ := hsub j hj
    rw [e]; exact h.rng i hi1
  · intro j hj
    obtain ⟨i, hi0, hi1, e⟩ := hsub j hj
    have hne : π' j ≠ π 0 := by
      rw [e]
      intro e2
      have := h.inj i 0 hi1 (by omega) e2
      omega
    show (if π' j = π 0 then true else sn (π' j)) = false
    rw [if_neg hne, e]
    exact h.un i hi1

set_option maxRecDepth 100000 in
set_option maxHeartbeats 2000000 in
theorem walk5 (a : Option Addr) (n c : Nat) (bd : Nat → Nat) (w : World) (h : IsFloats w a n c bd) :
    Calls Try.prog 5 #[.slice a n c] w fun e w' => e = .returned (.bool true) ∧ Below w.heap.size w w' := by
  obtain ⟨hf, hz, hl⟩ := h
  go_enter Try.func5, Try.ntmps5
  go_wp2_with fail
  refine (zz12 a n c w hl).mono ?_
  rintro e w' ⟨⟨r, rfl, hr⟩, rfl⟩
  cases r
  · clear hr
    go_wp2
    go_ret
    exact ⟨rfl, Below.refl _ _⟩
  have hn1 := hr rfl
  clear hr hl
  by_cases hn : 65536 < n
  · go_wp2
    go_ret
    exact ⟨rfl, Below.refl _ _⟩
  go_wp2_with fail
  refine (nan13 a n c bd w' hf (by omega)).mono ?_
  rintro e w1 ⟨⟨r, rfl, hr⟩, hbel1⟩
  cases r
  case true =>
    clear hr
    go_wp2
    go_ret
    exact ⟨rfl, hbel1⟩
  have hnum := hr rfl
  clear hr
  go_wp2_with fail
  refine (copy14 a n c bd w1 (hf.below hbel1) hz (by omega)).mono ?_
  rintro e w2 ⟨a2, rfl, hf2, ha2, hbel2⟩
  clear hf hz
  go_wp2_with fail
  refine (build15 a2 n n bd w2 hf2 hnum (by omega)).mono ?_
  rintro e w3 ⟨b, π, rfl, hb2, hb3, hH, hheap, hperm, hbel3⟩
  have hf3 := hf2.below hbel3
  have hbel : Below w'.heap.size w' w3 := (hbel1.trans (hbel2.mono hbel1.size)).trans (hbel3.mono (Nat.le_trans hbel1.size hbel2.size))
  have hbw : w'.heap.size ≤ b := Nat.le_trans (Nat.le_trans hbel1.size hbel2.size) hb2
  have ha3 : ∀ x, a2 = some x → w'.heap.size ≤ x.block ∧ x.block < b := fun x hx => ⟨Nat.le_trans hbel1.size (ha2 x hx).1, Nat.lt_of_lt_of_le (ha2 x hx).2 hb2⟩
  clear hbel1 hbel2 hbel3 hf2 ha2 hb2
  have hmk := run_make_row' (P := Try.prog) 35 4 (.bool false) 1 Try.underlying35 info4 rfl .i64 .i64 n (by omega) (by omega)
  go_wp2_with fail
  have hst : DS w3.heap.size (w3.heap.size + 1) b n n a2 bd π (fun _ => false) ((w3.alloc (.cells #[.slice (some ⟨b, 0, none⟩) n n] 33)).alloc (.cells (madeCells #[.bool false] n) 4)) := by
    have hs1 : (w3.alloc (.cells #[.slice (some ⟨b, 0, none⟩) n n] 33)).heap.size = w3.heap.size + 1 := by simp
    have hblk : ∀ k, k < w3.heap.size → ((w3.alloc (.cells #[.slice (some ⟨b, 0, none⟩) n n] 33)).alloc (.cells (madeCells #[.bool false] n) 4)).heap[k]? = w3.heap[k]? := fun k hk => by
      rw [Below.heap_alloc _ _ _ (by omega), Below.heap_alloc _ _ _ hk]
    have hPb : ((w3.alloc (.cells #[.slice (some ⟨b, 0, none⟩) n n] 33)).alloc (.cells (madeCells #[.bool false] n) 4)).heap[w3.heap.size]? = some (.cells #[.slice (some ⟨b, 0, none⟩) n n] 33) := by
      rw [Below.heap_alloc _ _ _ (by omega)]; exact heap_alloc_new _ _
    refine ⟨hH.of_block (hblk b hb3), ?_, ?_, ?_, hf3.below ⟨rfl, rfl, rfl, by simp; omega, hblk⟩, hheap, hperm.inj, hperm.rng, fun _ _ => rfl⟩
    · rw [cell_of_row _ _ _ _ _ _ hPb]; rfl
    · simp [World.frozen?, hPb]
    · have := World.rowIs_made (w3.alloc (.cells #[.slice (some ⟨b, 0, none⟩) n n] 33)) (.bool false) n 4
      rw [hs1] at this
      exact this
  have hbelS : Below w'.heap.size w' ((w3.alloc (.cells #[.slice (some ⟨b, 0, none⟩) n n] 33)).alloc (.cells (madeCells #[.bool false] n) 4)) := (hbel.alloc hbel.size _).alloc (by simp; have := hbel.size; omega) _
  have hszS : w3.heap.size + 1 < ((w3.alloc (.cells #[.slice (some ⟨b, 0, none⟩) n n] 33)).alloc (.cells (madeCells #[.bool false] n) 4)).heap.size := by simp
  generalize (w3.alloc (.cells #[.slice (some ⟨b, 0, none⟩) n n] 33)).alloc (.cells (madeCells #[.bool false] n) 4) = Wst at *
  generalize w3.heap.size = P at *
  have hbP : b < P := hb3
  go_loopw [6, 7, 8] (fun hv la i wr => ∃ (k : Nat) (π : Nat → Nat) (sn : Nat → Bool) (hb : Bool) (lb : Nat), i = .int .i64 k ∧ k ≤ n ∧ hv = .bool hb ∧ la = .float .f64 lb ∧ DS P (P + 1) b n (n - k) a2 bd π sn wr ∧ (hb = true → Num lb ∧ ∀ j, j < n - k → fkey (bd (π j)) ≤ fkey lb) ∧ Below w'.heap.size w' wr ∧ P + 1 < wr.heap.size) (fun _ _ i _ => n - (intOf i).toNat)
  case atStart => exact ⟨0, π, fun _ => false, false, 0, rfl, Nat.zero_le _, rfl, rfl, hst, (fun h => by cases h), hbelS, hszS⟩
  case round =>
    clear hst hbelS hszS hH hheap hperm hbel hf3
    obtain ⟨k, π, sn, hb, lb, rfl, hk, rfl, rfl, hds, hlast, hbelr, hsz⟩ := hrel
    by_cases hkn : k < n
    · obtain ⟨m, hm⟩ : ∃ m, n - k = m + 1 := ⟨n - k - 1, by omega⟩
      rw [hm] at hds hlast
      have hcell := hds.cell
      have hlen : ((m + 1 : Nat) : Int) = (n : Int) - (k : Int) := by omega
      go_wp2_with fail
      refine (pop16 bd P b (m + 1) m n π wr (Nat.le_refl _) (by omega) (by omega) (by omega) hds.cell hds.free hds.heap (by omega) (fun j hj => hnum _ (hds.rng j hj)) hds.hp hds.inj).mono ?_
      rintro e w4 ⟨π', rfl, hH4, hc4, hf4, hheap4, hinj4, hsub4, hk4⟩
      clear hcell
      go_wp2_with fail
      refine (node17 _ _ _).mono ?_
      rintro e w5 ⟨rfl, rfl⟩
      go_wp2_with fail
      refine (bound18 _ _ _).mono ?_
      rintro e w5 ⟨rfl, rfl⟩
      have hnew : Below w4.heap.size w4 (((w4.alloc (.cells #[.float .f64 (bd (π 0)), .pointer none, .pointer none, .int .i64 (π 0)] 39)).alloc (.cells #[.float .f64 (bd (π 0)), .pointer none, .pointer none, .int .i64 (π 0)] 39)).alloc (.cells #[.float .f64 (bd (π 0)), .pointer none, .pointer none, .int .i64 (π 0)] 39)) := (((Below.refl _ _).alloc (Nat.le_refl _) _).alloc (by simp) _).alloc (by simp; omega) _
      have hPw4 : P < w4.heap.size := by have := hk4.size; omega
      have hHW := hH4.of_block (hnew.block b (by omega))
      have hcW := (hnew.cell (p := ⟨P, 0, none⟩) hPw4).trans hc4
      have hfW := (hnew.frozen (p := ⟨P, 0, none⟩) hPw4).trans hf4
      have hkW := hk4.trans (Kept.of_below hnew)
      clear hH4 hc4 hf4 hk4 hnew hPw4
      generalize ((w4.alloc (.cells #[.float .f64 (bd (π 0)), .pointer none, .pointer none, .int .i64 (π 0)] 39)).alloc (.cells #[.float .f64 (bd (π 0)), .pointer none, .pointer none, .int .i64 (π 0)] 39)).alloc (.cells #[.float .f64 (bd (π 0)), .pointer none, .pointer none, .int .i64 (π 0)] 39) = W at *
      obtain ⟨hsW, hflW, hdsW⟩ := hds.popped hbP (by omega) (fun x hx => (ha3 x hx).2) hHW hcW hfW hheap4 hinj4 hsub4 hkW
      have hv := hds.rng 0 (by omega)
      have hu := hds.un 0 (by omega)
      have hmax : ∀ j, j < m → fkey (bd (π' j)) ≤ fkey (bd (π 0)) := fun j hj => by
        obtain ⟨i, hi0, hi1, e⟩ := hsub4 j hj
        rw [e]
        exact root_max hds.hp i hi1
      have hl1 : hb = true → (FloatKind.f64.format.order (bd (π 0)) lb == some Ordering.gt) = false := fun h => gt_no _ _ (hnum _ hv) (hlast h).1 (by have := (hlast h).2 0 (by omega); omega)
      have hbelW : Below w'.heap.size w' (W.setCell ⟨P + 1, π 0, none⟩ (.bool true)) := (hbelr.trans ((hkW.below hbelr.size (fun j hj => by rcases hj with rfl | rfl <;> omega)))).setCell (by show w'.heap.size ≤ P + 1; omega) _
      have hszW : P + 1 < W.heap.size := by have := hkW.size; omega
      have hnv := hnum _ hv
      clear hds hlast hHW hcW hfW hkW hheap4 hinj4 hsub4
      generalize π 0 = v at *
      have hne : (FloatKind.f64.format.order (bd v) (bd v) != some Ordering.eq) = false := by rw [show FloatKind.f64.format.order (bd v) (bd v) = some .eq from hnv]; rfl
      have hc1 : W.cell? ⟨P + 1, v, none⟩ = some (.bool false) := by rw [hsW.cell hv, hu]
      have hc2 := hsW.frozen v
      rcases hflW with h | ⟨ab, ao, rfl, hfc⟩
      · omega
      have hc3 := hfc v hv
      have hab : ¬ ab = P + 1 := by have := (ha3 _ rfl).2; simp at this; omega
      have hvn : (v : Int) < (n : Int) := by omega
      clear hfc hsW hu
      cases hb
      · go_wp2_with fail
        exact ⟨⟨k + 1, π', _, true, bd v, by go_num, by omega, rfl, rfl, by rw [show n - (k + 1) = m by omega]; exact hdsW, (fun _ => ⟨hnv, by rw [show n - (k + 1) = m by omega]; exact hmax⟩), hbelW, by simp [World.setCell]; exact hszW⟩, by simp [intOf]; omega⟩
      · have hl2 := hl1 rfl
        go_wp2_with fail
        exact ⟨⟨k + 1, π', _, true, bd v, by go_num, by omega, rfl, rfl, by rw [show n - (k + 1) = m by omega]; exact hdsW, (fun _ => ⟨hnv, by rw [show n - (k + 1) = m by omega]; exact hmax⟩), hbelW, by simp [World.setCell]; exact hszW⟩, by simp [intOf]; omega⟩
    · have hz : n - k = 0 := by omega
      rw [hz] at hds hlast
      have hcell := hds.cell
      go_wp2
      go_ret
      exact ⟨rfl, hbelr⟩
end Go.Proofs.Qxb6003856a
