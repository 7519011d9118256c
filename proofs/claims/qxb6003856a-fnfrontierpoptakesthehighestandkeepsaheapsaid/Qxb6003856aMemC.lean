/-
  Seat b6003856a. ZZPop; zzBuildFrontier.
-/
import Derived.Test.Qxb6003856aMemB
import Derived.Deep.RegionWith
import Derived.Deep.Cut
namespace Go.Proofs.Qxb6003856a
open Go.ChangeShapes Go.WideShapes Go.RowKit
set_option linter.unusedVariables false
attribute [local go_sem] run_store_float

theorem pop16 (bd : Nat → Nat) (p b n m c : Nat) (π0 : Nat → Nat) (w : World) (hm : m + 1 ≤ n) (hn : n ≤ 65536) (hc1 : m + 1 ≤ c) (hc2 : c ≤ 65536)
    (hp : w.cell? ⟨p, 0, none⟩ = some (.slice (some ⟨b, 0, none⟩) (m + 1) c)) (hpf : w.frozen? ⟨p, 0, none⟩ = false)
    (hH : HeapIs w b n bd π0) (hpb : p ≠ b) (hnum : ∀ j, j < n → Num (bd (π0 j)))
    (hheap : HeapOn (fun v => fkey (bd v)) (m + 1) π0) (hinj : InjOn (m + 1) π0) :
    Calls Try.prog 16 #[.pointer (some ⟨p, 0, none⟩)] w fun e w' => PopRet (fun v => fkey (bd v)) bd w p b n m c π0 e w' := by
  have hpl := World.block_lt_of_cell? w _ hp
  have hbl := World.block_lt_of_cell? w _ (hH.c0 (j := 0) (by omega))
  go_enter Try.func16, Try.ntmps16
  go_wp2_with fail
  refine (pop24 bd p b n m c π0 _ hm hn hc1 hc2 ?_ ?_ (hH.of_block (Below.heap_alloc _ _ _ hbl)) hpb hnum hheap hinj).mono ?_
  · rw [World.cell?_of_block (w := w) (a := ⟨p, 0, none⟩) (Below.heap_alloc _ _ _ hpl)]; exact hp
  · rw [World.frozen?_of_block (w := w) (a := ⟨p, 0, none⟩) (Below.heap_alloc _ _ _ hpl)]; exact hpf
  rintro e w1 ⟨π, rfl, hH1, hp1, hpf1, hheap1, hinj1, hsub1, hk1⟩
  obtain ⟨r0, r1, r2, r3, rf⟩ := four_cells ((hk1.block w.heap.size (by simp) (by show ¬ (w.heap.size = b ∨ w.heap.size = p); omega)).trans (heap_alloc_new w _))
  have rf0 := rf 0
  have rf1 := rf 1
  have rf2 := rf 2
  have rf3 := rf 3
  have hbN : b ≠ w.heap.size := by omega
  have hpN : p ≠ w.heap.size := by omega
  have hk2 : Kept (fun k => k = b ∨ k = p) w w1 := ((Kept.refl w).alloc _).trans hk1
  clear rf hp hpf hH hnum hheap hinj hk1
  go_wp2
  refine bodyPost_ret (v := .agg #[.float .f64 (bd (π0 0)), .pointer none, .pointer none, .int .i64 (π0 0)]) (by simp [results, Try.results16, go_sem, r0, r1, r2, r3]) rfl ⟨π, rfl, ?_, ?_, ?_, hheap1, hinj1, hsub1, ?_⟩
  · refine hH1.of_block ?_
    rw [Below.heap_setCell _ _ _ _ hbN, Below.heap_setCell _ _ _ _ hbN, Below.heap_setCell _ _ _ _ hbN, Below.heap_setCell _ _ _ _ hbN]
  · rw [World.cell?_of_block (w := w1) (a := ⟨p, 0, none⟩)
      (by rw [Below.heap_setCell _ _ _ _ hpN, Below.heap_setCell _ _ _ _ hpN, Below.heap_setCell _ _ _ _ hpN, Below.heap_setCell _ _ _ _ hpN])]
    exact hp1
  · rw [World.frozen?_setCell, World.frozen?_setCell, World.frozen?_setCell, World.frozen?_setCell]
    exact hpf1
  · exact (((hk2.setCellNew (Nat.le_refl _) _).setCellNew (Nat.le_refl _) _).setCellNew (Nat.le_refl _) _).setCellNew (Nat.le_refl _) _

theorem info39 : (Try.prog.info? 39).map (fun i => (i.zero, i.size, i.bytes)) = some (some (.agg #[.float .f64 0, .pointer none, .pointer none, .int .i64 0]), 4, 32) := by kernel_rfl

/-- n places of four cells are there in block b -/
def Room (w : World) (b n : Nat) : Prop := ∀ o, o < n * 4 → (w.cell? ⟨b, o, none⟩).isSome = true

theorem Room.of_block {w w' : World} {b n : Nat} (h : Room w b n) (e : w'.heap[b]? = w.heap[b]?) : Room w' b n := fun o ho => by
  rw [World.cell?_of_block (w := w) (w' := w') (a := ⟨b, o, none⟩) e]; exact h o ho
theorem Room.setCells {w : World} {b n : Nat} (h : Room w b n) (b' o : Nat) (vs : List Value) : Room (w.setCells b' o vs) b n := fun x hx => World.isSome_setCells b' vs o w _ (h x hx)
theorem Room.some {w : World} {b n : Nat} (h : Room w b n) {o : Nat} (ho : o < n * 4) : ∃ v, w.cell? ⟨b, o, none⟩ = some v := Option.isSome_iff_exists.1 (h o ho)

theorem HeapIs.ext {w : World} {b K n : Nat} {bd π : Nat → Nat} (h : HeapIs w b K bd π) (hr : Room w b n) (hK : K < n) (v : Nat) : HeapIs (w.setCells b (K * 4) (elt (bd v) v)) b (K + 1) bd (upd π K v) := by
  refine ⟨fun j hj => ?_, fun o => by rw [World.frozen?_setCells]; exact h.free o⟩
  by_cases e : j = K
  · subst e
    rw [upd_same]
    refine World.rangeAt_setCells_same _ _ _ _ fun k hk => ⟨?_, h.free _⟩
    have hk4 : k < 4 := hk
    exact hr _ (by omega)
  · rw [upd_other _ _ _ _ e]
    refine World.rangeAt_setCells_apart (h.has j (by omega)) _ _ _ (.inr ?_)
    show j * 4 + 4 ≤ K * 4 ∨ K * 4 + 4 ≤ j * 4
    omega

theorem below_setCells {B b : Nat} {w w' : World} (h : Below B w w') (hb : B ≤ b) : ∀ (vs : List Value) (o : Nat), Below B w (w'.setCells b o vs) := by
  intro vs
  induction vs generalizing w' with
  | nil => intro o; exact h
  | cons v r ih => intro o; exact ih (h.setCell (p := ⟨b, o, none⟩) hb v) (o + 1)

theorem swap_end {w W : World} {K n : Nat} {bd π : Nat → Nat} {i p : Nat} (h1 : HeapIs W w.heap.size K bd π) (hi : i < K) (hp : p < K) (h2 : Room W w.heap.size n) (h3 : Below w.heap.size w W) (h4 : w.heap.size < W.heap.size) (o : Obj) :
    HeapIs (((W.setCells w.heap.size (i * 4) (elt (bd (π p)) (π p))).setCells w.heap.size (p * 4) (elt (bd (π i)) (π i))).alloc o) w.heap.size K bd (sw π i p) ∧
    Room (((W.setCells w.heap.size (i * 4) (elt (bd (π p)) (π p))).setCells w.heap.size (p * 4) (elt (bd (π i)) (π i))).alloc o) w.heap.size n ∧
    Below w.heap.size w (((W.setCells w.heap.size (i * 4) (elt (bd (π p)) (π p))).setCells w.heap.size (p * 4) (elt (bd (π i)) (π i))).alloc o) ∧
    w.heap.size < (((W.setCells w.heap.size (i * 4) (elt (bd (π p)) (π p))).setCells w.heap.size (p * 4) (elt (bd (π i)) (π i))).alloc o).heap.size := by
  have hs : ((W.setCells w.heap.size (i * 4) (elt (bd (π p)) (π p))).setCells w.heap.size (p * 4) (elt (bd (π i)) (π i))).heap.size = W.heap.size := by rw [size_setCells, size_setCells]
  have hblk := Below.heap_alloc ((W.setCells w.heap.size (i * 4) (elt (bd (π p)) (π p))).setCells w.heap.size (p * 4) (elt (bd (π i)) (π i))) o w.heap.size (by omega)
  exact ⟨((h1.put hi (π p)).put hp (π i)).of_block hblk, ((h2.setCells _ _ _).setCells _ _ _).of_block hblk,
    (below_setCells (below_setCells h3 (Nat.le_refl _) _ _) (Nat.le_refl _) _ _).alloc (by omega) _, by simp [size_setCells]; omega⟩

/-- the same, each store written out -/
theorem swap_chain {w W : World} {K n : Nat} {bd π : Nat → Nat} {i p : Nat} (h1 : HeapIs W w.heap.size K bd π) (hi : i < K) (hp : p < K) (h2 : Room W w.heap.size n) (h3 : Below w.heap.size w W) (h4 : w.heap.size < W.heap.size) (o : Obj) :
    HeapIs (((((((((W.setCell ⟨w.heap.size, i * 4, none⟩ (.float .f64 (bd (π p)))).setCell ⟨w.heap.size, i * 4 + 1, none⟩ (.pointer none)).setCell ⟨w.heap.size, i * 4 + 2, none⟩ (.pointer none)).setCell ⟨w.heap.size, i * 4 + 3, none⟩ (.int .i64 (π p))).setCell ⟨w.heap.size, p * 4, none⟩ (.float .f64 (bd (π i)))).setCell ⟨w.heap.size, p * 4 + 1, none⟩ (.pointer none)).setCell ⟨w.heap.size, p * 4 + 2, none⟩ (.pointer none)).setCell ⟨w.heap.size, p * 4 + 3, none⟩ (.int .i64 (π i))).alloc o) w.heap.size K bd (sw π i p) ∧ Room (((((((((W.setCell ⟨w.heap.size, i * 4, none⟩ (.float .f64 (bd (π p)))).setCell ⟨w.heap.size, i * 4 + 1, none⟩ (.pointer none)).setCell ⟨w.heap.size, i * 4 + 2, none⟩ (.pointer none)).setCell ⟨w.heap.size, i * 4 + 3, none⟩ (.int .i64 (π p))).setCell ⟨w.heap.size, p * 4, none⟩ (.float .f64 (bd (π i)))).setCell ⟨w.heap.size, p * 4 + 1, none⟩ (.pointer none)).setCell ⟨w.heap.size, p * 4 + 2, none⟩ (.pointer none)).setCell ⟨w.heap.size, p * 4 + 3, none⟩ (.int .i64 (π i))).alloc o) w.heap.size n ∧ Below w.heap.size w (((((((((W.setCell ⟨w.heap.size, i * 4, none⟩ (.float .f64 (bd (π p)))).setCell ⟨w.heap.size, i * 4 + 1, none⟩ (.pointer none)).setCell ⟨w.heap.size, i * 4 + 2, none⟩ (.pointer none)).setCell ⟨w.heap.size, i * 4 + 3, none⟩ (.int .i64 (π p))).setCell ⟨w.heap.size, p * 4, none⟩ (.float .f64 (bd (π i)))).setCell ⟨w.heap.size, p * 4 + 1, none⟩ (.pointer none)).setCell ⟨w.heap.size, p * 4 + 2, none⟩ (.pointer none)).setCell ⟨w.heap.size, p * 4 + 3, none⟩ (.int .i64 (π i))).alloc o) ∧ w.heap.size < (((((((((W.setCell ⟨w.heap.size, i * 4, none⟩ (.float .f64 (bd (π p)))).setCell ⟨w.heap.size, i * 4 + 1, none⟩ (.pointer none)).setCell ⟨w.heap.size, i * 4 + 2, none⟩ (.pointer none)).setCell ⟨w.heap.size, i * 4 + 3, none⟩ (.int .i64 (π p))).setCell ⟨w.heap.size, p * 4, none⟩ (.float .f64 (bd (π i)))).setCell ⟨w.heap.size, p * 4 + 1, none⟩ (.pointer none)).setCell ⟨w.heap.size, p * 4 + 2, none⟩ (.pointer none)).setCell ⟨w.heap.size, p * 4 + 3, none⟩ (.int .i64 (π i))).alloc o).heap.size := swap_end h1 hi hp h2 h3 h4 o

set_option maxRecDepth 100000 in
set_option maxHeartbeats 4000000 in
theorem build15 (a : Option Addr) (n c : Nat) (bd : Nat → Nat) (w : World) (h : Floats w a n bd) (hnum : ∀ i, i < n → Num (bd i)) (hn : n ≤ 65536) :
    Calls Try.prog 15 #[.slice a n c] w fun e w' => ∃ b π, e = .returned (.slice (some ⟨b, 0, none⟩) n n) ∧ w.heap.size ≤ b ∧ b < w'.heap.size ∧ HeapIs w' b n bd π ∧ HeapOn (fun v => fkey (bd v)) n π ∧ PermOn n π ∧ Below w.heap.size w w' := by
  obtain ⟨i0, hi, hz0, hz1, hz2⟩ := info_parts info39
  go_enter Try.func15, Try.ntmps15
  go_wp2_with (at_make; refine wpList_make_full _ rfl _ _ 33 rfl w.heap.size 39 i0 (.agg #[.float .f64 0, .pointer none, .pointer none, .int .i64 0]) 4 Try.underlying33 hi hz0 hz1 .i64 .i64 _ _ n rfl rfl rfl rfl (by rw [hz2]; omega) (by unfold maxLen; omega) (Nat.le_refl _) ?_; intro w0 hown0 hgrow0)
  have hbel0 : Below w.heap.size w w0 := (Below.refl _ _).grown hgrow0 (Nat.le_refl _) (fun k hk => by cases hk)
  have hlt0 : w.heap.size < w0.heap.size := (hown0.lt _ rfl).2
  have hroom0 : Room w0 w.heap.size n := fun o ho => by
    rw [hown0.cellAt o ho, List.getElem?_eq_getElem (by rw [hown0.1]; exact ho)]; rfl
  have hheap0 : HeapIs w0 w.heap.size 0 bd id := ⟨fun j hj => by omega, fun o => hown0.frozenAt o⟩
  clear hown0 hgrow0 hi hz0 hz1 hz2
  go_loopw [4] (fun i wr => ∃ (k : Nat) (π : Nat → Nat), i = .int .i64 k ∧ k ≤ n ∧ HeapIs wr w.heap.size k bd π ∧ Room wr w.heap.size n ∧ HeapOn (fun v => fkey (bd v)) k π ∧ PermOn k π ∧ Below w.heap.size w wr ∧ w.heap.size < wr.heap.size) (fun i _ => n - (intOf i).toNat)
  case atStart => exact ⟨0, id, rfl, Nat.zero_le _, hheap0, hroom0, (fun j h0 h1 => by omega), ⟨fun i j hi => by omega, fun j hj => by omega, fun v hv => by omega⟩, hbel0, hlt0⟩
  case round =>
    clear hbel0 hlt0 hroom0 hheap0
    obtain ⟨k, π, rfl, hk, hH, hroom, hheap, hperm, hbel, hlt⟩ := hrel
    by_cases hkn : k < n
    · rcases h with h | ⟨b, off, rfl, hc⟩
      · omega
      have hck := hc k hkn
      have hbb := World.block_lt_of_cell? w _ hck
      have hck2 : wr.cell? ⟨b, off + k, none⟩ = some (.float .f64 (bd k)) := by rw [hbel.cell hbb]; exact hck
      clear hc hck
      go_wp2_with fail
      refine (reach23 _ _ _).mono ?_
      rintro e w1 ⟨rfl, hb1⟩
      have hroom1 := hroom.of_block (hb1.block _ hlt)
      have hH1 := hH.of_block (hb1.block _ hlt)
      have hbel1 := hbel.trans (hb1.mono hbel.size)
      have hlt1 : w.heap.size < w1.heap.size := by have := hb1.size; omega
      clear hroom hH hbel hck2 hb1
      have hroom2 := hroom1.setCells w.heap.size (k * 4) (elt (bd k) k)
      have hH2 := hH1.ext hroom1 hkn k
      have hbel2 : Below w.heap.size w (w1.setCells w.heap.size (k * 4) (elt (bd k) k)) := (((hbel1.setCell (p := ⟨w.heap.size, k * 4, none⟩) (Nat.le_refl _) _).setCell (p := ⟨w.heap.size, k * 4 + 1, none⟩) (Nat.le_refl _) _).setCell (p := ⟨w.heap.size, k * 4 + 2, none⟩) (Nat.le_refl _) _).setCell (p := ⟨w.heap.size, k * 4 + 3, none⟩) (Nat.le_refl _) _
      have hlt2 : w.heap.size < (w1.setCells w.heap.size (k * 4) (elt (bd k) k)).heap.size := by rw [size_setCells]; exact hlt1
      have hsu := su_start hheap k
      have hperm2 := perm_ext hperm
      obtain ⟨x0, e0⟩ := hroom1.some (o := k * 4) (by omega)
      obtain ⟨x1, e1⟩ := hroom1.some (o := k * 4 + 1) (by omega)
      obtain ⟨x2, e2⟩ := hroom1.some (o := k * 4 + 2) (by omega)
      obtain ⟨x3, e3⟩ := hroom1.some (o := k * 4 + 3) (by omega)
      have hfr := hH1.free
      clear hH1 hroom1 hbel1 hlt1 hheap hperm
      go_wp2_with fail
      go_loopw [5] (fun iv wi => ∃ (i : Nat) (π : Nat → Nat), iv = .int .i64 i ∧ SU (fun v => fkey (bd v)) π (k + 1) i ∧ PermOn (k + 1) π ∧ HeapIs wi w.heap.size (k + 1) bd π ∧ Room wi w.heap.size n ∧ Below w.heap.size w wi ∧ w.heap.size < wi.heap.size) (fun iv _ => (intOf iv).toNat)
      case atStart => exact ⟨k, upd π k k, rfl, hsu, hperm2, hH2, hroom2, hbel2, hlt2⟩
      case round =>
        clear hsu hperm2 hH2 hroom2 hbel2 hlt2 e0 e1 e2 e3 hfr
        obtain ⟨i, π, rfl, hsu, hperm, hH, hroom, hbel, hlt⟩ := hrel
        by_cases hi0 : i = 0
        · subst hi0
          go_wp2
          exact ⟨⟨k + 1, π, by go_num, by omega, hH, hroom, su_done0 hsu, hperm, hbel, hlt⟩, by simp [intOf]; omega⟩
        · obtain ⟨p, hp⟩ : ∃ p, par i = p := ⟨_, rfl⟩
          have hpi : p < i := hp ▸ par_lt (by omega)
          have hilt := hsu.lt
          have hpe : ((i : Int) - 1).tdiv 2 = (p : Int) := by
            rw [← hp]; unfold par
            rw [Int.tdiv_eq_ediv_of_nonneg (by omega)]
            omega
          have a0 := hH.c0 (j := i) (by omega)
          have a1 := hH.c1 (j := i) (by omega)
          have a2 := hH.c2 (j := i) (by omega)
          have a3 := hH.c3 (j := i) (by omega)
          have b0 := hH.c0 (j := p) (by omega)
          have b1 := hH.c1 (j := p) (by omega)
          have b2 := hH.c2 (j := p) (by omega)
          have b3 := hH.c3 (j := p) (by omega)
          have hii : (0 : Int) < (i : Int) := by omega
          have hb1 : (i : Int) < (n : Int) := by omega
          have hb2 : (p : Int) < (n : Int) := by omega
          have hnew : Below wr.heap.size wr ((wr.alloc (.cells #[.float .f64 (bd (π i)), .pointer none, .pointer none, .int .i64 (π i)] 39)).alloc (.cells #[.float .f64 (bd (π p)), .pointer none, .pointer none, .int .i64 (π p)] 39)).drew := (((Below.refl _ _).alloc (Nat.le_refl _) _).alloc (by simp) _).drew
          have hX1 := hH.of_block (hnew.block _ hlt)
          have hX2 := hroom.of_block (hnew.block _ hlt)
          have hX3 := hbel.trans (hnew.mono hbel.size)
          have hX4 : w.heap.size < (((wr.alloc (.cells #[.float .f64 (bd (π i)), .pointer none, .pointer none, .int .i64 (π i)] 39)).alloc (.cells #[.float .f64 (bd (π p)), .pointer none, .pointer none, .int .i64 (π p)] 39)).drew).heap.size := by have := hnew.size; omega
          clear hnew
          by_cases hgt : fkey (bd (π p)) < fkey (bd (π i))
          · have hg := gt_yes _ _ (hnum _ (by have := hperm.rng i (by omega); omega)) (hnum _ (by have := hperm.rng p (by omega); omega)) hgt
            have hsu2 := su_step hsu (by omega) (hp ▸ hgt)
            rw [hp] at hsu2
            have hperm2 := perm_sw hperm (i := i) (j := p) (by omega) (by omega)
            clear hsu hperm hp
            go_wp2_with fail
            go_region_with (go_at_call 18; refine (bound18 _ _ _).mono ?_; rintro e w' ⟨rfl, rfl⟩)
            all_goals
              generalize ((wr.alloc (.cells #[.float .f64 (bd (π i)), .pointer none, .pointer none, .int .i64 (π i)] 39)).alloc (.cells #[.float .f64 (bd (π p)), .pointer none, .pointer none, .int .i64 (π p)] 39)).drew = W at hX1 hX2 hX3 hX4 ⊢
              clear a0 a1 a2 a3 b0 b1 b2 b3 hH hroom hbel hlt
              have a0 := hX1.c0 (j := i) (by omega)
              have a1 := hX1.c1 (j := i) (by omega)
              have a2 := hX1.c2 (j := i) (by omega)
              have a3 := hX1.c3 (j := i) (by omega)
              have b0 := hX1.c0 (j := p) (by omega)
              have b1 := hX1.c1 (j := p) (by omega)
              have b2 := hX1.c2 (j := p) (by omega)
              have b3 := hX1.c3 (j := p) (by omega)
              have hfr := hX1.free
              have Y : Hid _ := swap_chain (i := i) (p := p) hX1 (by omega) (by omega) hX2 hX3 hX4 (.cells #[.float .f64 (bd (π i)), .pointer none, .pointer none, .int .i64 (π i)] 39)
              clear hpe hX1 hX2 hX3
              go_wp2_with fail
              refine ⟨⟨p, sw π i p, rfl, hsu2, hperm2, ?_⟩, by simp [intOf]; omega⟩
              exact Y.out
          · have hg := gt_no _ _ (hnum _ (by have := hperm.rng i (by omega); omega)) (hnum _ (by have := hperm.rng p (by omega); omega)) hgt
            have hdone := su_done hsu (hp ▸ hgt)
            clear hsu hp
            go_wp2_with fail
            go_region_with (go_at_call 18; refine (bound18 _ _ _).mono ?_; rintro e w' ⟨rfl, rfl⟩)
            all_goals
              generalize ((wr.alloc (.cells #[.float .f64 (bd (π i)), .pointer none, .pointer none, .int .i64 (π i)] 39)).alloc (.cells #[.float .f64 (bd (π p)), .pointer none, .pointer none, .int .i64 (π p)] 39)).drew = W at hX1 hX2 hX3 hX4 ⊢
              clear a0 a1 a2 a3 b0 b1 b2 b3 hH hroom hbel hlt
              go_wp2
              exact ⟨⟨k + 1, π, by go_num, by omega, hX1, hX2, hdone, hperm, hX3, hX4⟩, by simp [intOf]; omega⟩
    · obtain rfl : k = n := by omega
      clear h
      go_wp2
      go_ret
      exact ⟨_, π, rfl, Nat.le_refl _, hlt, hH, hheap, hperm, hbel⟩
end Go.Proofs.Qxb6003856a
