/-
  Seat b6003856a. How the heap lies in memory; pop.
-/
import Derived.Test.Qxb6003856aMemA
namespace Go.Proofs.Qxb6003856a
open Go.ChangeShapes Go.WideShapes Go.RowKit
set_option linter.unusedVariables false
attribute [local go_sem] run_store_float

/-- the four cells of a node -/
def elt (x v : Nat) : List Value := [.float .f64 x, .pointer none, .pointer none, .int .i64 v]

/-- block b holds n nodes, π j at place j -/
structure HeapIs (w : World) (b n : Nat) (bd π : Nat → Nat) : Prop where
  has : ∀ j, j < n → w.rangeAt b (j * 4) (elt (bd (π j)) (π j))
  free : ∀ o, w.frozen? ⟨b, o, none⟩ = false

namespace HeapIs
variable {w w' : World} {b n : Nat} {bd π : Nat → Nat}
theorem c0 (h : HeapIs w b n bd π) {j : Nat} (hj : j < n) : w.cell? ⟨b, j * 4, none⟩ = some (.float .f64 (bd (π j))) := h.has j hj 0 _ rfl
theorem c1 (h : HeapIs w b n bd π) {j : Nat} (hj : j < n) : w.cell? ⟨b, j * 4 + 1, none⟩ = some (.pointer none) := h.has j hj 1 _ rfl
theorem c2 (h : HeapIs w b n bd π) {j : Nat} (hj : j < n) : w.cell? ⟨b, j * 4 + 2, none⟩ = some (.pointer none) := h.has j hj 2 _ rfl
theorem c3 (h : HeapIs w b n bd π) {j : Nat} (hj : j < n) : w.cell? ⟨b, j * 4 + 3, none⟩ = some (.int .i64 (π j)) := h.has j hj 3 _ rfl
theorem of_block (h : HeapIs w b n bd π) (e : w'.heap[b]? = w.heap[b]?) : HeapIs w' b n bd π :=
  ⟨fun j hj k v hv => by rw [World.cell?_of_block (w := w) (w' := w') (a := ⟨b, j * 4 + k, none⟩) e]; exact h.has j hj k v hv, fun o => by rw [World.frozen?_of_block (w := w) (w' := w') (a := ⟨b, o, none⟩) e]; exact h.free o⟩
theorem put (h : HeapIs w b n bd π) {i : Nat} (hi : i < n) (v : Nat) : HeapIs (w.setCells b (i * 4) (elt (bd v) v)) b n bd (upd π i v) := by
  refine ⟨fun j hj => ?_, fun o => by rw [World.frozen?_setCells]; exact h.free o⟩
  by_cases e : j = i
  · subst e
    rw [upd_same]
    refine World.rangeAt_setCells_same _ _ _ _ fun k hk => ⟨?_, h.free _⟩
    have hk4 : k < 4 := hk
    have : k = 0 ∨ k = 1 ∨ k = 2 ∨ k = 3 := by omega
    rcases this with rfl | rfl | rfl | rfl
    · rw [h.has j hj 0 _ rfl]; rfl
    · rw [h.has j hj 1 _ rfl]; rfl
    · rw [h.has j hj 2 _ rfl]; rfl
    · rw [h.has j hj 3 _ rfl]; rfl
  · rw [upd_other _ _ _ _ e]
    refine World.rangeAt_setCells_apart (h.has j hj) _ _ _ (.inr ?_)
    show j * 4 + 4 ≤ i * 4 ∨ i * 4 + 4 ≤ j * 4
    omega
end HeapIs

/-- nothing has turned but the blocks in S, and new ones -/
structure Kept (S : Nat → Prop) (w w' : World) : Prop where
  os : w'.os = w.os
  tape : w'.tape = w.tape
  output : w'.output = w.output
  size : w.heap.size ≤ w'.heap.size
  block : ∀ k, k < w.heap.size → ¬ S k → w'.heap[k]? = w.heap[k]?

namespace Kept
variable {S : Nat → Prop} {w w' w'' : World}
theorem refl (w : World) : Kept S w w := ⟨rfl, rfl, rfl, Nat.le_refl _, fun _ _ _ => rfl⟩
theorem trans (h : Kept S w w') (k : Kept S w' w'') : Kept S w w'' :=
  ⟨k.os.trans h.os, k.tape.trans h.tape, k.output.trans h.output, Nat.le_trans h.size k.size, fun i hi hs => (k.block i (Nat.lt_of_lt_of_le hi h.size) hs).trans (h.block i hi hs)⟩
theorem of_below (h : Below w.heap.size w w') : Kept S w w' := ⟨h.os, h.tape, h.output, h.size, fun k hk _ => h.block k hk⟩
theorem alloc (h : Kept S w w') (o : Obj) : Kept S w (w'.alloc o) := h.trans (of_below ((Below.refl _ _).alloc (Nat.le_refl _) _))
theorem drewN (h : Kept S w w') (n : Nat) : Kept S w (w'.drewN n) := h.trans (of_below (below_drewN (Below.refl _ _) _))
theorem setCell (h : Kept S w w') {a : Addr} (ha : S a.block) (v : Value) : Kept S w (w'.setCell a v) :=
  h.trans ⟨rfl, rfl, rfl, by simp [World.setCell], fun k _ hs => Below.heap_setCell _ _ _ _ (fun e => hs (e ▸ ha))⟩
/-- a store into a block that is new -/
theorem setCellNew (h : Kept S w w') {a : Addr} (ha : w.heap.size ≤ a.block) (v : Value) : Kept S w (w'.setCell a v) :=
  ⟨h.os, h.tape, h.output, by have := h.size; simp [World.setCell]; exact this, fun k hk hs => (Below.heap_setCell _ _ _ _ (fun e => by omega)).trans (h.block k hk hs)⟩
theorem setCells (h : Kept S w w') {b : Nat} (hb : S b) : ∀ (vs : List Value) (o : Nat), Kept S w (w'.setCells b o vs) := by
  intro vs
  induction vs generalizing w' with
  | nil => intro o; exact h
  | cons v r ih => intro o; exact ih (h.setCell (a := ⟨b, o, none⟩) hb v) (o + 1)
/-- below B, where S lies from B on -/
theorem below (h : Kept S w w') {B : Nat} (hB : B ≤ w.heap.size) (hS : ∀ k, S k → B ≤ k) : Below B w w' :=
  ⟨h.os, h.tape, h.output, h.size, fun k hk => h.block k (by omega) (fun hs => by have := hS k hs; omega)⟩
theorem cell (h : Kept S w w') {a : Addr} (ha : a.block < w.heap.size) (hs : ¬ S a.block) : w'.cell? a = w.cell? a := World.cell?_of_block (w := w) (h.block _ ha hs)
theorem frozen (h : Kept S w w') {a : Addr} (ha : a.block < w.heap.size) (hs : ¬ S a.block) : w'.frozen? a = w.frozen? a := World.frozen?_of_block (w := w) (h.block _ ha hs)
theorem mono {T : Nat → Prop} (h : Kept S w w') (hT : ∀ k, S k → T k) : Kept T w w' := ⟨h.os, h.tape, h.output, h.size, fun k hk hs => h.block k hk (fun x => hs (hT k x))⟩
end Kept

/-- what pop leaves -/
def PopRet (key : Nat → Int) (bd : Nat → Nat) (w : World) (p b n m c : Nat) (π0 : Nat → Nat) (e : Ending) (w' : World) : Prop :=
  ∃ π, e = .returned (.agg #[.float .f64 (bd (π0 0)), .pointer none, .pointer none, .int .i64 (π0 0)]) ∧ HeapIs w' b n bd π ∧ w'.cell? ⟨p, 0, none⟩ = some (.slice (some ⟨b, 0, none⟩) m c) ∧ w'.frozen? ⟨p, 0, none⟩ = false ∧
    HeapOn key m π ∧ InjOn m π ∧ SubOf m π π0 (m + 1) ∧ Kept (fun k => k = b ∨ k = p) w w'

theorem idx0 (x y : Value) (w : World) : (Instr.index 52 (.agg #[x, y]) (.int .i64 0)).run Try.prog w = .ok x w := by kernel_rfl
theorem idx1 (x y : Value) (w : World) : (Instr.index 52 (.agg #[x, y]) (.int .i64 1)).run Try.prog w = .ok y w := by kernel_rfl

theorem gt_yes (x y : Nat) (hx : Num x) (hy : Num y) (h : fkey y < fkey x) : (FloatKind.f64.format.order x y == some Ordering.gt) = true := by
  have := gt_fkey x y hx hy
  rw [decide_eq_true h] at this
  exact this
theorem gt_no (x y : Nat) (hx : Num x) (hy : Num y) (h : ¬ fkey y < fkey x) : (FloatKind.f64.format.order x y == some Ordering.gt) = false := by
  have := gt_fkey x y hx hy
  rw [decide_eq_false h] at this
  exact this

/-- the world in which pop's loop begins -/
def popStart (w : World) (b : Nat) (bd : Nat → Nat) (t u : Nat) : World :=
  ((w.setCells b 0 (elt (bd u) u)).alloc (.cells #[.float .f64 0, .pointer none, .pointer none, .int .i64 0] 39)).alloc (.cells #[.float .f64 (bd t), .pointer none, .pointer none, .int .i64 t] 39)

theorem size_setCells (b : Nat) : ∀ (vs : List Value) (o : Nat) (w : World), (w.setCells b o vs).heap.size = w.heap.size
  | [], _, _ => rfl
  | v :: r, o, w => by rw [World.setCells, size_setCells b r (o + 1)]; simp [World.setCell]
theorem blk_setCells (b : Nat) (k : Nat) (hk : k ≠ b) : ∀ (vs : List Value) (o : Nat) (w : World), (w.setCells b o vs).heap[k]? = w.heap[k]?
  | [], _, _ => rfl
  | v :: r, o, w => by rw [World.setCells, blk_setCells b k hk r (o + 1)]; exact Below.heap_setCell _ _ _ _ hk

section
variable (w : World) (b : Nat) (bd : Nat → Nat) (t u : Nat)
theorem popStart_size : (popStart w b bd t u).heap.size = w.heap.size + 2 := by
  unfold popStart
  simp [size_setCells]
theorem popStart_old {k : Nat} (hk : k < w.heap.size) : (popStart w b bd t u).heap[k]? = (w.setCells b 0 (elt (bd u) u)).heap[k]? := by
  unfold popStart
  rw [Below.heap_alloc _ _ _ (by simp [size_setCells]; omega), Below.heap_alloc _ _ _ (by rw [size_setCells]; exact hk)]
theorem popStart_one : (popStart w b bd t u).heap[w.heap.size]? = some (.cells #[.float .f64 0, .pointer none, .pointer none, .int .i64 0] 39) := by
  unfold popStart
  rw [Below.heap_alloc _ _ _ (by simp [size_setCells])]
  have := heap_alloc_new (w.setCells b 0 (elt (bd u) u)) (.cells #[.float .f64 0, .pointer none, .pointer none, .int .i64 0] 39)
  rw [size_setCells] at this
  exact this
theorem popStart_two : (popStart w b bd t u).heap[w.heap.size + 1]? = some (.cells #[.float .f64 (bd t), .pointer none, .pointer none, .int .i64 t] 39) := by
  unfold popStart
  have := heap_alloc_new ((w.setCells b 0 (elt (bd u) u)).alloc (.cells #[.float .f64 0, .pointer none, .pointer none, .int .i64 0] 39)) (.cells #[.float .f64 (bd t), .pointer none, .pointer none, .int .i64 t] 39)
  rw [show ((w.setCells b 0 (elt (bd u) u)).alloc (.cells #[.float .f64 0, .pointer none, .pointer none, .int .i64 0] 39)).heap.size = w.heap.size + 1 by simp [size_setCells]] at this
  exact this
end

/-- what a block of four cells gives -/
theorem four_cells {w : World} {g : Nat} {t : TypeId} {a b c d : Value} (h : w.heap[g]? = some (.cells #[a, b, c, d] t)) :
    w.cell? ⟨g, 0, none⟩ = some a ∧ w.cell? ⟨g, 1, none⟩ = some b ∧ w.cell? ⟨g, 2, none⟩ = some c ∧ w.cell? ⟨g, 3, none⟩ = some d ∧ ∀ o, w.frozen? ⟨g, o, none⟩ = false := by
  refine ⟨?_, ?_, ?_, ?_, fun o => ?_⟩ <;> simp [World.cell?, World.frozen?, h]

set_option maxRecDepth 100000 in
set_option maxHeartbeats 2000000 in
theorem pop24 (bd : Nat → Nat) (p b n m c : Nat) (π0 : Nat → Nat) (w : World) (hm : m + 1 ≤ n) (hn : n ≤ 65536) (hc1 : m + 1 ≤ c) (hc2 : c ≤ 65536)
    (hp : w.cell? ⟨p, 0, none⟩ = some (.slice (some ⟨b, 0, none⟩) (m + 1) c)) (hpf : w.frozen? ⟨p, 0, none⟩ = false)
    (hH : HeapIs w b n bd π0) (hpb : p ≠ b) (hnum : ∀ j, j < n → Num (bd (π0 j)))
    (hheap : HeapOn (fun v => fkey (bd v)) (m + 1) π0) (hinj : InjOn (m + 1) π0) :
    Calls Try.prog 24 #[.pointer (some ⟨p, 0, none⟩)] w fun e w' => PopRet (fun v => fkey (bd v)) bd w p b n m c π0 e w' := by
  have hpl := World.block_lt_of_cell? w _ hp
  have hbl := World.block_lt_of_cell? w _ (hH.c0 (j := 0) (by omega))
  have q1 : (0 : Int) < ((m + 1 : Nat) : Int) := by omega
  have h0 := hH.c0 (j := 0) (by omega)
  have h1 := hH.c1 (j := 0) (by omega)
  have h2 := hH.c2 (j := 0) (by omega)
  have h3 := hH.c3 (j := 0) (by omega)
  have k0 := hH.c0 (j := m) (by omega)
  have k1 := hH.c1 (j := m) (by omega)
  have k2 := hH.c2 (j := m) (by omega)
  have k3 := hH.c3 (j := m) (by omega)
  have hf0 := hH.free 0
  have hf1 := hH.free 1
  have hf2 := hH.free 2
  have hf3 := hH.free 3
  simp only [Nat.zero_mul, Nat.zero_add] at h0 h1 h2 h3
  have hK0 : Kept (fun k => k = b ∨ k = p) w (popStart w b bd (π0 0) (π0 m)) := (((Kept.refl w).setCells (.inl rfl) _ _).alloc _).alloc _
  have hH0 : HeapIs (popStart w b bd (π0 0) (π0 m)) b n bd (upd π0 0 (π0 m)) := by
    refine (hH.put (i := 0) (by omega) (π0 m)).of_block ?_
    rw [Nat.zero_mul]
    exact popStart_old w b bd _ _ hbl
  have hnum0 : ∀ j, j < n → Num (bd (upd π0 0 (π0 m) j)) := by
    intro j hj
    by_cases e : j = 0
    · subst e; rw [upd_same]; exact hnum m (by omega)
    · rw [upd_other _ _ _ _ e]; exact hnum j hj
  have hP1 : (popStart w b bd (π0 0) (π0 m)).cell? ⟨p, 0, none⟩ = some (.slice (some ⟨b, 0, none⟩) (m + 1) c) := by
    rw [World.cell?_of_block (w := w) (a := ⟨p, 0, none⟩) ((popStart_old w b bd _ _ hpl).trans (blk_setCells b p hpb _ _ _))]; exact hp
  have hP2 : (popStart w b bd (π0 0) (π0 m)).frozen? ⟨p, 0, none⟩ = false := by
    rw [World.frozen?_of_block (w := w) (a := ⟨p, 0, none⟩) ((popStart_old w b bd _ _ hpl).trans (blk_setCells b p hpb _ _ _))]; exact hpf
  have hS := popStart_size w b bd (π0 0) (π0 m)
  have hR1 := popStart_one w b bd (π0 0) (π0 m)
  have hR2 := popStart_two w b bd (π0 0) (π0 m)
  go_enter Try.func24, Try.ntmps24
  go_wp2
  go_loopw [5] (fun i wr => ∃ (k : Nat) (π : Nat → Nat), i = .int .i64 k ∧ (k < m ∨ k = 0) ∧ HeapIs wr b n bd π ∧ (∀ j, j < n → Num (bd (π j))) ∧ SD (fun v => fkey (bd v)) π m k ∧ InjOn m π ∧ SubOf m π π0 (m + 1) ∧ Kept (fun k => k = b) (popStart w b bd (π0 0) (π0 m)) wr) (fun i _ => m - (intOf i).toNat)
  case atStart => exact ⟨0, upd π0 0 (π0 m), rfl, .inr rfl, hH0, hnum0, sd_start hheap _, inj_start hinj, sub_start _ _, Kept.refl _⟩
  case round =>
    clear h0 h1 h2 h3 k0 k1 k2 k3 hf0 hf1 hf2 hf3 hH hnum hheap hinj hH0 hp hpf hnum0
    obtain ⟨k, π, rfl, hk, hH, hnum, hsd, hinj, hsub, hkept⟩ := hrel
    have hp' : wr.cell? ⟨p, 0, none⟩ = some (.slice (some ⟨b, 0, none⟩) (m + 1) c) := by rw [hkept.cell (a := ⟨p, 0, none⟩) (by rw [hS]; show p < _; omega) hpb]; exact hP1
    have hpf' : wr.frozen? ⟨p, 0, none⟩ = false := by rw [hkept.frozen (a := ⟨p, 0, none⟩) (by rw [hS]; show p < _; omega) hpb]; exact hP2
    obtain ⟨r0, r1, r2, r3, rf⟩ := four_cells ((hkept.block w.heap.size (by omega) (by show ¬ w.heap.size = b; omega)).trans hR1)
    obtain ⟨t0, t1, t2, t3, tf⟩ := four_cells ((hkept.block (w.heap.size + 1) (by omega) (by show ¬ w.heap.size + 1 = b; omega)).trans hR2)
    have rf0 := rf 0
    have rf1 := rf 1
    have rf2 := rf 2
    have rf3 := rf 3
    have hsz : wr.heap.size = wr.heap.size := rfl
    clear hP1 hP2 hR1 hR2 rf tf hsz
    have hbl' : b < wr.heap.size := by have := hkept.size; have := hK0.size; omega
    go_wp2_with fail
    obtain ⟨wo, hwo⟩ : ∃ wo : World, wo = wr := ⟨_, rfl⟩
    subst hwo
    go_loopw [6, 36] (fun nx ix wi => ∃ (q c0 d : Nat), q ≤ 2 ∧ ix = .int .i64 q ∧ nx = .int .i64 c0 ∧ BestTo (fun v => fkey (bd v)) π m k q c0 ∧ wi = wo.drewN d) (fun _ ix _ => 2 - (intOf ix).toNat)
    case atStart => exact ⟨0, k, 0, by omega, rfl, rfl, bestTo_start _ _ _ _, rfl⟩
    case round =>
      obtain ⟨q, c0, d, hq, rfl, rfl, hbest, rfl⟩ := hrel
      by_cases hq2 : q = 2
      · subst hq2
        have hbest' := bestTo_end hbest
        clear hbest
        by_cases hck : c0 = k
        · subst hck
          go_wp2
          have hb0 : b ≠ p := fun e => hpb e.symm
          have hb1 : b ≠ w.heap.size := by omega
          have hp1 : p ≠ w.heap.size := by omega
          refine bodyPost_ret (v := .agg #[.float .f64 (bd (π0 0)), .pointer none, .pointer none, .int .i64 (π0 0)]) (by simp [results, Try.results24, go_sem, r0, r1, r2, r3]) rfl ⟨π, rfl, ?_, ?_, ?_, sd_done hsd hbest', hinj, hsub, ?_⟩
          · refine hH.of_block ?_
            rw [Below.heap_setCell _ _ _ _ hb1, Below.heap_setCell _ _ _ _ hb1, Below.heap_setCell _ _ _ _ hb1, Below.heap_setCell _ _ _ _ hb1, Below.heap_setCell _ _ _ _ hb0]
            rfl
          · rw [World.cell?_of_block (w := (wo.drewN d).setCell { block := p, off := 0 } (Value.slice (some { block := b, off := 0 }) m c)) (a := ⟨p, 0, none⟩)
              (by rw [Below.heap_setCell _ _ _ _ hp1, Below.heap_setCell _ _ _ _ hp1, Below.heap_setCell _ _ _ _ hp1, Below.heap_setCell _ _ _ _ hp1])]
            exact World.cell?_setCell_same _ _ _ hp'
          · rw [World.frozen?_setCell, World.frozen?_setCell, World.frozen?_setCell, World.frozen?_setCell, World.frozen?_setCell]
            exact hpf'
          · have hk1 : Kept (fun k => k = b ∨ k = p) w wo := hK0.trans (hkept.mono (fun k hk => .inl hk))
            exact (((((hk1.drewN d).setCell (a := ⟨p, 0, none⟩) (.inr rfl) _).setCellNew (Nat.le_refl _) _).setCellNew (Nat.le_refl _) _).setCellNew (Nat.le_refl _) _).setCellNew (Nat.le_refl _) _
        · have hcm : c0 < m := by rcases hbest'.here with h | h <;> omega
          have hkn : k < n := by omega
          have hcn : c0 < n := by omega
          have a0 := hH.c0 hkn
          have a1 := hH.c1 hkn
          have a2 := hH.c2 hkn
          have a3 := hH.c3 hkn
          have b0 := hH.c0 hcn
          have b1 := hH.c1 hcn
          have b2 := hH.c2 hcn
          have b3 := hH.c3 hcn
          have hb1 : (k : Int) < (m : Int) := by omega
          have hb2 : (c0 : Int) < (m : Int) := by omega
          have hne : ((c0 : Int) == (k : Int)) = false := by simp; omega
          have hfr := hH.free
          go_wp2
          go_region
          have hH2 := (HeapIs.put (HeapIs.put (hH.of_block (w' := wo.drewN (d + 1)) rfl) hkn (π c0)) hcn (π k))
          have hnum2 : ∀ j, j < n → Num (bd (sw π k c0 j)) := fun j hj => by rw [sw_swp]; exact hnum _ (swp_lt hkn hcn hj)
          have hkept2 := ((hkept.drewN (d + 1)).setCells (b := b) rfl (elt (bd (π c0)) (π c0)) (k * 4)).setCells (b := b) rfl (elt (bd (π k)) (π k)) (c0 * 4)
          have hkm : k < m := by rcases hbest'.here with h | h <;> omega
          have hsd2 := sd_step hsd hbest' hck
          have hinj2 := inj_sw hinj hkm hcm
          have hsub2 := sub_sw hsub hkm hcm
          have hgrow : k < c0 := by rcases hbest'.here with h | h <;> omega
          clear hH hnum hkept hsd hinj hsub hbest' a0 a1 a2 a3 b0 b1 b2 b3 hfr hp' hpf' r0 r1 r2 r3 t0 t1 t2 t3 rf0 rf1 rf2 rf3
          go_wp2
          exact ⟨⟨c0, sw π k c0, rfl, .inl hcm, hH2, hnum2, hsd2, hinj2, hsub2, hkept2⟩, by simp [intOf]; omega⟩
      · have hq01 : q = 0 ∨ q = 1 := by omega
        have hcn : c0 < n := by rcases hbest.here with h | h <;> omega
        rcases hq01 with rfl | rfl
        · have hi0 := idx0
          have hcc := hH.c0 hcn
          by_cases hj : 2 * k + 1 < m
          · have hcj := hH.c0 (j := 2 * k + 1) (by omega)
            have hb1 : 2 * (k : Int) + 1 < (m : Int) := by omega
            have hb2 : (c0 : Int) < (m : Int) := by rcases hbest.here with h | h <;> omega
            by_cases hgt : fkey (bd (π c0)) < fkey (bd (π (2 * k + 1)))
            · have hg := gt_yes _ _ (hnum (2 * k + 1) (by omega)) (hnum c0 hcn) hgt
              have HB : Hid (BestTo (fun v => fkey (bd v)) π m k (0 + 1) (2 * k + 1 + 0)) := bestTo_take hbest (by omega) hj hgt
              clear hbest hgt hH hnum hsd hinj hsub
              go_wp2
              go_quiet (fail)
              go_wp2
              exact ⟨⟨1, 2 * k + 1, _, by omega, rfl, by go_num, HB.out, rfl⟩, by simp [intOf]⟩
            · have hg := gt_no _ _ (hnum (2 * k + 1) (by omega)) (hnum c0 hcn) hgt
              have HB : Hid (BestTo (fun v => fkey (bd v)) π m k (0 + 1) c0) := bestTo_keep hbest (by omega) (fun h => hgt h.2)
              clear hbest hgt hH hnum hsd hinj hsub
              go_wp2
              go_quiet (fail)
              go_wp2
              exact ⟨⟨1, c0, _, by omega, rfl, rfl, HB.out, rfl⟩, by simp [intOf]⟩
          · have hd : decide (2 * (k : Int) + 1 < (m : Int)) = false := decide_eq_false (by omega)
            have HB : Hid (BestTo (fun v => fkey (bd v)) π m k (0 + 1) c0) := bestTo_keep hbest (by omega) (fun h => hj h.1)
            clear hbest hH hnum hsd hinj hsub
            go_wp2
            go_quiet (fail)
            go_wp2
            exact ⟨⟨1, c0, _, by omega, rfl, rfl, HB.out, rfl⟩, by simp [intOf]⟩
        · have hi0 := idx1
          have hcc := hH.c0 hcn
          by_cases hj : 2 * k + 2 < m
          · have hcj := hH.c0 (j := 2 * k + 2) (by omega)
            have hb1 : 2 * (k : Int) + 2 < (m : Int) := by omega
            have hb2 : (c0 : Int) < (m : Int) := by rcases hbest.here with h | h <;> omega
            by_cases hgt : fkey (bd (π c0)) < fkey (bd (π (2 * k + 2)))
            · have hg := gt_yes _ _ (hnum (2 * k + 2) (by omega)) (hnum c0 hcn) hgt
              have HB : Hid (BestTo (fun v => fkey (bd v)) π m k (1 + 1) (2 * k + 1 + 1)) := bestTo_take hbest (by omega) hj hgt
              clear hbest hgt hH hnum hsd hinj hsub
              go_wp2
              go_quiet (fail)
              go_wp2
              exact ⟨⟨2, 2 * k + 2, _, by omega, rfl, by go_num, HB.out, rfl⟩, by simp [intOf]⟩
            · have hg := gt_no _ _ (hnum (2 * k + 2) (by omega)) (hnum c0 hcn) hgt
              have HB : Hid (BestTo (fun v => fkey (bd v)) π m k (1 + 1) c0) := bestTo_keep hbest (by omega) (fun h => hgt h.2)
              clear hbest hgt hH hnum hsd hinj hsub
              go_wp2
              go_quiet (fail)
              go_wp2
              exact ⟨⟨2, c0, _, by omega, rfl, rfl, HB.out, rfl⟩, by simp [intOf]⟩
          · have hd : decide (2 * (k : Int) + 2 < (m : Int)) = false := decide_eq_false (by omega)
            have HB : Hid (BestTo (fun v => fkey (bd v)) π m k (1 + 1) c0) := bestTo_keep hbest (by omega) (fun h => hj h.1)
            clear hbest hH hnum hsd hinj hsub
            go_wp2
            go_quiet (fail)
            go_wp2
            exact ⟨⟨2, c0, _, by omega, rfl, rfl, HB.out, rfl⟩, by simp [intOf]⟩
end Go.Proofs.Qxb6003856a
