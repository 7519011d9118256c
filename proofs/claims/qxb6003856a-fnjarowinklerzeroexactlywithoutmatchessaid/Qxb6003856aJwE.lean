/-
  Seat b6003856a. JaroWinkler: matchLong's walk.
-/
import Derived.Test.Qxb6003856aJwD
namespace Go.Proofs.Qxb6003856a
open Go.ChangeShapes Go.WideShapes Go.RowKit Go.Maps Go.WideMaps
set_option linter.unusedVariables false

theorem jinfo3 : (Try.prog.info? 3).map (fun i => (i.zero, i.size, i.bytes)) = some (some (.int .i64 0), 1, 8) := by kernel_rfl
theorem jinfo4 : (Try.prog.info? 4).map (fun i => (i.zero, i.size, i.bytes)) = some (some (.bool false), 1, 1) := by kernel_rfl
theorem jinfo21 : (Try.prog.info? 21).map (fun i => (i.zero, i.size, i.bytes)) = some (some (.int .i32 0), 1, 4) := by kernel_rfl
theorem zero48 (w : World) : (zeroValue 48).run Try.prog w = .ok (.slice none 0 0) w := by kernel_rfl
theorem zero3 (w : World) : (zeroValue 3).run Try.prog w = .ok (.int .i64 0) w := by kernel_rfl
theorem law21 : Keyed Try.prog 21 := int_keyed Try.underlying21
theorem makeMap49 (x : Int) (w : World) : (Instr.makeMap 49 (some (.int .i64 x))).run Try.prog w = .ok (.map (some w.heap.size)) (w.alloc (.map #[] 0)) := by
  have h : (Instr.makeMap 49 (some (.int .i64 x))).run Try.prog w = (do let _ ← asInt (.int .i64 x); Instr.makeMap 49 none : Sem Value).run Try.prog w := by
    simp [Instr.makeMap, run_underlying Try.underlying49]
  rw [h]
  rfl

theorem groups_map {w : World} {base b n : Nat} {D : DataW Unit} (h : w.ownsGroups Try.prog 21 base 3 .i64 b n D) : w.ownsMap Try.prog 21 (rowElem (H := Unit) w base 3 .i64) b n D := by
  obtain ⟨es, clock, hb, F, hs, hD, _⟩ := h
  exact ⟨es, clock, hb, F, hs, hD⟩

theorem grown_of_below {w w' : World} (h : Below w.heap.size w w') : w.grownBy w' none := ⟨h.os, h.tape, h.output, h.size, fun i hi _ => h.block i hi⟩

theorem groups_below {w w' : World} {base b n : Nat} {D : DataW Unit} (h : w.ownsGroups Try.prog 21 base 3 .i64 b n D) (hb : Below w.heap.size w w') : w'.ownsGroups Try.prog 21 base 3 .i64 b n D :=
  h.kept (grown_of_below hb) (by simp) (fun es clock _ x _ => by cases x.val.ownBlock <;> simp)

theorem pw_uniq {α β : Type} (f : α → β) : ∀ l : List α, l.Pairwise (fun x y => f x ≠ f y) → ∀ x ∈ l, ∀ y ∈ l, f x = f y → x = y
  | [], _, x, hx, _, _, _ => by cases hx
  | a :: l, h, x, hx, y, hy, e => by
    rw [List.pairwise_cons] at h
    rcases List.mem_cons.1 hx with h1 | h1 <;> rcases List.mem_cons.1 hy with h2 | h2
    · rw [h1, h2]
    · subst h1; exact absurd e (h.1 y h2)
    · subst h2; exact absurd e.symm (h.1 x h1)
    · exact pw_uniq f l h.2 x h1 y h2 e

open Go.WideElems (Fit rg) in
/-- one value at a key, however often was drawn -/
theorem look_drew {t e : TypeId} {es : Array MapEntry} {clock b : Nat} {w : World} {R : Value → Option (DataW Unit × List MemPlace)} {key z v : Value} {kl : Lit} (ht : Try.prog.underlying t = some (.map 21 e)) (hz : ∀ w, (zeroValue e).run Try.prog w = .ok z w)
    (hb : w.heap[b]? = some (.map es clock)) (F : Fit Try.prog 21 R es clock) (hkey : keyOf Try.prog 21 key = some kl) (hrun : (Instr.lookup t (.map (some b)) key false).run Try.prog w = .ok v w) (q : Nat) :
    (Instr.lookup t (.map (some b)) key false).run Try.prog (w.drewN q) = .ok v (w.drewN q) := by
  have hb' : (w.drewN q).heap[b]? = some (.map es clock) := hb
  have uniq : ∀ x ∈ es.toList, ∀ y ∈ es.toList, x.key = y.key → x = y := pw_uniq (fun x : MapEntry => x.key) es.toList ((MapKept.stamped_iff es clock).1 F.stamped).2.2
  rcases fit_look false law21 ht (hz w) hb F hkey with ⟨h1, h2, _⟩ | ⟨e0, y0, h1, h2, h3, _⟩
  · rcases fit_look false law21 ht (hz (w.drewN q)) hb' F hkey with ⟨k1, k2, _⟩ | ⟨e1, y1, k1, k2, k3, _⟩
    · rw [hrun] at h1
      simp only [Result.ok.injEq] at h1
      rw [k1, h1.1]
    · exact absurd k2 (h2 e1 k1)
  · rcases fit_look false law21 ht (hz (w.drewN q)) hb' F hkey with ⟨k1, k2, _⟩ | ⟨e1, y1, k1, k2, k3, _⟩
    · exact absurd h2 (k2 e0 h1)
    · rw [hrun] at h3
      simp only [Result.ok.injEq] at h3
      rw [k3, h3.1, uniq e1 k1 e0 h1 (k2.trans h2.symm)]

theorem groups_look {w : World} {base b n : Nat} {D : DataW Unit} {r : Int} (h : w.ownsGroups Try.prog 21 base 3 .i64 b n D) (hn : n < maxLen) (hwf : (Lit.int .i32 r).wf = true) :
    ∃ v zs, (∀ q, (Instr.lookup 47 (.map (some b)) (.int .i32 r) false).run Try.prog (w.drewN q) = .ok v (w.drewN q)) ∧ D.atKey (.int .i32 r) .nil = rowDatum .i64 v zs ∧ w.ownsInts base 3 .i64 v zs ∧ zs.length ≤ n := by
  have hkey := keyOf_int_mk Try.underlying21 hwf
  obtain ⟨v, zs, hrun, hat, hoi, hzl, _⟩ := h.at law21 Try.underlying47 (zero48 _) hn hkey
  obtain ⟨es, clock, hb, F, _⟩ := h
  exact ⟨v, zs, look_drew Try.underlying47 zero48 hb F hkey hrun, hat, hoi, hzl⟩

theorem next_look {w : World} {b n : Nat} {D : DataW Unit} {r : Int} (h : w.ownsMap Try.prog 21 (plainElem Try.prog 3) b n D) (hwf : (Lit.int .i32 r).wf = true) :
    ∃ c, (∀ q, (Instr.lookup 49 (.map (some b)) (.int .i32 r) false).run Try.prog (w.drewN q) = .ok (.int .i64 c) (w.drewN q)) ∧ D.atKey (.int .i32 r) (.lit (.int .i64 0)) = .lit (.int .i64 c) := by
  have hkey := keyOf_int_mk Try.underlying21 hwf
  obtain ⟨c, hrun, hat, _⟩ := h.lookup_int law21 Try.underlying49 Try.underlying3 (zero3 _) hkey
  obtain ⟨es, clock, hb, F, _⟩ := h
  exact ⟨c, look_drew Try.underlying49 zero3 hb F hkey hrun, hat⟩

/-- the memory of the second loop -/
structure LS (N lb : Nat) (v : Value) (zs : List Int) (M : Nat → Bool) (n2 : Nat) (D2 : DataW Unit) (w : World) : Prop where
  next : w.ownsMap Try.prog 21 (plainElem Try.prog 3) N n2 D2
  row : w.rowIs (N + 1) 4 lb (fun j => .bool (M j))
  var : w.rowIs (N + 1 + 1) 35 1 (fun _ => .slice (some ⟨N + 1, 0, none⟩) lb lb)
  inA : w.ownsRow (N + 3) 21 1 v zs.length (zs.map (Value.int .i32))

theorem grown_setCell (w : World) (a : Addr) (u : Value) : w.grownBy (w.setCell a u) (some a.block) :=
  ⟨rfl, rfl, rfl, by simp [World.setCell], fun i _ hi => Below.heap_setCell _ _ _ _ (fun e => hi (by rw [e]))⟩

theorem LS.drewN {N lb n2 : Nat} {v : Value} {zs : List Int} {M : Nat → Bool} {D2 : DataW Unit} {w : World} (h : LS N lb v zs M n2 D2 w) (q : Nat) : LS N lb v zs M n2 D2 (w.drewN q) :=
  have hg : w.grownBy (w.drewN q) none := ⟨rfl, rfl, rfl, Nat.le_refl _, fun _ _ _ => rfl⟩
  ⟨h.next.kept hg (by simp), h.row.of_block rfl, h.var.of_block rfl, h.inA.kept hg (by cases v.ownBlock <;> simp)⟩

theorem LS.mark {N lb n2 : Nat} {v : Value} {zs : List Int} {M : Nat → Bool} {D2 : DataW Unit} {w : World} (h : LS N lb v zs M n2 D2 w) (j : Nat) : LS N lb v zs (setM M j) n2 D2 (w.setCell ⟨N + 1, j, none⟩ (.bool true)) := by
  have hg := grown_setCell w ⟨N + 1, j, none⟩ (.bool true)
  refine ⟨h.next.kept hg (by simp), (h.row.set j _).congr (fun i hi => ?_), h.var.setOther (by show N + 1 + 1 ≠ N + 1; omega) _, h.inA.kept hg ?_⟩
  · unfold setM
    by_cases e : i = j
    · rw [if_pos e, if_pos e]
    · rw [if_neg e, if_neg e]
  · cases hv : v.ownBlock with
    | none => exact .inl rfl
    | some k =>
      right
      have := (h.inA.lt k hv).1
      intro e
      have e2 : k = N + 1 := Option.some.inj e
      omega

theorem LS.app {N lb n2 : Nat} {v v' : Value} {zs : List Int} {M : Nat → Bool} {D2 : DataW Unit} {w w' : World} (h : LS N lb v zs M n2 D2 w) (r : Int) (hg : w.grownBy w' v.ownBlock) (ho : w'.ownsRow (N + 3) 21 1 v' (zs.length + 1) (zs.map (Value.int .i32) ++ [.int .i32 r])) : LS N lb v' (zs ++ [r]) M n2 D2 w' := by
  have ne : ∀ k, k < N + 3 → some k ≠ v.ownBlock := fun k hk e => by
    have := (h.inA.lt k e.symm).1
    omega
  exact ⟨h.next.kept hg (ne N (by omega)), h.row.of_block (hg.block _ h.row.lt (ne _ (by omega))), h.var.of_block (hg.block _ h.var.lt (ne _ (by omega))), by simpa using ho⟩

theorem LS.put {N lb n2 n2' : Nat} {v : Value} {zs : List Int} {M : Nat → Bool} {D2 D2' : DataW Unit} {w w' : World} (h : LS N lb v zs M n2 D2 w) (hg : w.grownBy w' (some N)) (ho : w'.ownsMap Try.prog 21 (plainElem Try.prog 3) N n2' D2') : LS N lb v zs M n2' D2' w' := by
  refine ⟨ho, h.row.of_block (hg.block _ h.row.lt (by simp)), h.var.of_block (hg.block _ h.var.lt (by simp; omega)), h.inA.kept hg ?_⟩
  cases hv : v.ownBlock with
  | none => exact .inl rfl
  | some k =>
    right
    have := (h.inA.lt k hv).1
    intro e
    cases e
    omega

theorem LS.start (lb : Nat) (w : World) : LS w.heap.size lb (.slice none 0 0) [] (fun _ => false) 0 (.map []) (((w.alloc (.map #[] 0)).alloc (.cells (madeCells #[.bool false] lb) 4)).alloc (.cells #[.slice (some ⟨w.heap.size + 1, 0, none⟩) lb lb] 35)) := by
  have h1 : (w.alloc (.map #[] 0)).heap.size = w.heap.size + 1 := by simp
  have h2 : ((w.alloc (.map #[] 0)).alloc (.cells (madeCells #[.bool false] lb) 4)).heap.size = w.heap.size + 1 + 1 := by simp
  refine ⟨((World.ownsMap_made w Try.prog 21 _).alloc _).alloc _, ?_, ?_, World.ownsRow_nil _ _ _ _⟩
  · have := World.rowIs_made (w.alloc (.map #[] 0)) (.bool false) lb 4
    rw [h1] at this
    exact this.alloc _
  · have := World.rowIs_alloc ((w.alloc (.map #[] 0)).alloc (.cells (madeCells #[.bool false] lb) 4)) #[.slice (some ⟨w.heap.size + 1, 0, none⟩) lb lb] 35 (fun _ => .slice (some ⟨w.heap.size + 1, 0, none⟩) lb lb) (fun i hi => by
      have : i = 0 := by simpa using hi
      subst this; rfl)
    rw [h2] at this
    exact this

/-- a slice of integers of the call's own -/
theorem ints_shape {w : World} {base : Nat} {v : Value} {zs : List Int} (h : w.ownsInts base 3 .i64 v zs) : ∃ ja jc, v = .slice ja zs.length jc ∧ ∀ k, k < zs.length → ∃ gb, ja = some ⟨gb, 0, none⟩ ∧ gb < w.heap.size ∧ w.cell? ⟨gb, k, none⟩ = some (.int .i64 (zs.getD k 0)) := by
  have hrow := h.1
  rcases h.1.2 with ⟨rfl, h0⟩ | ⟨g, cap, cur, rfl, hg, hh, hn, hcap, _, _⟩
  · exact ⟨none, 0, by rw [h0], fun k hk => by omega⟩
  · refine ⟨_, cap, rfl, fun k hk => ⟨g, rfl, (Array.getElem?_eq_some_iff.1 hh).1, ?_⟩⟩
    rw [hrow.cellAt k (by omega)]
    simp [List.getD, List.getElem?_eq_getElem hk]

theorem inA_shape {w : World} {base : Nat} {v : Value} {zs : List Int} (h : w.ownsRow base 21 1 v zs.length (zs.map (Value.int .i32))) : ∃ ja jc, v = .slice ja zs.length jc ∧ Ru w ja zs.length (fun i => zs.getD i 0) := by
  have hrow := h
  rcases h.2 with ⟨rfl, h0⟩ | ⟨g, cap, cur, rfl, hg, hh, hn, hcap, _, _⟩
  · exact ⟨none, 0, by rw [h0], .inl ⟨rfl, h0⟩⟩
  · refine ⟨_, cap, rfl, .inr ⟨g, 0, rfl, fun k hk => ?_⟩⟩
    rw [Nat.zero_add, hrow.cellAt k (by omega)]
    simp [List.getD, List.getElem?_eq_getElem hk]
end Go.Proofs.Qxb6003856a
