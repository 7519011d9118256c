/-
  Seat b6003856a. JaroWinkler: matchLong's walk.
-/
import Derived.Test.Qxb6003856aJwE
namespace Go.Proofs.Qxb6003856a
open Go.ChangeShapes Go.WideShapes Go.RowKit Go.Maps Go.WideMaps
set_option linter.unusedVariables false

set_option maxRecDepth 100000 in
set_option maxHeartbeats 2000000 in
theorem long22 (a : Option Addr) (la ac : Nat) (f : Nat → Int) (b : Option Addr) (lb bc : Nat) (g : Nat → Int) (w : World)
    (hA : Ru w a la f) (hB : Ru w b lb g) (hla : la ≤ 65536) (hlb : lb ≤ 65536) (hwa : ∀ i, i < la → (Lit.int .i32 (f i)).wf = true) (hwb : ∀ i, i < lb → (Lit.int .i32 (g i)).wf = true) :
    Calls Try.prog 22 #[.slice a la ac, .slice b lb bc] w fun e w' => MRet e f g la lb ∧ Below w.heap.size w w' := by
  obtain ⟨W, hW⟩ : ∃ W : Nat, win la lb = W := ⟨_, rfl⟩
  have hWl : W ≤ 65536 := by rw [← hW]; unfold win; omega
  have hwin : max (max (la : Int) (lb : Int) / 2 - 1) 0 = (W : Int) := by rw [← hW]; unfold win; omega
  have HW : Hid (win la lb = W) := hW
  clear hW
  have hmm := @run_makeMap Try.prog
  have hmm2 := makeMap49
  have hmf : ∀ (fn : Fn) (first cap : Array Value) (w : World), (Instr.makeFunc fn first cap).run Try.prog w = .ok (.func fn first cap) w := fun _ _ _ _ => rfl
  obtain ⟨i0, hi, hz0, hz1, hz2⟩ := info_parts jinfo3
  go_enter Try.func22, Try.ntmps22
  go_wp2_with fail
  go_loopw [28] (fun jv wr => ∃ (k : Nat) (D : DataW Unit), jv = .int .i64 k ∧ k ≤ lb ∧ GoodD D g k ∧ wr.ownsGroups Try.prog 21 (w.heap.size + 1) 3 .i64 w.heap.size k D ∧ Below w.heap.size w wr ∧ w.heap.size + 1 ≤ wr.heap.size) (fun jv _ => lb - (intOf jv).toNat)
  case atStart => exact ⟨0, _, rfl, Nat.zero_le _, GoodD.start g, World.ownsGroups_made _ _ _ _ _, (Below.refl _ _).alloc (Nat.le_refl _) _, by simp⟩
  case round =>
    obtain ⟨k, D, rfl, hk, hgood, hown, hbel, hws⟩ := hrel
    by_cases hkl : k < lb
    · obtain ⟨bb, boff, rfl, hcb⟩ := (hB.below hbel).at hkl
      have hkey := keyOf_int_mk Try.underlying21 (hwb k hkl)
      go_wp2_with (first
        | (at_lookup; refine wpList_lookup_groups _ rfl _ _ 47 rfl 21 48 3 .i64 law21 Try.underlying47 (zero48 _) (w.heap.size + 1) w.heap.size k _ rfl hown (by unfold maxLen; omega) _ _ rfl hkey ?_; intro v zs hat hoi hzl hback)
        | (at_builtin; refine wpList_append_own_at _ rfl _ _ 48 rfl (w.heap.size + 1) 3 i0 (.int .i64 0) 1 8 Try.underlying48 hi hz0 hz1 hz2 rfl (by decide) _ _ _ rfl (hoi.1.alloc _) ⟨wr.heap.size, 0, none⟩ 1 1 [.int .i64 k] rfl rfl (cell_one_new _ _ _) (ints_oneCell .i64 [(k : Int)]) (by unfold maxLen; omega) (by omega) (by simp; omega) ?_; intro v' w1 hown' hgrow hnil hloc)
        | (at_mapUpdate; refine wpList_mapUpdate_back _ rfl _ _ _ 47 rfl hback rfl rfl rfl ((World.grownBy_alloc _ _ _).trans hgrow) (hoi.appended hown' (WalkArith.wf_i64 (by omega))) (by simp; omega) (hloc.elim Or.inl (fun h => Or.inr ⟨_, h, by simp⟩)) ?_; intro w2 hown2 hgrow2)
        | go_in)
      have hall := (World.grownBy_alloc wr _ _).trans hgrow
      refine ⟨⟨k + 1, _, by go_num, by omega, hgood.step ?_, hown2, hbel.groups hoi hall hgrow2 hbel.size (Nat.le_succ _) (Nat.le_refl _), Nat.le_trans hws (Nat.le_trans hall.size hgrow2.size)⟩, by simp [intOf]; omega⟩
      rw [← hgood.eq hat hoi]
      exact (hoi.appended hown' (WalkArith.wf_i64 (by omega))).datum_pos (by simp)
    · have hd : decide ((k : Int) < (lb : Int)) = false := decide_eq_false (by omega)
      have hkl2 : lb = k := by omega
      subst hkl2
      have hlen := fun ty => (groups_map hown).len Try.underlying47 ty
      generalize Maps.size D = sz at hlen
      have hmk := run_make_row' (P := Try.prog) 35 4 (.bool false) 1 Try.underlying35 jinfo4 rfl .i64 .i64 lb (by omega) (by omega)
      go_wp2_with fail
      clear hlen hmk hmm hmm2 hi hz0 hz1 hz2
      have hst := LS.start lb wr
      have hbelN : Below wr.heap.size wr (((wr.alloc (.map #[] 0)).alloc (.cells (madeCells #[.bool false] lb) 4)).alloc (.cells #[.slice (some ⟨wr.heap.size + 1, 0, none⟩) lb lb] 35)) := (((Below.refl _ _).alloc (Nat.le_refl _) _).alloc (by simp) _).alloc (by simp; omega) _
      generalize ((wr.alloc (.map #[] 0)).alloc (.cells (madeCells #[.bool false] lb) 4)).alloc (.cells #[.slice (some ⟨wr.heap.size + 1, 0, none⟩) lb lb] 35) = Wst at *
      have hgr : ∀ {w'}, Below wr.heap.size wr w' → w'.ownsGroups Try.prog 21 (w.heap.size + 1) 3 .i64 w.heap.size lb D := fun h => groups_below hown h
      have hbelw : ∀ {w'}, Below wr.heap.size wr w' → Below w.heap.size w w' := fun h => hbel.trans (h.mono hbel.size)
      have hNw : w.heap.size ≤ wr.heap.size := hbel.size
      clear hown hbel hws
      generalize wr.heap.size = N at *
      obtain ⟨w1, rfl⟩ : ∃ w1, w1 = wr := ⟨wr, rfl⟩
      obtain ⟨i1, hi, hz0, hz1, hz2⟩ := info_parts jinfo21
      go_loopw [12, 50] (fun vv cv wi => ∃ (i : Nat) (zs : List Int) (nx : Int → Nat) (M : Nat → Bool) (D2 : DataW Unit), cv = .int .i64 i ∧ i ≤ la ∧ LI f g la lb i zs.length nx M ∧ GoodN D2 nx ∧ LS N lb vv zs M i D2 wi ∧ Below N w1 wi) (fun _ cv _ => la - (intOf cv).toNat)
      case atStart => exact ⟨0, [], fun _ => 0, fun _ => false, .map [], rfl, Nat.zero_le _, LI.start f g la lb, GoodN.start, hst, hbelN⟩
      case round =>
        clear hst hbelN
        obtain ⟨i, zs, nx, M, D2, rfl, hil, hLI, hGN, hLS, hbelN⟩ := hrel
        by_cases hi2 : i < la
        · obtain ⟨ab, aoff, rfl, hca⟩ := (hA.below (hbelw hbelN)).at hi2
          have hkey := keyOf_int_mk Try.underlying21 (hwa i hi2)
          obtain ⟨v, js, hrun, hat, hoi, hzl⟩ := groups_look (hgr hbelN) (by unfold maxLen; omega) (hwa i hi2)
          have hjs := hgood.eq hat hoi
          obtain ⟨ja, jc, rfl, hjc⟩ := ints_shape hoi
          obtain ⟨c, hrun2, hat2⟩ := next_look hLS.next (hwa i hi2)
          obtain ⟨n0, hn0⟩ : ∃ n0 : Nat, nx (f i) = n0 := ⟨_, rfl⟩
          have hc0 : c = (n0 : Int) := by
            rw [hGN.2 (f i)] at hat2
            injection hat2 with e
            injection e with _ e2
            rw [← e2, hn0]
          subst hc0
          obtain ⟨jn, hjn⟩ : ∃ jn, js.length = jn := ⟨_, rfl⟩
          have HJ : Hid (js = plc g (f i) lb) := hjs
          have HN0 : Hid (nx (f i) = n0) := hn0
          have HJN : Hid (js.length = jn) := hjn
          have hn0j : n0 ≤ jn := by rw [← hn0, ← hjn, hjs]; exact hLI.le _
          rw [hjn] at hrun hjc hzl
          clear hat hoi hat2 hjs hn0 hjn
          go_wp2_with fail
          go_quiet (fail)
          go_wp2_with fail
          have hLS2 := hLS.drewN nq
          have hbelN2 : Below N w1 (wr.drewN nq) := ⟨hbelN.os, hbelN.tape, hbelN.output, hbelN.size, hbelN.block⟩
          have hjc2 : ∀ k, k < jn → ∃ gb, ja = some ⟨gb, 0, none⟩ ∧ gb < (wr.drewN nq).heap.size ∧ (wr.drewN nq).cell? ⟨gb, k, none⟩ = some (.int .i64 (js.getD k 0)) := hjc
          have hjnat : ∀ k, k < jn → ∃ j : Nat, js.getD k 0 = (j : Int) ∧ j < lb := fun k hk => by
            have h1 : js = plc g (f i) lb := HJ
            have h2 : js.length = jn := HJN
            rw [h1] at h2
            obtain ⟨j, a1, a2, _⟩ := plc_mem g (f i) lb k (by omega)
            exact ⟨j, by rw [h1]; exact a2, a1⟩
          have hNW : N ≤ (wr.drewN nq).heap.size := Nat.le_trans (Nat.le_of_lt (Nat.lt_of_succ_lt (Nat.lt_of_succ_le (Nat.succ_le_of_lt hLS2.row.lt)))) (Nat.le_refl _)
          clear hrun hrun2 hca hLS hbelN hjc
          generalize wr.drewN nq = W2 at *
          go_loopw [16] (fun kv wi => ∃ k : Nat, kv = .int .i64 k ∧ n0 ≤ k ∧ k ≤ jn ∧ (∀ p, n0 ≤ p → p < k → js.getD p 0 + (W : Int) < (i : Int)) ∧ wi = W2) (fun kv _ => jn - (intOf kv).toNat)
          case atStart => exact ⟨n0, rfl, Nat.le_refl _, hn0j, fun p h1 h2 => by omega, rfl⟩
          case round =>
            obtain ⟨k, rfl, hk0, hkj, hskip, rfl⟩ := hrel
            by_cases hk : k < jn
            · obtain ⟨gb, rfl, _, hck⟩ := hjc2 k hk
              obtain ⟨j, hj, hjlb⟩ := hjnat k hk
              rw [hj] at hck
              by_cases hJ : (j : Int) < (i : Int) - (W : Int)
              · have hd : decide ((j : Int) < (i : Int) - (W : Int)) = true := decide_eq_true hJ
                go_wp2_with fail
                refine ⟨⟨k + 1, by go_num, by omega, by omega, fun p h1 h2 => ?_, trivial⟩, by simp [intOf]; omega⟩
                by_cases e : p = k
                · rw [e, hj]; omega
                · exact hskip p h1 (by omega)
              · have hd : decide ((j : Int) < (i : Int) - (W : Int)) = false := decide_eq_false hJ
                by_cases hJ2 : (j : Int) ≤ (i : Int) + (W : Int)
                · have hd2 : decide ((j : Int) ≤ (i : Int) + (W : Int)) = true := decide_eq_true hJ2
                  have hcv := hLS2.var.cell (i := 0) (by omega)
                  have hcM := hLS2.row.cell hjlb
                  have hfM := hLS2.row.frozen j
                  go_wp2_with fail
                  go_region
                  have hM3 : LS N lb u12 zs (setM M j) i D2 (wr.setCell ⟨N + 1, j, none⟩ (.bool true)).drew := (hLS2.mark j).drewN 1
                  have hb3 : Below N w1 (wr.setCell ⟨N + 1, j, none⟩ (.bool true)).drew := (hbelN2.setCell (p := ⟨N + 1, j, none⟩) (Nat.le_succ _) _).drew
                  clear hcv hcM hfM hck hLS2 hbelN2 hjc2 hNW
                  generalize (wr.setCell ⟨N + 1, j, none⟩ (.bool true)).drew = W3 at *
                  have hN3 : N + 1 + 1 < W3.heap.size := hM3.var.lt
                  have hzl2 : zs.length ≤ 65536 := by rw [hLI.cm]; exact Nat.le_trans (cnt_le _ _) hlb
                  go_wp2_with (first
                    | (at_builtin; refine wpList_append_own_at _ rfl _ _ 22 rfl (N + 3) 21 i1 (.int .i32 0) 1 4 Try.underlying22 hi hz0 hz1 hz2 rfl (by decide) _ _ _ rfl (hM3.inA.alloc _) ⟨W3.heap.size, 0, none⟩ 1 1 [.int .i32 (f i)] rfl rfl (cell_one_new _ _ _) (ints_oneCell .i32 [f i]) (by unfold maxLen; omega) (by omega) (by simp; omega) ?_; intro v' w5 hown5 hgrow5 hnil5 hloc5)
                    | (at_mapUpdate; refine wpList_mapUpdate_own _ rfl _ _ _ 49 rfl 21 3 law21 Try.underlying49 _ N i D2 rfl (hM3.app (f i) ((World.grownBy_alloc _ _ _).trans hgrow5) hown5).next (by unfold maxLen; omega) _ _ (.int .i32 (f i)) rfl rfl hkey (.lit (.int .i64 ((k : Int) + 1))) [] (plainElem_int Try.underlying3 (WalkArith.wf_i64 (by omega))) ?_; intro w4 hown4 hgrow4)
                    | go_in)
                  have hall := (World.grownBy_alloc W3 (.cells #[.int .i32 (f i)] 21) u12.ownBlock).trans hgrow5
                  have hM5 := hM3.app (f i) hall hown5
                  have hb5 : Below N w1 w5 := hb3.grown hall (by omega) (fun j hj => by have := (hM3.inA.lt j hj).1; omega)
                  have hg2 := hGN.step (f i) (k + 1)
                  rw [show ((k + 1 : Nat) : Int) = (k : Int) + 1 by omega] at hg2
                  have hw : win la lb = W := HW
                  have h1 : js = plc g (f i) lb := HJ
                  have h2 : js.length = jn := HJN
                  have h3 : nx (f i) = n0 := HN0
                  have hit := (hLI.hit hi2 k j (by omega) (by rw [← h1]; omega) (by rw [← h1]; exact hj) (by rw [hw]; omega) (by rw [hw]; omega)).2.2
                  exact ⟨⟨i + 1, zs ++ [f i], setN nx (f i) (k + 1), setM M j, _, by go_num, by omega, by rw [List.length_append]; exact hit, hg2, hM5.put hgrow4 hown4, hb5.grown hgrow4 (by have := hall.size; omega) (fun j hj => by cases hj; exact Nat.le_refl _)⟩, by simp [intOf]; omega⟩
                · have hd2 : decide ((j : Int) ≤ (i : Int) + (W : Int)) = false := decide_eq_false hJ2
                  go_wp2_with (first
                    | (at_mapUpdate; refine wpList_mapUpdate_own _ rfl _ _ _ 49 rfl 21 3 law21 Try.underlying49 _ N i D2 rfl hLS2.next (by unfold maxLen; omega) _ _ (.int .i32 (f i)) rfl rfl hkey (.lit (.int .i64 (k : Nat))) [] (plainElem_int Try.underlying3 (WalkArith.wf_i64 (by omega))) ?_; intro w4 hown4 hgrow4)
                    | go_in)
                  refine ⟨⟨i + 1, zs, setN nx (f i) k, M, _, by go_num, by omega, hLI.miss k ?_ ?_ ?_ ?_, hGN.step (f i) k, hLS2.put hgrow4 hown4, hbelN2.grown hgrow4 hNW (fun j hj => by cases hj; exact Nat.le_refl _)⟩, by simp [intOf]; omega⟩
                  · have h1 : nx (f i) = n0 := HN0
                    omega
                  · have h1 : js = plc g (f i) lb := HJ
                    have h2 : js.length = jn := HJN
                    rw [← h1, h2]; omega
                  · have h1 : js = plc g (f i) lb := HJ
                    have h2 : nx (f i) = n0 := HN0
                    have h3 : win la lb = W := HW
                    rw [← h1, h2, h3]; exact hskip
                  · have h1 : js = plc g (f i) lb := HJ
                    have h3 : win la lb = W := HW
                    rw [← h1, h3, hj]; exact fun _ => hJ2
            · have hkn : k = jn := by omega
              have hd : decide ((k : Int) < (jn : Int)) = false := decide_eq_false (by omega)
              go_wp2_with (first
                | (at_mapUpdate; refine wpList_mapUpdate_own _ rfl _ _ _ 49 rfl 21 3 law21 Try.underlying49 _ N i D2 rfl hLS2.next (by unfold maxLen; omega) _ _ (.int .i32 (f i)) rfl rfl hkey (.lit (.int .i64 (k : Nat))) [] (plainElem_int Try.underlying3 (WalkArith.wf_i64 (by omega))) ?_; intro w4 hown4 hgrow4)
                | go_in)
              refine ⟨⟨i + 1, zs, setN nx (f i) k, M, _, by go_num, by omega, hLI.miss k ?_ ?_ ?_ ?_, hGN.step (f i) k, hLS2.put hgrow4 hown4, hbelN2.grown hgrow4 hNW (fun j hj => by cases hj; exact Nat.le_refl _)⟩, by simp [intOf]; omega⟩
              · have h1 : nx (f i) = n0 := HN0
                omega
              · have h1 : js = plc g (f i) lb := HJ
                have h2 : js.length = jn := HJN
                rw [← h1, h2]; omega
              · have h1 : js = plc g (f i) lb := HJ
                have h2 : nx (f i) = n0 := HN0
                have h3 : win la lb = W := HW
                rw [← h1, h2, h3]; exact hskip
              · have h1 : js = plc g (f i) lb := HJ
                have h2 : js.length = jn := HJN
                rw [← h1, h2]; intro h; omega
        · have hd : decide ((i : Int) < (la : Int)) = false := decide_eq_false (by omega)
          have hil2 : la = i := by omega
          subst hil2
          obtain ⟨ia, ic, rfl, hIA⟩ := inA_shape hLS.inA
          have hcv := hLS.var.cell (i := 0) (by omega)
          go_wp2_with fail
          refine (ooo26 27 (.pointer (some ⟨N + 1 + 1, 0, none⟩)) M ia zs.length ic (fun i => zs.getD i 0) b lb bc g wr call27 hIA (hB.below (hbelw hbelN)) hLI.cm.symm hlb
            (fun j hj wr' hb' => clo27 (N + 1 + 1) (N + 1) lb M j wr' hj hlb (by rw [hb'.cell (World.block_lt_of_cell? wr _ hcv)]; exact hcv) (by rw [hb'.cell (World.block_lt_of_cell? wr _ (hLS.row.cell hj))]; exact hLS.row.cell hj))).mono ?_
          rintro e w' ⟨⟨t, rfl, ht⟩, hbel'⟩
          clear hcv
          go_wp2_with fail
          go_ret2
          exact ⟨⟨zs.length, t, rfl, hLI.atEnd, ht, by rw [hLI.cm]; exact cnt_le _ _⟩, (hbelw hbelN).trans (hbel'.mono (hbelw hbelN).size)⟩
end Go.Proofs.Qxb6003856a
