import Derived.Test.YbulkbgveFmtCheckA
namespace Go.Proofs.YbulkbgveFmt
open Go.RowKit Go.Extern.Stop Go.Stop Go.Extern

set_option maxHeartbeats 4000000 in
set_option maxRecDepth 100000 in
theorem check_ok (R : Nat) (l c i d : Int) (hd : ¬ (d = 0 ∧ i ≠ 0)) (W : World) (xs : List Value) (hR : Row W R 43 xs) (h13 : xs[13]? = some (.slice none 0 0)) :
    Calls Ybaf.prog 11 #[.pointer (some ⟨R, 13, none⟩), .agg #[.int .i64 l, .int .i64 c, .int .i64 i, .int .i64 d]] W fun e w' => e = .returned (.string ⟨#[]⟩) ∧
      ∃ (G gc : Nat) (ys : List Value), Row w' R 43 (xs.set 13 (.slice (some ⟨G, 0, none⟩) 1 gc)) ∧ Row w' G 49 ys ∧ ys[0]? = some (.int .i64 d) ∧ ys[1]? = some (.int .i64 l) ∧ ys[2]? = some (.int .i64 c) ∧ ys[3]? = some (.int .i64 i) ∧ ys[4]? = some (.int .i64 d) ∧ W.heap.size ≤ G ∧ Kept (fun k => k = R) W w' := by
  obtain ⟨i0, hi, hz0, hz1, hz2⟩ := info_parts Ybaf.info49
  go_enter Ybaf.func11, Ybaf.ntmps11
  have c13 := (hR.cell 13).trans h13
  have hRl := hR.lt
  go_wp2_with fail
  refine wp_loop_rounds 1 ?_
  rw [rounds_succ]
  go_wp2_with fail
  go_quiet (fail)
  go_wp2_with fail
  go_quiet (fail)
  go_wp2_with (at_builtin; refine wpList_append_own _ rfl (.tmp 78) (.tmp 80) 32 rfl (W.heap.size + 1 + 1) 49 i0 _ 13 104 Ybaf.underlying32 hi hz0 hz1 hz2 rfl (by decide) (.slice none 0 0) 0 [] rfl (World.ownsRow_nil _ _ _ _) ⟨W.heap.size + 1 + 1 + 1, 0, none⟩ 1 1 [.int .i64 d, .int .i64 0, .int .i64 0, .int .i64 0, .int .i64 0, .int .i64 0, .int .i64 0, .int .i64 0, .int .i64 0, .int .i64 0, .int .i64 0, .int .i64 0, .int .i64 0] rfl rfl ?c1 ?c2 ?c3 ?c4 ?c5 ?_)
  case c1 =>
    exact new_cells _ _ [.int .i64 d, .int .i64 0, .int .i64 0, .int .i64 0, .int .i64 0, .int .i64 0, .int .i64 0, .int .i64 0, .int .i64 0, .int .i64 0, .int .i64 0, .int .i64 0, .int .i64 0] _ (by simp)
  case c2 =>
    intro u hu
    simp only [List.mem_cons, List.not_mem_nil, or_false] at hu
    rcases hu with rfl | rfl | rfl | rfl | rfl | rfl | rfl | rfl | rfl | rfl | rfl | rfl | rfl <;> rfl
  case c3 => decide
  case c4 => decide
  case c5 => simp
  intro v' w1 hown hgrow _
  obtain ⟨G, gc, rfl⟩ := Joins.ownsRow_form hown (by decide)
  have hG : W.heap.size + 1 + 1 ≤ G := (hown.lt G rfl).1
  have hC : ∃ ys, Chk W R G xs ys l c i d w1 := by
    obtain ⟨hlen, hown2⟩ := hown
    rcases hown2 with ⟨h, _⟩ | ⟨g, cap, cur, hv, hge, hrow, h4, h5, h6, h7⟩
    · cases h
    · cases hv
      have hget : ∀ j, j < 13 → cur.toList[j]? = ([Value.int .i64 d, .int .i64 0, .int .i64 0, .int .i64 0, .int .i64 0, .int .i64 0, .int .i64 0, .int .i64 0, .int .i64 0, .int .i64 0, .int .i64 0, .int .i64 0, .int .i64 0] : List Value)[j]? := by
        intro j hj
        have h8 : (cur.toList.take ((0 + 1) * 13))[j]? = ([Value.int .i64 d, .int .i64 0, .int .i64 0, .int .i64 0, .int .i64 0, .int .i64 0, .int .i64 0, .int .i64 0, .int .i64 0, .int .i64 0, .int .i64 0, .int .i64 0, .int .i64 0] : List Value)[j]? := by rw [h7]
        rw [List.getElem?_take_of_lt (by omega)] at h8
        exact h8
      refine ⟨cur.toList, ?_, ?_, ?_, by unfold Row; simpa using hrow, hget 0 (by decide), ?_, ?_⟩
      · exact (hgrow.block R (by simp <;> omega) (by simp [Value.ownBlock])).trans (((((hR.alloc _).alloc _).drewN _).alloc _).alloc _)
      · exact (hgrow.block W.heap.size (by simp <;> omega) (by simp [Value.ownBlock])).trans (((((Row.new W 31 _).alloc _).drewN _).alloc _).alloc _)
      · refine (hgrow.block (W.heap.size + 1) (by simp <;> omega) (by simp [Value.ownBlock])).trans (((((?_ : Row _ _ 31 _)).drewN _).alloc _).alloc _)
        have h9 := Row.new (W.alloc (.cells #[.int .i64 l, .int .i64 c, .int .i64 i, .int .i64 d] 31)) 31 #[.int .i64 0, .int .i64 0, .int .i64 0, .int .i64 0]
        simpa using h9
      · intro j h1 h2
        rw [hget j h2]
        iterate 13 (rcases j with _ | j; · first | omega | rfl)
        omega
      · exact ((((((Kept.refl _ W).alloc _).alloc _).drewN _).alloc _).alloc _).grown hgrow (fun k h => by simp [Value.ownBlock] at h)
  obtain ⟨ys, hC⟩ := hC
  clear hown hgrow c13
  go_wp2_with fail
  go_cut [] from 87 (fun wc => ∃ ys, Chk W R G xs ys l c i d wc)
  case first =>
    have c5 : w1.cell? ⟨G, 5, none⟩ = some (.int .i64 0) := (hC.fr.cell 5).trans (hC.fz 5 (by decide) (by decide))
    have c6 : w1.cell? ⟨G, 6, none⟩ = some (.int .i64 0) := (hC.fr.cell 6).trans (hC.fz 6 (by decide) (by decide))
    have c7 : w1.cell? ⟨G, 7, none⟩ = some (.int .i64 0) := (hC.fr.cell 7).trans (hC.fz 7 (by decide) (by decide))
    have c8 : w1.cell? ⟨G, 8, none⟩ = some (.int .i64 0) := (hC.fr.cell 8).trans (hC.fz 8 (by decide) (by decide))
    have d0 : w1.cell? ⟨W.heap.size + 1, 0, none⟩ = some (.int .i64 0) := hC.deep.cell 0
    have d1 : w1.cell? ⟨W.heap.size + 1, 1, none⟩ = some (.int .i64 0) := hC.deep.cell 1
    have d2 : w1.cell? ⟨W.heap.size + 1, 2, none⟩ = some (.int .i64 0) := hC.deep.cell 2
    have d3 : w1.cell? ⟨W.heap.size + 1, 3, none⟩ = some (.int .i64 0) := hC.deep.cell 3
    go_region_with (go_at_call 13; refine (less_zero _).mono ?_; rintro _ w2 ⟨rfl, hb⟩; have hG2 : Row w2 G 49 ys := (hb.block G hC.fr.lt).trans hC.fr; have g5 := (hG2.cell 5).trans (hC.fz 5 (by decide) (by decide)); have g6 := (hG2.cell 6).trans (hC.fz 6 (by decide) (by decide)); have g7 := (hG2.cell 7).trans (hC.fz 7 (by decide) (by decide)); have g8 := (hG2.cell 8).trans (hC.fz 8 (by decide) (by decide)); have f5 := hG2.frozen 5; have f6 := hG2.frozen 6; have f7 := hG2.frozen 7; have f8 := hG2.frozen 8)
    all_goals go_wp2_with fail
    all_goals
      go_meet
      case rel => exact ⟨_, ((((hC.step (kept_drew hb)).setz hG hRl 5 (by decide)).setz hG hRl 6 (by decide)).setz hG hRl 7 (by decide)).setz hG hRl 8 (by decide)⟩
  case rest =>
    clear hC ys
    obtain ⟨ys, hC⟩ := hcut
    go_wp2_with fail
    go_cut [11] from 106 (fun s11 wd => ∃ X ys, s11 = .pointer (some ⟨X, 0, none⟩) ∧ Row wd X 34 [.int .i64 0, .int .i64 0, .int .i64 0, .int .i64 0, .int .i64 0, .int .i64 0] ∧ G ≠ X ∧ W.heap.size + 1 < X ∧ Chk W R G xs ys l c i d wd)
    case first =>
      have b0 : wc.cell? ⟨W.heap.size, 0, none⟩ = some (.int .i64 l) := hC.line.cell 0
      have b1 : wc.cell? ⟨W.heap.size, 1, none⟩ = some (.int .i64 c) := hC.line.cell 1
      have b2 : wc.cell? ⟨W.heap.size, 2, none⟩ = some (.int .i64 i) := hC.line.cell 2
      have b3 : wc.cell? ⟨W.heap.size, 3, none⟩ = some (.int .i64 d) := hC.line.cell 3
      have g1 := (hC.fr.cell 1).trans (hC.fz 1 (by decide) (by decide))
      have g2 := (hC.fr.cell 2).trans (hC.fz 2 (by decide) (by decide))
      have g3 := (hC.fr.cell 3).trans (hC.fz 3 (by decide) (by decide))
      have g4 := (hC.fr.cell 4).trans (hC.fz 4 (by decide) (by decide))
      have g5 := (hC.fr.cell 5).trans (hC.fz 5 (by decide) (by decide))
      have g6 := (hC.fr.cell 6).trans (hC.fz 6 (by decide) (by decide))
      have g7 := (hC.fr.cell 7).trans (hC.fz 7 (by decide) (by decide))
      have g8 := (hC.fr.cell 8).trans (hC.fz 8 (by decide) (by decide))
      have hGl := hC.fr.lt
      have hbl := hC.line.lt
      have hX0 : Row (((wc.alloc (.cells #[.int .i64 0, .int .i64 0, .int .i64 0, .int .i64 0] 31)).alloc (.cells #[.int .i64 0, .int .i64 0, .int .i64 0, .int .i64 0, .int .i64 0, .int .i64 0] 34)).drew) (wc.heap.size + 1) 34 [.int .i64 0, .int .i64 0, .int .i64 0, .int .i64 0, .int .i64 0, .int .i64 0] := by
        have h9 := Row.new (wc.alloc (.cells #[.int .i64 0, .int .i64 0, .int .i64 0, .int .i64 0] 31)) 34 #[.int .i64 0, .int .i64 0, .int .i64 0, .int .i64 0, .int .i64 0, .int .i64 0]
        have e : (wc.alloc (.cells #[.int .i64 0, .int .i64 0, .int .i64 0, .int .i64 0] 31)).heap.size = wc.heap.size + 1 := by simp
        rw [e] at h9
        exact h9.drew
      have hb1 : W.heap.size ≠ wc.heap.size + 1 := by omega
      have hG1 : G ≠ wc.heap.size + 1 := by omega
      have hh1 : wc.heap.size ≠ wc.heap.size + 1 := by omega
      have hz := Row.new wc 31 #[.int .i64 0, .int .i64 0, .int .i64 0, .int .i64 0]
      have hS0 : ((wc.alloc (.cells #[.int .i64 0, .int .i64 0, .int .i64 0, .int .i64 0] 31)).drew).cell? ⟨W.heap.size, 0, none⟩ = some (.int .i64 l) ∧ ((wc.alloc (.cells #[.int .i64 0, .int .i64 0, .int .i64 0, .int .i64 0] 31)).drew).cell? ⟨W.heap.size, 1, none⟩ = some (.int .i64 c) ∧ ((wc.alloc (.cells #[.int .i64 0, .int .i64 0, .int .i64 0, .int .i64 0] 31)).drew).cell? ⟨W.heap.size, 2, none⟩ = some (.int .i64 i) ∧ ((wc.alloc (.cells #[.int .i64 0, .int .i64 0, .int .i64 0, .int .i64 0] 31)).drew).cell? ⟨W.heap.size, 3, none⟩ = some (.int .i64 d) ∧ ((wc.alloc (.cells #[.int .i64 0, .int .i64 0, .int .i64 0, .int .i64 0] 31)).drew).cell? ⟨G, 1, none⟩ = some (.int .i64 0) ∧ ((wc.alloc (.cells #[.int .i64 0, .int .i64 0, .int .i64 0, .int .i64 0] 31)).drew).cell? ⟨G, 2, none⟩ = some (.int .i64 0) ∧ ((wc.alloc (.cells #[.int .i64 0, .int .i64 0, .int .i64 0, .int .i64 0] 31)).drew).cell? ⟨G, 3, none⟩ = some (.int .i64 0) ∧ ((wc.alloc (.cells #[.int .i64 0, .int .i64 0, .int .i64 0, .int .i64 0] 31)).drew).cell? ⟨G, 4, none⟩ = some (.int .i64 0) ∧ ((wc.alloc (.cells #[.int .i64 0, .int .i64 0, .int .i64 0, .int .i64 0] 31)).drew).cell? ⟨G, 5, none⟩ = some (.int .i64 0) ∧ ((wc.alloc (.cells #[.int .i64 0, .int .i64 0, .int .i64 0, .int .i64 0] 31)).drew).cell? ⟨G, 6, none⟩ = some (.int .i64 0) ∧ ((wc.alloc (.cells #[.int .i64 0, .int .i64 0, .int .i64 0, .int .i64 0] 31)).drew).cell? ⟨G, 7, none⟩ = some (.int .i64 0) ∧ ((wc.alloc (.cells #[.int .i64 0, .int .i64 0, .int .i64 0, .int .i64 0] 31)).drew).cell? ⟨G, 8, none⟩ = some (.int .i64 0) ∧ ((wc.alloc (.cells #[.int .i64 0, .int .i64 0, .int .i64 0, .int .i64 0] 31)).drew).cell? ⟨wc.heap.size, 0, none⟩ = some (.int .i64 0) ∧ ((wc.alloc (.cells #[.int .i64 0, .int .i64 0, .int .i64 0, .int .i64 0] 31)).drew).cell? ⟨wc.heap.size, 1, none⟩ = some (.int .i64 0) ∧ ((wc.alloc (.cells #[.int .i64 0, .int .i64 0, .int .i64 0, .int .i64 0] 31)).drew).cell? ⟨wc.heap.size, 2, none⟩ = some (.int .i64 0) ∧ ((wc.alloc (.cells #[.int .i64 0, .int .i64 0, .int .i64 0, .int .i64 0] 31)).drew).cell? ⟨wc.heap.size, 3, none⟩ = some (.int .i64 0) := ⟨ac _ b0, ac _ b1, ac _ b2, ac _ b3, ac _ g1, ac _ g2, ac _ g3, ac _ g4, ac _ g5, ac _ g6, ac _ g7, ac _ g8, hz.cell 0, hz.cell 1, hz.cell 2, hz.cell 3⟩
      clear b0 b1 b2 b3 g1 g2 g3 g4 g5 g6 g7 g8 hz
      rename_i q k2 k1 a4 nqa a3 k0 a2 j kp a1 a0
      clear a4 a3 a2 hi hz0 hz1 hz2 hR h13
      go_region_held3 (fun w' => (w').cell? ⟨W.heap.size, 0, none⟩ = some (.int .i64 l) ∧ (w').cell? ⟨W.heap.size, 1, none⟩ = some (.int .i64 c) ∧ (w').cell? ⟨W.heap.size, 2, none⟩ = some (.int .i64 i) ∧ (w').cell? ⟨W.heap.size, 3, none⟩ = some (.int .i64 d) ∧ (w').cell? ⟨G, 1, none⟩ = some (.int .i64 0) ∧ (w').cell? ⟨G, 2, none⟩ = some (.int .i64 0) ∧ (w').cell? ⟨G, 3, none⟩ = some (.int .i64 0) ∧ (w').cell? ⟨G, 4, none⟩ = some (.int .i64 0) ∧ (w').cell? ⟨G, 5, none⟩ = some (.int .i64 0) ∧ (w').cell? ⟨G, 6, none⟩ = some (.int .i64 0) ∧ (w').cell? ⟨G, 7, none⟩ = some (.int .i64 0) ∧ (w').cell? ⟨G, 8, none⟩ = some (.int .i64 0) ∧ (w').cell? ⟨wc.heap.size, 0, none⟩ = some (.int .i64 0) ∧ (w').cell? ⟨wc.heap.size, 1, none⟩ = some (.int .i64 0) ∧ (w').cell? ⟨wc.heap.size, 2, none⟩ = some (.int .i64 0) ∧ (w').cell? ⟨wc.heap.size, 3, none⟩ = some (.int .i64 0)) (first | with_reducible assumption | with_reducible exact held_alloc_drew (by assumption) | with_reducible exact held_alloc (by assumption) | with_reducible exact (held_set (held_set (held_set (held_set (held_set (held_set (by assumption) (by assumption) (by assumption) (by assumption)) (by assumption) (by assumption) (by assumption)) (by assumption) (by assumption) (by assumption)) (by assumption) (by assumption) (by assumption)) (by assumption) (by assumption) (by assumption)) (by assumption) (by assumption) (by assumption))) (first | (go_at_call 14; refine (mistake_ok l c i d hd _).mono ?_; rintro _ w2 ⟨rfl, hb⟩; have hS2 := held_below (b := W.heap.size) (G := G) (h := wc.heap.size) (l := l) (c := c) (i := i) (d := d) (by with_reducible assumption) hb; obtain ⟨n1, n2, n3⟩ := held_ne (b := W.heap.size) (G := G) (h := wc.heap.size) (l := l) (c := c) (i := i) (d := d) (by with_reducible assumption) hb; first | ((with_reducible have hnew := newest wc w2 _ hb); obtain ⟨x0, x1, x2, x3, x4, x5, y0, y1, y2, y3, y4, y5⟩ := hnew) | skip))
      all_goals go_wp2_with fail
      · go_meet
        case rel => exact rel1 _ _ _ _ _ _ hC hb n2
      · go_meet
        case rel => exact rel2 _ _ _ _ _ _ hC hb hG1
    case rest =>
      clear hC ys
      obtain ⟨X, ys, rfl, hX, hGX, hXl, hC⟩ := hcut
      have x0 : wc.cell? ⟨X, 0, none⟩ = some (.int .i64 0) := hX.cell 0
      have b0 : wc.cell? ⟨W.heap.size, 0, none⟩ = some (.int .i64 l) := hC.line.cell 0
      have b1 : wc.cell? ⟨W.heap.size, 1, none⟩ = some (.int .i64 c) := hC.line.cell 1
      have b2 : wc.cell? ⟨W.heap.size, 2, none⟩ = some (.int .i64 i) := hC.line.cell 2
      have b3 : wc.cell? ⟨W.heap.size, 3, none⟩ = some (.int .i64 d) := hC.line.cell 3
      have g1 := (hC.fr.cell 1).trans (hC.fz 1 (by decide) (by decide))
      have g2 := (hC.fr.cell 2).trans (hC.fz 2 (by decide) (by decide))
      have g3 := (hC.fr.cell 3).trans (hC.fz 3 (by decide) (by decide))
      have g4 := (hC.fr.cell 4).trans (hC.fz 4 (by decide) (by decide))
      have g9 := (hC.fr.cell 9).trans (hC.fz 9 (by decide) (by decide))
      have g10 := (hC.fr.cell 10).trans (hC.fz 10 (by decide) (by decide))
      have g11 := (hC.fr.cell 11).trans (hC.fz 11 (by decide) (by decide))
      have g12 := (hC.fr.cell 12).trans (hC.fz 12 (by decide) (by decide))
      have f1 := hC.fr.frozen 1
      have f2 := hC.fr.frozen 2
      have f3 := hC.fr.frozen 3
      have f4 := hC.fr.frozen 4
      have f9 := hC.fr.frozen 9
      have f10 := hC.fr.frozen 10
      have f11 := hC.fr.frozen 11
      have f12 := hC.fr.frozen 12
      have r13 := (hC.row.cell 13).trans h13
      have fr13 := hC.row.frozen 13
      have nRX : ¬ R = X := fun h => absurd hXl (by rw [← h]; exact Nat.not_lt.2 (Nat.le_trans (Nat.le_of_lt hRl) (Nat.le_succ _)))
      have nRG : ¬ R = G := fun h => absurd hG (by rw [← h]; exact Nat.not_le.2 (Nat.lt_of_lt_of_le hRl (Nat.le_trans (Nat.le_succ _) (Nat.le_succ _))))
      go_wp2_with fail
      have nbG : W.heap.size ≠ G := fun h => absurd hG (by rw [← h]; exact Nat.not_le.2 (Nat.lt_succ_of_lt (Nat.lt_succ_self _)))
      have hL0 : (wc.drew).cell? ⟨W.heap.size, 0, none⟩ = some (.int .i64 l) ∧ (wc.drew).cell? ⟨W.heap.size, 1, none⟩ = some (.int .i64 c) ∧ (wc.drew).cell? ⟨W.heap.size, 2, none⟩ = some (.int .i64 i) ∧ (wc.drew).cell? ⟨W.heap.size, 3, none⟩ = some (.int .i64 d) := ⟨b0, b1, b2, b3⟩
      clear b0 b1 b2 b3
      go_region_held3 (fun w' => (w').cell? ⟨W.heap.size, 0, none⟩ = some (.int .i64 l) ∧ (w').cell? ⟨W.heap.size, 1, none⟩ = some (.int .i64 c) ∧ (w').cell? ⟨W.heap.size, 2, none⟩ = some (.int .i64 i) ∧ (w').cell? ⟨W.heap.size, 3, none⟩ = some (.int .i64 d)) (first | with_reducible assumption | with_reducible exact (lsetd (lsetd (lsetd (lsetd (by assumption) nbG) nbG) nbG) nbG)) (fail)
      go_wp2_with fail
      go_ret
      exact ⟨rfl, fin_ok gc hC nRG hG⟩
end Go.Proofs.YbulkbgveFmt
