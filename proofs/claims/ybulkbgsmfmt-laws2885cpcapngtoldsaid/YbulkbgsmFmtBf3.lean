import Derived.Test.YbulkbgsmFmtBf2
namespace Go.Proofs.YbulkbgsmFmt
open Go.RowKit
attribute [local go_sem] m_read

set_option maxHeartbeats 2000000 in
set_option maxRecDepth 100000 in
/-- (*bufio.Reader).Read, the buffer empty: it is filled, then read from. -/
theorem bf_small (B U Y D P off n c v i cap : Nat) (lb lr pr : Int) (L : List Int) (rest : List Value) (us : List Int) (ps : List Value) (w : World) (hB : Row w B 79 (bfc U Y v v .nilIface lb lr)) (hY : Row w Y 73 [.slice (some ⟨D, 0, none⟩) L.length cap, .int .i64 (i : Int), .int .i64 pr]) (hD : Row w D 5 (by8 L ++ rest)) (hi : i < L.length) (hL : L.length ≤ 4000000) (hcap : L.length ≤ cap)
    (hus : us.length = 4096) (hU : Row w U 5 (by8 us)) (hn : 0 < n) (hen : n < 4096) (hP : Row w P 5 ps) (hfit : off + n ≤ ps.length) (hBY : B ≠ Y) (hBU : B ≠ U) (hBP : B ≠ P) (hYU : Y ≠ U) (hYP : Y ≠ P) (hDY : D ≠ Y) (hUP : U ≠ P) (hDB : D ≠ B) (t : Nat) (ht : ((L.drop i).take 4096).length = t) (m : Nat) (hm : Nat.min t n = m) :
    Calls Ybaf.prog 66 #[.pointer (some ⟨B, 0, none⟩), .slice (some ⟨P, off, none⟩) n c] w fun e w' => e = .returned (.tuple #[.int .i64 (m : Int), .nilIface]) ∧
      (∃ lb lr : Int, Row w' B 79 (bfc U Y m t .nilIface lb lr)) ∧ Row w' Y 73 [.slice (some ⟨D, 0, none⟩) L.length cap, .int .i64 ((i : Int) + (t : Int)), .int .i64 (-1)] ∧ Row w' U 5 (by8 (splice us 0 ((L.drop i).take 4096))) ∧ Row w' P 5 (splice ps off (by8 ((L.drop i).take m))) ∧ Kept (fun k => k = B ∨ k = Y ∨ k = U ∨ k = P) w w' := by
  go_enter Ybaf.func66, Ybaf.ntmps66
  have c0 : w.cell? ⟨B, 0, none⟩ = some (.slice (some ⟨U, 0, none⟩) 4096 4096) := hB.cell 0
  have c1 : w.cell? ⟨B, 1, none⟩ = some (.iface 34 (.pointer (some ⟨Y, 0, none⟩))) := hB.cell 1
  have c2 : w.cell? ⟨B, 2, none⟩ = some (.int .i64 (v : Int)) := hB.cell 2
  have c3 : w.cell? ⟨B, 3, none⟩ = some (.int .i64 (v : Int)) := hB.cell 3
  have c4 : w.cell? ⟨B, 4, none⟩ = some .nilIface := hB.cell 4
  have f2 := hB.frozen 2
  have f3 := hB.frozen 3
  have f4 := hB.frozen 4
  have hn0 : ¬ (n : Int) = 0 := by omega
  have hn1 : (n : Int) < 4096 := by omega
  go_wp2_with fail
  go_quiet (fail)
  go_wp2_with fail
  go_cut [4] from 6 (fun s4 wc => s4 = .int .i64 (t : Int) ∧ Row wc B 79 (bfc U Y 0 0 .nilIface lb lr) ∧ Row wc Y 73 [.slice (some ⟨D, 0, none⟩) L.length cap, .int .i64 ((i : Int) + (t : Int)), .int .i64 (-1)] ∧ Row wc U 5 (by8 (splice us 0 ((L.drop i).take 4096))) ∧ Row wc P 5 ps ∧ Kept (fun k => k = B ∨ k = Y ∨ k = U) w wc)
  case first =>
    have hBd : Hid (Row (((w.drewN nq).setCell ⟨B, 2, none⟩ (.int .i64 0)).setCell ⟨B, 3, none⟩ (.int .i64 0)).drew B 79 (bfc U Y 0 0 .nilIface lb lr)) := (((hB.drewN nq).set 2 (.int .i64 0)).set 3 (.int .i64 0)).drew
    have hYd : Row (((w.drewN nq).setCell ⟨B, 2, none⟩ (.int .i64 0)).setCell ⟨B, 3, none⟩ (.int .i64 0)).drew Y 73 [.slice (some ⟨D, 0, none⟩) L.length cap, .int .i64 (i : Int), .int .i64 pr] := (((hY.drewN nq).other B 2 _ (fun h => hBY h.symm)).other B 3 _ (fun h => hBY h.symm)).drew
    have hDd : Row (((w.drewN nq).setCell ⟨B, 2, none⟩ (.int .i64 0)).setCell ⟨B, 3, none⟩ (.int .i64 0)).drew D 5 (by8 L ++ rest) := (((Row.drewN hD nq).other B 2 _ hDB).other B 3 _ hDB).drew
    have hUd : Row (((w.drewN nq).setCell ⟨B, 2, none⟩ (.int .i64 0)).setCell ⟨B, 3, none⟩ (.int .i64 0)).drew U 5 (by8 us) := (((hU.drewN nq).other B 2 _ (fun h => hBU h.symm)).other B 3 _ (fun h => hBU h.symm)).drew
    have hPd : Hid (Row (((w.drewN nq).setCell ⟨B, 2, none⟩ (.int .i64 0)).setCell ⟨B, 3, none⟩ (.int .i64 0)).drew P 5 ps) := (((hP.drewN nq).other B 2 _ (fun h => hBP h.symm)).other B 3 _ (fun h => hBP h.symm)).drew
    have hkd : Hid (Kept (fun k => k = B ∨ k = Y ∨ k = U) w (((w.drewN nq).setCell ⟨B, 2, none⟩ (.int .i64 0)).setCell ⟨B, 3, none⟩ (.int .i64 0)).drew) := (((Kept.refl _ w).drewN nq).setCell (g := B) (j := 2) (fun _ => .inl rfl) (.int .i64 0) |>.setCell (g := B) (j := 3) (fun _ => .inl rfl) (.int .i64 0)).drew
    have hu : 0 + 4096 ≤ (by8 us).length := by rw [by8_len]; omega
    go_region_with (go_at_call 57; refine (rd_read Y D U 0 4096 4096 cap i pr L rest (by8 us) _ hYd hi hL hcap hDd hUd hu hYU hDY t ht).mono ?_; rintro _ w2 ⟨rfl, hY2, hU2, hk2⟩; have hB2 := hBd.out.kept hk2 (fun h => h.elim hBY hBU); have hP2 := hPd.out.kept hk2 (fun h => h.elim (fun h => hYP h.symm) (fun h => hUP h.symm)); have hkk := hkd.out.trans (hk2.mono (fun _ _ h => .inr h)); have e4 : w2.cell? ⟨B, 4, none⟩ = some .nilIface := hB2.cell 4; have g4 := hB2.frozen 4; clear hk2)
    all_goals go_wp2_with fail
    all_goals
      go_meet
      case rel => exact ⟨rfl, hB2.set 4 _, hY2.other B 4 _ (fun h => hBY h.symm), by rw [← by8_splice]; exact hU2.other B 4 _ (fun h => hBU h.symm), hP2.other B 4 _ (fun h => hBP h.symm), hkk.setCell (g := B) (j := 4) (fun _ => .inl rfl) _⟩
  case rest =>
    obtain ⟨rfl, hB1, hY1, hU1, hP1, hk1⟩ := hcut
    clear hB hY hD hU hP c0 c1 c2 c3 c4 f2 f3 f4
    generalize hvs : splice us 0 ((L.drop i).take 4096) = vs at hU1 ⊢
    have hvl : vs.length = 4096 := by rw [← hvs, length_splice _ _ _ (by rw [ht, hus]; rw [← ht]; simp; omega)]; exact hus
    have ht4 : t ≤ 4096 := by rw [← ht]; simp; omega
    have ht0 : 0 < t := by rw [← ht]; simp; omega
    have htv : vs.take t = (L.drop i).take 4096 := by
      rw [← hvs]
      simp [splice, ← ht]
    have c0 : wc.cell? ⟨B, 0, none⟩ = some (.slice (some ⟨U, 0, none⟩) 4096 4096) := hB1.cell 0
    have c2 : wc.cell? ⟨B, 2, none⟩ = some (.int .i64 (0 : Int)) := hB1.cell 2
    have c3 : wc.cell? ⟨B, 3, none⟩ = some (.int .i64 (0 : Int)) := hB1.cell 3
    have f3 := hB1.frozen 3
    have hwt : IntKind.i64.wrap (t : Int) = (t : Int) := IntWalk.i64_in _ (by omega)
    have ht1 : ¬ (t : Int) = 0 := by omega
    have ht2 : ¬ (t : Int) < 0 := by omega
    have ht3 : (t : Int) ≤ 4096 := by omega
    have ht5 : (0 : Int) ≤ (t : Int) := by omega
    go_wp2_with fail
    have hm2 : m ≤ t := by rw [← hm]; exact Nat.min_le_left _ _
    have hm3 : m ≤ n := by rw [← hm]; exact Nat.min_le_right _ _
    have hm4 : 0 < m := by
      rw [← hm]
      exact Nat.lt_min.2 ⟨ht0, hn⟩
    have nY : Y ≠ B := fun h => hBY h.symm
    have nP : P ≠ B := fun h => hBP h.symm
    have nU : U ≠ B := fun h => hBU h.symm
    have hB2 : Row (wc.setCell ⟨B, 3, none⟩ (.int .i64 (t : Int))) B 79 (bfc U Y 0 t .nilIface lb lr) := hB1.set 3 _
    have hY2 := hY1.other B 3 (.int .i64 (t : Int)) nY
    have hU2 := hU1.other B 3 (.int .i64 (t : Int)) nU
    have hP2 := hP1.other B 3 (.int .i64 (t : Int)) nP
    have hk2 := (hk1.mono (q := fun k => k = B ∨ k = Y ∨ k = U ∨ k = P) (fun _ _ h => h.elim .inl (fun h => h.elim (fun h => .inr (.inl h)) (fun h => .inr (.inr (.inl h)))))).setCell (g := B) (j := 3) (fun _ => .inl rfl) (.int .i64 (t : Int))
    generalize wc.setCell ⟨B, 3, none⟩ (.int .i64 (t : Int)) = w2 at hB2 hY2 hU2 hP2 hk2 ⊢
    clear hB1 hY1 hU1 hP1 hk1 c0 c2 c3 f3
    have c0 : w2.cell? ⟨B, 0, none⟩ = some (.slice (some ⟨U, 0, none⟩) 4096 4096) := hB2.cell 0
    have c2 : w2.cell? ⟨B, 2, none⟩ = some (.int .i64 (0 : Int)) := hB2.cell 2
    have c3 : w2.cell? ⟨B, 3, none⟩ = some (.int .i64 (t : Int)) := hB2.cell 3
    have hlen : (vs.take m).length = m := by simp [hvl]; omega
    have hwr : IntKind.i64.wrap (m : Int) = (m : Int) := IntWalk.i64_in _ (by omega)
    obtain ⟨q, hq⟩ : ∃ q : Nat, q + 1 = m := ⟨m - 1, by omega⟩
    have hwq : IntKind.i64.wrap ((m : Int) - 1) = (q : Int) := by rw [show (m : Int) - 1 = (q : Int) by omega]; exact IntWalk.i64_in _ (by omega)
    have hq1 : (q : Int) < 4096 := by omega
    have hq2 : (0 : Int) ≤ (q : Int) := by omega
    have hq3 : q < vs.length := by omega
    refine still_tail 14 mixed (by kernel_rfl) ?_
    simp only [List.take_succ_cons, List.take_zero, List.drop_succ_cons, List.drop_zero]
    repeat still_step
    try refine wpStill_nil ?_
    have hBd : Row w2.drew B 79 (bfc U Y 0 t .nilIface lb lr) := hB2
    have hPd : Row w2.drew P 5 ps := hP2
    have hUd : Row w2.drew U 5 (by8 vs ++ []) := by rw [List.append_nil]; exact hU2
    have hYd := Row.drew hY2
    have hkd := Kept.drew hk2
    refine wpList_copy_kept rfl (.tmp 109) (.tmp 122) 24 24 rfl 5 Ybaf.underlying24 Ybaf.size5 _ _ _ _ _ _ rfl rfl P off ps 5 hPd (by8 (vs.take m)) ?c1 ?c2 ?c3 (by8_one _) ?_
    case c1 => rw [by8_len, hlen]; exact hm.symm
    case c2 => exact fun _ => ⟨rfl, _, rfl, by8_at hUd 0 m⟩
    case c3 => rw [by8_len, hlen]; omega
    rw [by8_len, hlen]
    intro w' hP' hk'
    have hB' := hBd.kept hk' hBP
    have hY' := hYd.kept hk' hYP
    have hU' : Row w' U 5 (by8 vs) := by
      have := hUd.kept hk' hUP
      rwa [List.append_nil] at this
    have hk0 := hkd.trans (hk'.mono (q := fun k => k = B ∨ k = Y ∨ k = U ∨ k = P) (fun _ _ h => .inr (.inr (.inr h))))
    have d0 : w'.cell? ⟨B, 0, none⟩ = some (.slice (some ⟨U, 0, none⟩) 4096 4096) := hB'.cell 0
    have d2 : w'.cell? ⟨B, 2, none⟩ = some (.int .i64 (0 : Int)) := hB'.cell 2
    have d5 : w'.cell? ⟨B, 5, none⟩ = some (.int .i64 lb) := hB'.cell 5
    have d6 : w'.cell? ⟨B, 6, none⟩ = some (.int .i64 lr) := hB'.cell 6
    have g2 := hB'.frozen 2
    have g5 := hB'.frozen 5
    have g6 := hB'.frozen 6
    have u1 : w'.cell? ⟨U, q, none⟩ = some (.int .u8 vs[q]) := (hU'.cell q).trans (by simp [by8, hq3])
    generalize vs[q] = x at u1
    clear hBd hPd hUd hk' hB2 hP2 hU2 hY2 hk2 c0 c2 c3 hkd hYd
    have htm : (L.drop i).take m = vs.take m := by
      have := congrArg (List.take m) htv
      simp only [List.take_take] at this
      rw [Nat.min_eq_left hm2, Nat.min_eq_left (by omega)] at this
      exact this.symm
    go_wp2_with fail
    refine still_tail 15 mixed (by kernel_rfl) ?_
    simp only [List.take_succ_cons, List.take_zero, List.drop_succ_cons, List.drop_zero]
    repeat still_step
    try refine wpStill_nil ?_
    go_wp2_with fail
    go_ret2
    rw [htm, hvs]
    refine ⟨rfl, ⟨wrap64 x, -1, ?_⟩, ?_, ?_, ?_, ?_⟩
    · exact (((hB'.set 2 (.int .i64 (m : Int))).set 5 (.int .i64 (wrap64 x))).set 6 (.int .i64 (-1))).drew
    · exact Row.drew (((hY'.other B 2 _ nY).other B 5 _ nY).other B 6 _ nY)
    · exact Row.drew (((hU'.other B 2 _ nU).other B 5 _ nU).other B 6 _ nU)
    · exact Row.drew (((hP'.other B 2 _ nP).other B 5 _ nP).other B 6 _ nP)
    · exact Kept.drew (((hk0.setCell (g := B) (j := 2) (fun _ => .inl rfl) _).setCell (g := B) (j := 5) (fun _ => .inl rfl) _).setCell (g := B) (j := 6) (fun _ => .inl rfl) _)
end Go.Proofs.YbulkbgsmFmt
