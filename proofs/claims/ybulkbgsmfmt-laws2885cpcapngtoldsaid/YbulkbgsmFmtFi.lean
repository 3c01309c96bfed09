import Derived.Test.YbulkbgsmFmtNb
import Derived.Deep.CutRange
namespace Go.Proofs.YbulkbgsmFmt
open Go.RowKit
attribute [local go_sem] m_read

theorem splice_take {vs X : List Int} {k t : Nat} (hk : k ≤ vs.length) (ht : X.length = t) : (splice vs k X).take (k + t) = vs.take k ++ X := by
  unfold splice
  rw [← List.append_assoc, List.take_append_of_le_length (by simp; omega), List.take_of_length_le (by simp; omega)]

set_option maxHeartbeats 2000000 in
set_option maxRecDepth 100000 in
/-- (*bufio.Reader).fill, octets left to read. -/
theorem fill_ok (B U Y D r v k i cap : Nat) (lb lr pr : Int) (L : List Int) (rest : List Value) (us : List Int) (w : World) (hB : Row w B 79 (bfc U Y r v .nilIface lb lr)) (hY : Row w Y 73 [.slice (some ⟨D, 0, none⟩) L.length cap, .int .i64 (i : Int), .int .i64 pr]) (hD : Row w D 5 (by8 L ++ rest)) (hi : i < L.length) (hL : L.length ≤ 4000000) (hcap : L.length ≤ cap)
    (hus : us.length = 4096) (hU : Row w U 5 (by8 us)) (hk : r + k = v) (hv : v ≤ 4096) (hk4 : k < 4096) (hBY : B ≠ Y) (hBU : B ≠ U) (hYU : Y ≠ U) (hDY : D ≠ Y) (hDB : D ≠ B) (hDU : D ≠ U) (t : Nat) (ht : ((L.drop i).take (4096 - k)).length = t) :
    Calls Ybaf.prog 25 #[.pointer (some ⟨B, 0, none⟩)] w fun e w' => e = .returned (.tuple #[]) ∧
      (∃ lb lr : Int, Row w' B 79 (bfc U Y 0 (k + t) .nilIface lb lr)) ∧ Row w' Y 73 [.slice (some ⟨D, 0, none⟩) L.length cap, .int .i64 ((i : Int) + (t : Int)), .int .i64 (-1)] ∧ (∃ vs : List Int, vs.length = 4096 ∧ Row w' U 5 (by8 vs) ∧ vs.take (k + t) = (us.drop r).take k ++ (L.drop i).take (4096 - k)) ∧ Kept (fun k => k = B ∨ k = Y ∨ k = U) w w' := by
  go_enter Ybaf.func25, Ybaf.ntmps25
  have c0 : w.cell? ⟨B, 0, none⟩ = some (.slice (some ⟨U, 0, none⟩) 4096 4096) := hB.cell 0
  have c2 : w.cell? ⟨B, 2, none⟩ = some (.int .i64 (r : Int)) := hB.cell 2
  have c3 : w.cell? ⟨B, 3, none⟩ = some (.int .i64 (v : Int)) := hB.cell 3
  have f2 := hB.frozen 2
  have f3 := hB.frozen 3
  have hr0 : (0 : Int) ≤ (r : Int) := by omega
  have hr1 : (r : Int) ≤ (v : Int) := by omega
  have hr2 : (v : Int) ≤ 4096 := by omega
  have hwv : IntKind.i64.wrap ((v : Int) - (r : Int)) = (k : Int) := by rw [show (v : Int) - (r : Int) = (k : Int) by omega]; exact IntWalk.i64_in _ (by omega)
  go_upto_if 9 with fail
  go_cut [] from 5 (fun wc => ∃ vs : List Int, vs.length = 4096 ∧ Row wc U 5 (by8 vs) ∧ vs.take k = (us.drop r).take k ∧ Row wc B 79 (bfc U Y 0 k .nilIface lb lr) ∧ Kept (fun k => k = B ∨ k = U) w wc)
  case first =>
    by_cases hz : r = 0
    · subst hz
      obtain rfl : k = v := by omega
      have HF : Hid (Row w U 5 (by8 us) ∧ Row w B 79 (bfc U Y 0 k .nilIface lb lr)) := ⟨hU, hB⟩
      clear hU hB hY hD
      go_wp2_with fail
      go_meet
      case rel => exact ⟨us, hus, HF.out.1, by simp, HF.out.2, Kept.refl _ _⟩
    · have hz' : (0 : Int) < (r : Int) := by omega
      by_cases hr4 : r = 4096
      · subst hr4
        obtain rfl : k = 0 := by omega
        obtain rfl : v = 4096 := by omega
        have hlen : ((us.drop 4096).take 0).length = 0 := by simp
        have hvk : 4096 - 4096 = 0 := by omega
        have nU : U ≠ B := fun h => hBU h.symm
        go_wp2_with fail
        refine still_tail 17 mixed (by kernel_rfl) ?_
        simp only [List.take_succ_cons, List.take_zero, List.drop_succ_cons, List.drop_zero]
        repeat still_step
        try refine wpStill_nil ?_
        have hUd : Row w.drew U 5 (by8 us) := hU
        have hBd : Row w.drew B 79 (bfc U Y 4096 4096 .nilIface lb lr) := hB
        have hUa : Row w.drew U 5 (by8 us ++ []) := by rw [List.append_nil]; exact hU
        refine wpList_copy_kept rfl (.tmp 13) (.tmp 26) 24 24 rfl 5 Ybaf.underlying24 Ybaf.size5 _ _ _ _ _ _ rfl rfl U 0 (by8 us) 5 hUd (by8 ((us.drop 4096).take 0)) ?c1 ?c2 ?c3 (by8_one _) ?_
        case c1 => rw [by8_len, hlen]; exact (Nat.min_eq_left (by omega)).symm
        case c2 =>
          intro h0
          rw [by8_len, hlen] at h0
          omega
        case c3 => rw [by8_len, by8_len, hlen]; omega
        rw [by8_len, hlen, by8_splice]
        intro w2 hU2 hk2
        have hB2 := hBd.kept hk2 hBU
        have hkk : Kept (fun k => k = B ∨ k = U) w w2 := ((Kept.refl _ w).drew).trans (hk2.mono (fun _ _ h => .inr h))
        have hul : (splice us 0 ((us.drop 4096).take 0)).length = 4096 := by rw [length_splice _ _ _ (by omega)]; exact hus
        have hut : (splice us 0 ((us.drop 4096).take 0)).take 0 = (us.drop 4096).take 0 := by simp [splice]
        generalize splice us 0 ((us.drop 4096).take 0) = vs at hU2 hul hut
        have d2 : w2.cell? ⟨B, 2, none⟩ = some (.int .i64 (4096 : Int)) := hB2.cell 2
        have d3 : w2.cell? ⟨B, 3, none⟩ = some (.int .i64 (4096 : Int)) := hB2.cell 3
        have g2 := hB2.frozen 2
        have g3 := hB2.frozen 3
        have HF : Hid (Row w2 U 5 (by8 vs) ∧ Row w2 B 79 (bfc U Y 4096 4096 .nilIface lb lr) ∧ Kept (fun k => k = B ∨ k = U) w w2) := ⟨hU2, hB2, hkk⟩
        clear hU hB hY hD hUd hBd hUa hU2 hB2 hk2 hkk c0 c2 c3 f2 f3
        go_wp2_with fail
        refine still_tail 11 mixed (by kernel_rfl) ?_
        simp only [List.take_succ_cons, List.take_zero, List.drop_succ_cons, List.drop_zero]
        repeat still_step
        try refine wpStill_nil ?_
        go_wp2_with fail
        go_meet
        case rel => exact ⟨vs, hul, Row.drew ((HF.out.1.other B 3 _ nU).other B 2 _ nU), hut, Row.drew ((HF.out.2.1.set 3 (.int .i64 (0 : Int))).set 2 (.int .i64 0)), Kept.drew ((HF.out.2.2.setCell (g := B) (j := 3) (fun _ => .inl rfl) _).setCell (g := B) (j := 2) (fun _ => .inl rfl) _)⟩
      · have hr4' : ¬ 4096 = r := by omega
        have hlen : ((us.drop r).take k).length = k := by simp [hus]; omega
        have hvk : v - r = k := by omega
        have nU : U ≠ B := fun h => hBU h.symm
        go_wp2_with fail
        refine still_tail 17 mixed (by kernel_rfl) ?_
        simp only [List.take_succ_cons, List.take_zero, List.drop_succ_cons, List.drop_zero]
        repeat still_step
        try refine wpStill_nil ?_
        have hUd : Row w.drew U 5 (by8 us) := hU
        have hBd : Row w.drew B 79 (bfc U Y r v .nilIface lb lr) := hB
        have hUa : Row w.drew U 5 (by8 us ++ []) := by rw [List.append_nil]; exact hU
        refine wpList_copy_kept rfl (.tmp 13) (.tmp 26) 24 24 rfl 5 Ybaf.underlying24 Ybaf.size5 _ _ _ _ _ _ rfl rfl U 0 (by8 us) 5 hUd (by8 ((us.drop r).take k)) ?c1 ?c2 ?c3 (by8_one _) ?_
        case c1 => rw [by8_len, hlen]; exact (Nat.min_eq_left (by omega)).symm
        case c2 =>
          intro h0
          rw [by8_len, hlen] at h0
          exact ⟨rfl, _, rfl, by8_at hUa r k⟩
        case c3 => rw [by8_len, by8_len, hlen]; omega
        rw [by8_len, hlen, by8_splice]
        intro w2 hU2 hk2
        have hB2 := hBd.kept hk2 hBU
        have hkk : Kept (fun k => k = B ∨ k = U) w w2 := ((Kept.refl _ w).drew).trans (hk2.mono (fun _ _ h => .inr h))
        have hul : (splice us 0 ((us.drop r).take k)).length = 4096 := by rw [length_splice _ _ _ (by omega)]; exact hus
        have hut : (splice us 0 ((us.drop r).take k)).take k = (us.drop r).take k := by simp [splice, hlen]
        generalize splice us 0 ((us.drop r).take k) = vs at hU2 hul hut
        have d2 : w2.cell? ⟨B, 2, none⟩ = some (.int .i64 (r : Int)) := hB2.cell 2
        have d3 : w2.cell? ⟨B, 3, none⟩ = some (.int .i64 (v : Int)) := hB2.cell 3
        have g2 := hB2.frozen 2
        have g3 := hB2.frozen 3
        have HF : Hid (Row w2 U 5 (by8 vs) ∧ Row w2 B 79 (bfc U Y r v .nilIface lb lr) ∧ Kept (fun k => k = B ∨ k = U) w w2) := ⟨hU2, hB2, hkk⟩
        clear hU hB hY hD hUd hBd hUa hU2 hB2 hk2 hkk c0 c2 c3 f2 f3
        go_wp2_with fail
        refine still_tail 11 mixed (by kernel_rfl) ?_
        simp only [List.take_succ_cons, List.take_zero, List.drop_succ_cons, List.drop_zero]
        repeat still_step
        try refine wpStill_nil ?_
        go_wp2_with fail
        go_meet
        case rel => exact ⟨vs, hul, Row.drew ((HF.out.1.other B 3 _ nU).other B 2 _ nU), hut, Row.drew ((HF.out.2.1.set 3 (.int .i64 (k : Int))).set 2 (.int .i64 0)), Kept.drew ((HF.out.2.2.setCell (g := B) (j := 3) (fun _ => .inl rfl) _).setCell (g := B) (j := 2) (fun _ => .inl rfl) _)⟩
  case rest =>
    obtain ⟨vs, hvl, hU1, hvt, hB1, hk1⟩ := hcut
    have hY1 := hY.kept hk1 (fun h => h.elim (fun h => hBY h.symm) hYU)
    have hD1 := hD.kept hk1 (fun h => h.elim hDB hDU)
    clear hB hY hD hU c0 c2 c3 f2 f3 hwv hr0 hr1 hr2
    have c0 : wc.cell? ⟨B, 0, none⟩ = some (.slice (some ⟨U, 0, none⟩) 4096 4096) := hB1.cell 0
    have c1 : wc.cell? ⟨B, 1, none⟩ = some (.iface 34 (.pointer (some ⟨Y, 0, none⟩))) := hB1.cell 1
    have c3 : wc.cell? ⟨B, 3, none⟩ = some (.int .i64 (k : Int)) := hB1.cell 3
    have f3 := hB1.frozen 3
    have hk5 : ¬ (4096 : Int) ≤ (k : Int) := by omega
    have hk6 : (0 : Int) ≤ (k : Int) := by omega
    have hk7 : (k : Int) ≤ 4096 := by omega
    have hk8 : ¬ 4096 = k := by omega
    go_wp2_with fail
    go_quiet (fail)
    go_wp2_with fail
    refine wp_loop_rounds 1 ?_
    rw [rounds_succ]
    go_wp2_with fail
    have hYd : Row (wc.drewN nq).drew Y 73 [.slice (some ⟨D, 0, none⟩) L.length cap, .int .i64 (i : Int), .int .i64 pr] := hY1
    have hUd : Row (wc.drewN nq).drew U 5 (by8 vs) := hU1
    have hDd : Row (wc.drewN nq).drew D 5 (by8 L ++ rest) := hD1
    have hBd : Row (wc.drewN nq).drew B 79 (bfc U Y 0 k .nilIface lb lr) := hB1
    have hkd : Kept (fun k => k = B ∨ k = Y ∨ k = U) w (wc.drewN nq).drew := (hk1.mono (fun _ _ h => h.elim .inl (fun h => .inr (.inr h)))).drewN nq |>.drew
    have hu : k + (4096 - k) ≤ (by8 vs).length := by rw [by8_len]; omega
    have HBd : Hid (Row (wc.drewN nq).drew B 79 (bfc U Y 0 k .nilIface lb lr) ∧ Kept (fun k => k = B ∨ k = Y ∨ k = U) w (wc.drewN nq).drew) := ⟨hBd, hkd⟩
    clear hBd hkd
    go_cut [3, 4] from 53 to 94 (fun s3 s4 wd => s3 = .int .i64 (t : Int) ∧ s4 = .nilIface ∧ Row wd B 79 (bfc U Y 0 k .nilIface lb lr) ∧ Row wd Y 73 [.slice (some ⟨D, 0, none⟩) L.length cap, .int .i64 ((i : Int) + (t : Int)), .int .i64 (-1)] ∧ Row wd U 5 (by8 (splice vs k ((L.drop i).take (4096 - k)))) ∧ Kept (fun k => k = B ∨ k = Y ∨ k = U) w wd)
    case first =>
      go_region_with (go_at_call 57; refine (rd_read Y D U k (4096 - k) (4096 - k) cap i pr L rest (by8 vs) _ hYd hi hL hcap hDd hUd hu hYU hDY t ht).mono ?_; rintro _ w2 ⟨rfl, hY2, hU2, hk2⟩; have hB2 := HBd.out.1.kept hk2 (fun h => h.elim hBY hBU); have hkk := HBd.out.2.trans (hk2.mono (fun _ _ h => .inr h)); clear hk2)
      all_goals go_wp2_with fail
      all_goals
        go_meet
        case rel => exact ⟨rfl, rfl, hB2, hY2, by rw [← by8_splice]; exact hU2, hkk⟩
    case rest =>
      clear hYd hUd hDd HBd hB1 hY1 hU1 hD1 hk1 c0 c1 c3 f3
      obtain ⟨rfl, rfl, hB2, hY2, hU2, hk2⟩ := hcut
      have ht0 : 0 < t := by rw [← ht]; simp; omega
      have ht4 : k + t ≤ 4096 := by rw [← ht]; simp; omega
      have d3 : wc.cell? ⟨B, 3, none⟩ = some (.int .i64 (k : Int)) := hB2.cell 3
      have g3 := hB2.frozen 3
      have hwt : IntKind.i64.wrap ((k : Int) + (t : Int)) = (k : Int) + (t : Int) := IntWalk.i64_in _ (by omega)
      have ht1 : ¬ (t : Int) < 0 := by omega
      have ht2 : (0 : Int) < (t : Int) := by omega
      have nY : Y ≠ B := fun h => hBY h.symm
      have nU : U ≠ B := fun h => hBU h.symm
      have HF : Hid (Row (wc.setCell ⟨B, 3, none⟩ (.int .i64 ((k : Int) + (t : Int)))) B 79 (bfc U Y 0 (k + t) .nilIface lb lr) ∧ Row (wc.setCell ⟨B, 3, none⟩ (.int .i64 ((k : Int) + (t : Int)))) Y 73 [.slice (some ⟨D, 0, none⟩) L.length cap, .int .i64 ((i : Int) + (t : Int)), .int .i64 (-1)] ∧ Row (wc.setCell ⟨B, 3, none⟩ (.int .i64 ((k : Int) + (t : Int)))) U 5 (by8 (splice vs k ((L.drop i).take (4096 - k)))) ∧ Kept (fun k => k = B ∨ k = Y ∨ k = U) w (wc.setCell ⟨B, 3, none⟩ (.int .i64 ((k : Int) + (t : Int))))) := by
        refine ⟨?_, hY2.other B 3 _ nY, hU2.other B 3 _ nU, hk2.setCell (g := B) (j := 3) (fun _ => .inl rfl) _⟩
        have h1 := hB2.set 3 (.int .i64 ((k : Int) + (t : Int)))
        simpa [bfc] using h1
      clear hB2 hY2 hU2 hk2
      go_wp2_with fail
      refine bodyPost_ret (v := .tuple #[]) (results_none rfl _ _ _) rfl ?_
      refine ⟨rfl, ⟨lb, lr, HF.out.1⟩, HF.out.2.1, ⟨_, ?_, HF.out.2.2.1, ?_⟩, HF.out.2.2.2⟩
      · rw [length_splice _ _ _ (by rw [ht]; omega)]; exact hvl
      · rw [splice_take (by omega) ht, hvt]
end Go.Proofs.YbulkbgsmFmt
