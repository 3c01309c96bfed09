import Derived.Test.YbulkbgsmFmtFi
namespace Go.Proofs.YbulkbgsmFmt
open Go.RowKit

set_option maxHeartbeats 1000000 in
set_option maxRecDepth 100000 in
/-- (*bufio.Reader).Peek, the octets in the buffer already. -/
theorem peek_a (B U Y r v n : Nat) (lb lr : Int) (w : World) (hB : Row w B 79 (bfc U Y r v .nilIface lb lr)) (hv : v ≤ 4096) (hn : r + n ≤ v) (hn0 : 0 < n) :
    Calls Ybaf.prog 17 #[.pointer (some ⟨B, 0, none⟩), .int .i64 (n : Int)] w fun e w' => e = .returned (.tuple #[.slice (some ⟨U, r, none⟩) n (4096 - r), .nilIface]) ∧ Row w' B 79 (bfc U Y r v .nilIface (-1) (-1)) ∧ Kept (fun k => k = B) w w' := by
  go_enter Ybaf.func17, Ybaf.ntmps17
  have c5 : w.cell? ⟨B, 5, none⟩ = some (.int .i64 lb) := hB.cell 5
  have c6 : w.cell? ⟨B, 6, none⟩ = some (.int .i64 lr) := hB.cell 6
  have f5 := hB.frozen 5
  have f6 := hB.frozen 6
  have hn1 : ¬ (n : Int) < 0 := by omega
  go_wp2_with fail
  have hB1 : Row ((w.setCell ⟨B, 5, none⟩ (.int .i64 (-1))).setCell ⟨B, 6, none⟩ (.int .i64 (-1))) B 79 (bfc U Y r v .nilIface (-1) (-1)) := (hB.set 5 _).set 6 _
  have hk1 : Kept (fun k => k = B) w ((w.setCell ⟨B, 5, none⟩ (.int .i64 (-1))).setCell ⟨B, 6, none⟩ (.int .i64 (-1))) := ((Kept.refl (fun k => k = B) w).setCell (g := B) (j := 5) (fun _ => rfl) _).setCell (g := B) (j := 6) (fun _ => rfl) _
  generalize (w.setCell ⟨B, 5, none⟩ (.int .i64 (-1))).setCell ⟨B, 6, none⟩ (.int .i64 (-1)) = w1 at hB1 hk1 ⊢
  clear hB c5 c6 f5 f6
  have c0 : w1.cell? ⟨B, 0, none⟩ = some (.slice (some ⟨U, 0, none⟩) 4096 4096) := hB1.cell 0
  have c2 : w1.cell? ⟨B, 2, none⟩ = some (.int .i64 (r : Int)) := hB1.cell 2
  have c3 : w1.cell? ⟨B, 3, none⟩ = some (.int .i64 (v : Int)) := hB1.cell 3
  obtain ⟨k, hk⟩ : ∃ k : Nat, r + k = v := ⟨v - r, by omega⟩
  have hwv : IntKind.i64.wrap ((v : Int) - (r : Int)) = (k : Int) := by rw [show (v : Int) - (r : Int) = (k : Int) by omega]; exact IntWalk.i64_in _ (by omega)
  have hkn : decide (k < n) = false := decide_eq_false (by omega)
  have hn4 : ¬ (4096 : Int) < (n : Int) := by omega
  have hwr : IntKind.i64.wrap ((r : Int) + (n : Int)) = (r : Int) + (n : Int) := IntWalk.i64_in _ (by omega)
  have hr0 : (0 : Int) ≤ (r : Int) := by omega
  have hr1 : (r : Int) ≤ (r : Int) + (n : Int) := by omega
  have hr2 : (r : Int) + (n : Int) ≤ 4096 := by omega
  have hr3 : ¬ 4096 = r := by omega
  have HF : Hid (Row w1 B 79 (bfc U Y r v .nilIface (-1) (-1)) ∧ Kept (fun k => k = B) w w1) := ⟨hB1, hk1⟩
  clear hB1 hk1
  refine wp_loop_rounds 1 ?_
  rw [rounds_succ]
  go_wp2_with fail
  go_quiet (fail)
  go_wp2_with fail
  go_quiet (fail)
  go_wp2_with fail
  go_quiet (fail)
  go_wp2_with fail
  go_ret2
  refine ⟨?_, HF.out.1, (HF.out.2.drewN _).drewN _⟩
  simp [Nat.add_sub_cancel_left]

set_option maxHeartbeats 1000000 in
set_option maxRecDepth 100000 in
/-- (*bufio.Reader).Peek, the buffer filled once. -/
theorem peek_b (B U Y D r v k i cap n : Nat) (lb lr pr : Int) (L : List Int) (rest : List Value) (us : List Int) (w : World) (hB : Row w B 79 (bfc U Y r v .nilIface lb lr)) (hY : Row w Y 73 [.slice (some ⟨D, 0, none⟩) L.length cap, .int .i64 (i : Int), .int .i64 pr]) (hD : Row w D 5 (by8 L ++ rest)) (hi : i < L.length) (hL : L.length ≤ 4000000) (hcap : L.length ≤ cap)
    (hus : us.length = 4096) (hU : Row w U 5 (by8 us)) (hk : r + k = v) (hv : v ≤ 4096) (hkn : k < n) (hn : n ≤ 4096) (hBY : B ≠ Y) (hBU : B ≠ U) (hYU : Y ≠ U) (hDY : D ≠ Y) (hDB : D ≠ B) (hDU : D ≠ U) (t : Nat) (ht : ((L.drop i).take (4096 - k)).length = t) (hnt : n ≤ k + t) :
    Calls Ybaf.prog 17 #[.pointer (some ⟨B, 0, none⟩), .int .i64 (n : Int)] w fun e w' => e = .returned (.tuple #[.slice (some ⟨U, 0, none⟩) n 4096, .nilIface]) ∧ (∃ lb lr : Int, Row w' B 79 (bfc U Y 0 (k + t) .nilIface lb lr)) ∧ Row w' Y 73 [.slice (some ⟨D, 0, none⟩) L.length cap, .int .i64 ((i : Int) + (t : Int)), .int .i64 (-1)] ∧ (∃ vs : List Int, vs.length = 4096 ∧ Row w' U 5 (by8 vs) ∧ vs.take (k + t) = (us.drop r).take k ++ (L.drop i).take (4096 - k)) ∧ Kept (fun k => k = B ∨ k = Y ∨ k = U) w w' := by
  go_enter Ybaf.func17, Ybaf.ntmps17
  have c5 : w.cell? ⟨B, 5, none⟩ = some (.int .i64 lb) := hB.cell 5
  have c6 : w.cell? ⟨B, 6, none⟩ = some (.int .i64 lr) := hB.cell 6
  have f5 := hB.frozen 5
  have f6 := hB.frozen 6
  have hn1 : ¬ (n : Int) < 0 := by omega
  go_wp2_with fail
  have nY : Y ≠ B := fun h => hBY h.symm
  have nU : U ≠ B := fun h => hBU h.symm
  have hB1 : Row ((w.setCell ⟨B, 5, none⟩ (.int .i64 (-1))).setCell ⟨B, 6, none⟩ (.int .i64 (-1))) B 79 (bfc U Y r v .nilIface (-1) (-1)) := (hB.set 5 _).set 6 _
  have hY1 := (hY.other B 5 (.int .i64 (-1)) nY).other B 6 (.int .i64 (-1)) nY
  have hU1 := (hU.other B 5 (.int .i64 (-1)) nU).other B 6 (.int .i64 (-1)) nU
  have hD1 := (Row.other hD B 5 (.int .i64 (-1)) hDB).other B 6 (.int .i64 (-1)) hDB
  have hk1 : Kept (fun k => k = B ∨ k = Y ∨ k = U) w ((w.setCell ⟨B, 5, none⟩ (.int .i64 (-1))).setCell ⟨B, 6, none⟩ (.int .i64 (-1))) := ((Kept.refl _ w).setCell (g := B) (j := 5) (fun _ => .inl rfl) _).setCell (g := B) (j := 6) (fun _ => .inl rfl) _
  generalize (w.setCell ⟨B, 5, none⟩ (.int .i64 (-1))).setCell ⟨B, 6, none⟩ (.int .i64 (-1)) = w1 at hB1 hk1 hY1 hU1 hD1 ⊢
  clear hB c5 c6 f5 f6 hY hU hD
  have c0 : w1.cell? ⟨B, 0, none⟩ = some (.slice (some ⟨U, 0, none⟩) 4096 4096) := hB1.cell 0
  have c2 : w1.cell? ⟨B, 2, none⟩ = some (.int .i64 (r : Int)) := hB1.cell 2
  have c3 : w1.cell? ⟨B, 3, none⟩ = some (.int .i64 (v : Int)) := hB1.cell 3
  have c4 : w1.cell? ⟨B, 4, none⟩ = some .nilIface := hB1.cell 4
  have hwv : IntKind.i64.wrap ((v : Int) - (r : Int)) = (k : Int) := by rw [show (v : Int) - (r : Int) = (k : Int) by omega]; exact IntWalk.i64_in _ (by omega)
  have hkn1 : (k : Int) < (n : Int) := by omega
  have hk4 : (k : Int) < 4096 := by omega
  have HFi : Hid (∀ q, Calls Ybaf.prog 25 #[.pointer (some ⟨B, 0, none⟩)] (w1.drewN q) fun e w' => e = .returned (.tuple #[]) ∧ (∃ lb lr : Int, Row w' B 79 (bfc U Y 0 (k + t) .nilIface lb lr)) ∧ Row w' Y 73 [.slice (some ⟨D, 0, none⟩) L.length cap, .int .i64 ((i : Int) + (t : Int)), .int .i64 (-1)] ∧ (∃ vs : List Int, vs.length = 4096 ∧ Row w' U 5 (by8 vs) ∧ vs.take (k + t) = (us.drop r).take k ++ (L.drop i).take (4096 - k)) ∧ Kept (fun k => k = B ∨ k = Y ∨ k = U) (w1.drewN q) w') := fun q => fill_ok B U Y D r v k i cap (-1) (-1) pr L rest us (w1.drewN q) hB1 hY1 hD1 hi hL hcap hus hU1 hk hv (by omega) hBY hBU hYU hDY hDB hDU t ht
  have HK1 : Hid (Kept (fun k => k = B ∨ k = Y ∨ k = U) w w1) := hk1
  have ht4 : k + t ≤ 4096 := by rw [← ht]; simp; omega
  clear hB1 hY1 hU1 hD1 hk1
  refine wp_loop_rounds 2 ?_
  rw [rounds_succ]
  go_wp2_with fail
  go_quiet (fail)
  go_wp2_with fail
  refine Calls.mono (HFi.out _) ?_
  rintro _ w2 ⟨rfl, ⟨lb2, lr2, hB2⟩, hY2, ⟨vs, hvl, hU2, hvt⟩, hk2⟩
  have HF : Hid (Row w2 B 79 (bfc U Y 0 (k + t) .nilIface lb2 lr2) ∧ Row w2 Y 73 [.slice (some ⟨D, 0, none⟩) L.length cap, .int .i64 ((i : Int) + (t : Int)), .int .i64 (-1)] ∧ Row w2 U 5 (by8 vs) ∧ Kept (fun k => k = B ∨ k = Y ∨ k = U) w w2) := ⟨hB2, hY2, hU2, (HK1.out.drewN _).trans hk2⟩
  have d0 : w2.cell? ⟨B, 0, none⟩ = some (.slice (some ⟨U, 0, none⟩) 4096 4096) := hB2.cell 0
  have d2 : w2.cell? ⟨B, 2, none⟩ = some (.int .i64 0) := hB2.cell 2
  have d3 : w2.cell? ⟨B, 3, none⟩ = some (.int .i64 (((k + t : Nat)) : Int)) := hB2.cell 3
  generalize hkt : k + t = kt at d3 HF ⊢
  have hwk : IntKind.i64.wrap (kt : Int) = (kt : Int) := IntWalk.i64_in _ (by omega)
  have hkt1 : decide (kt < n) = false := decide_eq_false (by omega)
  have hn4 : ¬ (4096 : Int) < (n : Int) := by omega
  have hn5 : (0 : Int) ≤ (n : Int) := by omega
  have hn6 : (n : Int) ≤ 4096 := by omega
  have hwn : IntKind.i64.wrap (n : Int) = (n : Int) := IntWalk.i64_in _ (by omega)
  clear hB2 hY2 hU2 hk2 c0 c2 c3 c4 HFi HK1
  go_wp2_with fail
  rw [rounds_succ]
  go_wp2_with fail
  go_quiet (fail)
  go_wp2_with fail
  go_quiet (fail)
  go_wp2_with fail
  go_quiet (fail)
  go_wp2_with fail
  go_ret2
  rw [hkt]
  rw [hkt] at hvt
  refine ⟨rfl, ⟨lb2, lr2, ?_⟩, ?_, ⟨vs, hvl, ?_, ?_⟩, ?_⟩
  · exact HF.out.1
  · exact HF.out.2.1
  · exact HF.out.2.2.1
  · exact hvt
  · exact (HF.out.2.2.2.drewN _).drewN _
end Go.Proofs.YbulkbgsmFmt
