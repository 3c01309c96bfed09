import Derived.Test.YbulkbgsmFmtBf1
namespace Go.Proofs.YbulkbgsmFmt
open Go.RowKit
attribute [local go_sem] m_read

theorem by8_splice (us xs : List Int) (off : Nat) : splice (by8 us) off (by8 xs) = by8 (splice us off xs) := by
  simp [splice, by8, List.map_take, List.map_drop]

set_option maxHeartbeats 1000000 in
set_option maxRecDepth 100000 in
/-- (*bufio.Reader).Read, the buffer empty, straight into a slice as great as the buffer. -/
theorem bf_big (B U Y D P off n c v i cap : Nat) (lb lr pr : Int) (L : List Int) (rest : List Value) (qs : List Int) (w : World) (hB : Row w B 79 (bfc U Y v v .nilIface lb lr)) (hY : Row w Y 73 [.slice (some ⟨D, 0, none⟩) L.length cap, .int .i64 (i : Int), .int .i64 pr]) (hD : Row w D 5 (by8 L ++ rest)) (hi : i < L.length) (hL : L.length ≤ 4000000) (hcap : L.length ≤ cap)
    (hen : 4096 ≤ n) (hP : Row w P 5 (by8 qs)) (hfit : off + n ≤ qs.length) (hn2 : n ≤ 100000000) (hBY : B ≠ Y) (hBP : B ≠ P) (hYP : Y ≠ P) (hDY : D ≠ Y) (m : Nat) (hm : ((L.drop i).take n).length = m) :
    Calls Ybaf.prog 66 #[.pointer (some ⟨B, 0, none⟩), .slice (some ⟨P, off, none⟩) n c] w fun e w' => e = .returned (.tuple #[.int .i64 (m : Int), .nilIface]) ∧
      (∃ lb lr : Int, Row w' B 79 (bfc U Y v v .nilIface lb lr)) ∧ Row w' Y 73 [.slice (some ⟨D, 0, none⟩) L.length cap, .int .i64 ((i : Int) + (m : Int)), .int .i64 (-1)] ∧ Row w' P 5 (by8 (splice qs off ((L.drop i).take n))) ∧ Kept (fun k => k = B ∨ k = Y ∨ k = P) w w' := by
  go_enter Ybaf.func66, Ybaf.ntmps66
  have c0 : w.cell? ⟨B, 0, none⟩ = some (.slice (some ⟨U, 0, none⟩) 4096 4096) := hB.cell 0
  have c1 : w.cell? ⟨B, 1, none⟩ = some (.iface 34 (.pointer (some ⟨Y, 0, none⟩))) := hB.cell 1
  have c2 : w.cell? ⟨B, 2, none⟩ = some (.int .i64 (v : Int)) := hB.cell 2
  have c3 : w.cell? ⟨B, 3, none⟩ = some (.int .i64 (v : Int)) := hB.cell 3
  have c4 : w.cell? ⟨B, 4, none⟩ = some .nilIface := hB.cell 4
  have hn0 : ¬ (n : Int) = 0 := by omega
  have hn1 : (4096 : Int) ≤ (n : Int) := by omega
  have hm0 : 0 < m := by rw [← hm]; simp; omega
  have hmn : m ≤ n := by rw [← hm]; simp; omega
  have hm1 : (0 : Int) < (m : Int) := by omega
  have hm2 : ¬ (m : Int) < 0 := by omega
  obtain ⟨q, hq⟩ : ∃ q : Nat, q + 1 = m := ⟨m - 1, by omega⟩
  have hwq : IntKind.i64.wrap ((m : Int) - 1) = (q : Int) := by rw [show (m : Int) - 1 = (q : Int) by omega]; exact IntWalk.i64_in _ (by omega)
  have hq1 : (q : Int) < (n : Int) := by omega
  have hq2 : (0 : Int) ≤ (q : Int) := by omega
  go_wp2_with fail
  go_quiet (fail)
  go_wp2_with fail
  refine (rd_read Y D P off n c cap i pr L rest (by8 qs) _ (hY.drewN _) hi hL hcap (Row.drewN hD _) (hP.drewN _) (by rw [by8_len]; exact hfit) hYP hDY m hm).mono ?_
  rintro _ w2 ⟨rfl, hY2, hP2, hk2⟩
  have hk : Kept (fun k => k = B ∨ k = Y ∨ k = P) w w2 := ((Kept.refl _ w).drewN _).trans (hk2.mono (fun _ _ h => .inr h))
  have hB2 := (hB.drewN nq).kept hk2 (fun h => h.elim hBY hBP)
  clear hk2
  rw [by8_splice] at hP2
  have hqs : (splice qs off ((L.drop i).take n)).length = qs.length := length_splice _ _ _ (by rw [hm]; omega)
  have hqq : off + q < (splice qs off ((L.drop i).take n)).length := by rw [hqs]; omega
  have e4 : w2.cell? ⟨B, 4, none⟩ = some .nilIface := hB2.cell 4
  have e5 : w2.cell? ⟨B, 5, none⟩ = some (.int .i64 lb) := hB2.cell 5
  have e6 : w2.cell? ⟨B, 6, none⟩ = some (.int .i64 lr) := hB2.cell 6
  have g4 := hB2.frozen 4
  have g5 := hB2.frozen 5
  have g6 := hB2.frozen 6
  have u1 : w2.cell? ⟨P, off + q, none⟩ = some (.int .u8 (splice qs off ((L.drop i).take n))[off + q]) := (hP2.cell (off + q)).trans (by simp [by8, hqq])
  generalize (splice qs off ((L.drop i).take n))[off + q] = x at u1
  go_wp2_with fail
  have hB3 : Row (((w2.setCell ⟨B, 4, none⟩ .nilIface).setCell ⟨B, 5, none⟩ (.int .i64 (wrap64 x))).setCell ⟨B, 6, none⟩ (.int .i64 (-1))) B 79 (bfc U Y v v .nilIface (wrap64 x) (-1)) := ((hB2.set 4 _).set 5 _).set 6 _
  have hB4 : Row ((((w2.setCell ⟨B, 4, none⟩ .nilIface).setCell ⟨B, 5, none⟩ (.int .i64 (wrap64 x))).setCell ⟨B, 6, none⟩ (.int .i64 (-1))).setCell ⟨B, 4, none⟩ .nilIface) B 79 (bfc U Y v v .nilIface (wrap64 x) (-1)) := hB3.set 4 _
  have nY : Y ≠ B := fun h => hBY h.symm
  have nP : P ≠ B := fun h => hBP h.symm
  have hY4 := (((hY2.other B 4 .nilIface nY).other B 5 (.int .i64 (wrap64 x)) nY).other B 6 (.int .i64 (-1)) nY).other B 4 .nilIface nY
  have hP4 := (((hP2.other B 4 .nilIface nP).other B 5 (.int .i64 (wrap64 x)) nP).other B 6 (.int .i64 (-1)) nP).other B 4 .nilIface nP
  have hk4 := (((hk.setCell (g := B) (j := 4) (fun _ => .inl rfl) .nilIface).setCell (g := B) (j := 5) (fun _ => .inl rfl) (.int .i64 (wrap64 x))).setCell (g := B) (j := 6) (fun _ => .inl rfl) (.int .i64 (-1))).setCell (g := B) (j := 4) (fun _ => .inl rfl) .nilIface
  refine (readErr_walk B U Y v v .nilIface (wrap64 x) (-1) _ hB3).mono ?_
  rintro _ w3 ⟨rfl, rfl⟩
  go_wp2_with fail
  go_ret2
  exact ⟨rfl, ⟨_, _, hB4⟩, hY4, hP4, hk4⟩
end Go.Proofs.YbulkbgsmFmt
