import Derived.Test.YbulkbgsmFmtFe
namespace Go.Proofs.YbulkbgsmFmt
open Go.RowKit

set_option maxHeartbeats 1000000 in
set_option maxRecDepth 100000 in
/-- (*bufio.Reader).Peek at the end of the stream. -/
theorem peek_e (B U Y D r i cap n : Nat) (lb lr pr : Int) (L : List Int) (rest : List Value) (us : List Int) (w : World) (hB : Row w B 79 (bfc U Y r r .nilIface lb lr)) (hY : Row w Y 73 [.slice (some ⟨D, 0, none⟩) L.length cap, .int .i64 (i : Int), .int .i64 pr]) (hD : Row w D 5 (by8 L ++ rest)) (hi : i = L.length) (te : TypeId) (pa : Value) (hE : w.cell? ⟨0, 0, none⟩ = some (.iface te pa)) (hB0 : B ≠ 0) (hU0 : U ≠ 0)
    (hus : us.length = 4096) (hU : Row w U 5 (by8 us)) (hr : r ≤ 4096) (hn0 : 0 < n) (hn : n ≤ 4096) (hBY : B ≠ Y) (hBU : B ≠ U) (hYU : Y ≠ U) (hDB : D ≠ B) (hDU : D ≠ U) :
    Calls Ybaf.prog 17 #[.pointer (some ⟨B, 0, none⟩), .int .i64 (n : Int)] w fun e w' => e = .returned (.tuple #[.slice (some ⟨U, 0, none⟩) 0 4096, .iface te pa]) ∧ (∃ lb lr : Int, Row w' B 79 (bfc U Y 0 0 .nilIface lb lr)) ∧ Row w' Y 73 [.slice (some ⟨D, 0, none⟩) L.length cap, .int .i64 (i : Int), .int .i64 pr] ∧ (∃ vs : List Int, vs.length = 4096 ∧ Row w' U 5 (by8 vs)) ∧ Kept (fun k => k = B ∨ k = Y ∨ k = U) w w' := by
  go_enter Ybaf.func17, Ybaf.ntmps17
  have c5 : w.cell? ⟨B, 5, none⟩ = some (.int .i64 lb) := hB.cell 5
  have c6 : w.cell? ⟨B, 6, none⟩ = some (.int .i64 lr) := hB.cell 6
  have f5 := hB.frozen 5
  have f6 := hB.frozen 6
  have hn1 : ¬ (n : Int) < 0 := by omega
  go_wp2_with fail
  have nY : Y ≠ B := fun h => hBY h.symm
  have nU : U ≠ B := fun h => hBU h.symm
  have hB1 : Row ((w.setCell ⟨B, 5, none⟩ (.int .i64 (-1))).setCell ⟨B, 6, none⟩ (.int .i64 (-1))) B 79 (bfc U Y r r .nilIface (-1) (-1)) := (hB.set 5 _).set 6 _
  have hY1 := (hY.other B 5 (.int .i64 (-1)) nY).other B 6 (.int .i64 (-1)) nY
  have hU1 := (hU.other B 5 (.int .i64 (-1)) nU).other B 6 (.int .i64 (-1)) nU
  have hD1 := (Row.other hD B 5 (.int .i64 (-1)) hDB).other B 6 (.int .i64 (-1)) hDB
  have hk1 : Kept (fun k => k = B ∨ k = Y ∨ k = U) w ((w.setCell ⟨B, 5, none⟩ (.int .i64 (-1))).setCell ⟨B, 6, none⟩ (.int .i64 (-1))) := ((Kept.refl _ w).setCell (g := B) (j := 5) (fun _ => .inl rfl) _).setCell (g := B) (j := 6) (fun _ => .inl rfl) _
  have hkE : Kept (fun k => k = B) w ((w.setCell ⟨B, 5, none⟩ (.int .i64 (-1))).setCell ⟨B, 6, none⟩ (.int .i64 (-1))) := ((Kept.refl (fun k => k = B) w).setCell (g := B) (j := 5) (fun _ => rfl) _).setCell (g := B) (j := 6) (fun _ => rfl) _
  have hE1 := hkE.cell hE (fun h => hB0 h.symm)
  generalize (w.setCell ⟨B, 5, none⟩ (.int .i64 (-1))).setCell ⟨B, 6, none⟩ (.int .i64 (-1)) = w1 at hB1 hk1 hY1 hU1 hD1 hE1 ⊢
  clear hB c5 c6 f5 f6 hY hU hD hE hkE
  have c0 : w1.cell? ⟨B, 0, none⟩ = some (.slice (some ⟨U, 0, none⟩) 4096 4096) := hB1.cell 0
  have c2 : w1.cell? ⟨B, 2, none⟩ = some (.int .i64 (r : Int)) := hB1.cell 2
  have c3 : w1.cell? ⟨B, 3, none⟩ = some (.int .i64 (r : Int)) := hB1.cell 3
  have c4 : w1.cell? ⟨B, 4, none⟩ = some .nilIface := hB1.cell 4
  have hkn1 : (0 : Int) < (n : Int) := by omega
  have HFi : Hid (∀ q, Calls Ybaf.prog 25 #[.pointer (some ⟨B, 0, none⟩)] (w1.drewN q) fun e w' => e = .returned (.tuple #[]) ∧ (∃ lb lr : Int, Row w' B 79 (bfc U Y 0 0 (.iface te pa) lb lr)) ∧ Row w' Y 73 [.slice (some ⟨D, 0, none⟩) L.length cap, .int .i64 (i : Int), .int .i64 pr] ∧ (∃ vs : List Int, vs.length = 4096 ∧ Row w' U 5 (by8 vs) ∧ vs.take 0 = (us.drop r).take 0) ∧ Kept (fun k => k = B ∨ k = Y ∨ k = U) (w1.drewN q) w') := fun q => fill_eof B U Y D r r 0 i cap (-1) (-1) pr L rest us (w1.drewN q) hB1 hY1 hD1 hi te pa hE1 hB0 hU0 hus hU1 (by omega) hr (by omega) hBY hBU hYU hDB hDU
  have HK1 : Hid (Kept (fun k => k = B ∨ k = Y ∨ k = U) w w1) := hk1
  clear hB1 hY1 hU1 hD1 hk1 hE1
  refine wp_loop_rounds 2 ?_
  rw [rounds_succ]
  go_wp2_with fail
  go_quiet (fail)
  go_wp2_with fail
  refine Calls.mono (HFi.out _) ?_
  rintro _ w2 ⟨rfl, ⟨lb2, lr2, hB2⟩, hY2, ⟨vs, hvl, hU2, hvt⟩, hk2⟩
  have HF : Hid (Row w2 B 79 (bfc U Y 0 0 (.iface te pa) lb2 lr2) ∧ Row w2 Y 73 [.slice (some ⟨D, 0, none⟩) L.length cap, .int .i64 (i : Int), .int .i64 pr] ∧ Row w2 U 5 (by8 vs) ∧ Kept (fun k => k = B ∨ k = Y ∨ k = U) w w2) := ⟨hB2, hY2, hU2, (HK1.out.drewN _).trans hk2⟩
  have d0 : w2.cell? ⟨B, 0, none⟩ = some (.slice (some ⟨U, 0, none⟩) 4096 4096) := hB2.cell 0
  have d2 : w2.cell? ⟨B, 2, none⟩ = some (.int .i64 0) := hB2.cell 2
  have d3 : w2.cell? ⟨B, 3, none⟩ = some (.int .i64 0) := hB2.cell 3
  have d4 : w2.cell? ⟨B, 4, none⟩ = some (.iface te pa) := hB2.cell 4
  have hn4 : ¬ (4096 : Int) < (n : Int) := by omega
  clear hB2 hY2 hU2 hk2 c0 c2 c3 c4 HFi HK1 hvt
  go_wp2_with fail
  rw [rounds_succ]
  go_wp2_with fail
  go_quiet (fail)
  go_wp2_with fail
  go_quiet (fail)
  go_wp2_with fail
  refine Calls.mono (readErr_walk B U Y 0 0 (.iface te pa) lb2 lr2 _ (show Row _ B 79 _ from HF.out.1)) ?_
  rintro _ w3 ⟨rfl, hw3⟩
  have hB3 : Row w3 B 79 (bfc U Y 0 0 .nilIface lb2 lr2) := by
    rw [hw3]
    exact Row.set (Row.drewN HF.out.1 _) 4 _
  have hY3 : Row w3 Y 73 [.slice (some ⟨D, 0, none⟩) L.length cap, .int .i64 (i : Int), .int .i64 pr] := by
    rw [hw3]
    exact Row.other (Row.drewN HF.out.2.1 _) B 4 _ nY
  have hU3 : Row w3 U 5 (by8 vs) := by
    rw [hw3]
    exact Row.other (Row.drewN HF.out.2.2.1 _) B 4 _ nU
  have hk3 : Kept (fun k => k = B ∨ k = Y ∨ k = U) w w3 := by
    rw [hw3]
    exact (HF.out.2.2.2.drewN _).setCell (g := B) (j := 4) (fun _ => .inl rfl) _
  clear hw3 HF d0 d2 d3 d4
  have d0 : w3.cell? ⟨B, 0, none⟩ = some (.slice (some ⟨U, 0, none⟩) 4096 4096) := hB3.cell 0
  have d2 : w3.cell? ⟨B, 2, none⟩ = some (.int .i64 0) := hB3.cell 2
  have HF : Hid (Row w3 B 79 (bfc U Y 0 0 .nilIface lb2 lr2) ∧ Row w3 Y 73 [.slice (some ⟨D, 0, none⟩) L.length cap, .int .i64 (i : Int), .int .i64 pr] ∧ Row w3 U 5 (by8 vs) ∧ Kept (fun k => k = B ∨ k = Y ∨ k = U) w w3) := ⟨hB3, hY3, hU3, hk3⟩
  clear hB3 hY3 hU3 hk3
  go_wp2_with fail
  go_quiet (fail)
  go_wp2_with fail
  go_ret2
  exact ⟨rfl, ⟨lb2, lr2, HF.out.1⟩, HF.out.2.1, ⟨vs, hvl, HF.out.2.2.1⟩, HF.out.2.2.2.drewN _⟩

/-- Peek at the stream's end. -/
theorem peek_end (B Y U D cap : Nat) (L : List Int) (p n : Nat) (w : World) (h : Sp w B Y U D cap L p) (hn0 : 0 < n) (hn : n ≤ 4096) (hp : p = L.length) (te : TypeId) (pa : Value) (hE : w.cell? ⟨0, 0, none⟩ = some (.iface te pa)) (hB0 : B ≠ 0) (hU0 : U ≠ 0) :
    Calls Ybaf.prog 17 #[.pointer (some ⟨B, 0, none⟩), .int .i64 (n : Int)] w fun e w' => e = .returned (.tuple #[.slice (some ⟨U, 0, none⟩) 0 4096, .iface te pa]) ∧ Sp w' B Y U D cap L p ∧ Kept (fun k => k = B ∨ k = Y ∨ k = U) w w' := by
  obtain ⟨i, r, v, h, rfl⟩ := h
  obtain ⟨⟨lb, lr, h1⟩, ⟨pr, h2⟩, ⟨us, h3, h4, h5⟩, ⟨rest, h6⟩, a1, a2, a3, a4, a5, a6, b1, b2, b3, b4, b5, b6⟩ := h
  have hrv : v = r := by omega
  subst hrv
  refine (peek_e B U Y D v i cap n lb lr pr L rest us w h1 h2 h6 (by omega) te pa hE hB0 hU0 h3 h4 a2 hn0 hn b1 b2 b4 (fun h => b3 h.symm) (fun h => b6 h.symm)).mono ?_
  rintro e w' ⟨rfl, ⟨lb', lr', hB'⟩, hY', ⟨vs, hvl, hU'⟩, hk⟩
  have hD' := h6.kept hk (fun h => h.elim (fun h => b3 h.symm) (fun h => h.elim (fun h => b5 h.symm) (fun h => b6 h.symm)))
  exact ⟨rfl, ⟨i, 0, 0, ⟨⟨lb', lr', hB'⟩, ⟨pr, hY'⟩, ⟨vs, hvl, hU', by simp⟩, ⟨rest, hD'⟩, Nat.le_refl _, by omega, by omega, a4, a5, a6, b1, b2, b3, b4, b5, b6⟩, by omega⟩, hk⟩
end Go.Proofs.YbulkbgsmFmt
