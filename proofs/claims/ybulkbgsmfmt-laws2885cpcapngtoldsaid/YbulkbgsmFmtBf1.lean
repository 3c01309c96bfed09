import Derived.Test.YbulkbgsmFmtBf
import Derived.Deep.RegionWith
import Derived.Deep.RegionHeld3
import Derived.Deep.CutBlock
namespace Go.Proofs.YbulkbgsmFmt
open Go.RowKit

theorem m_read (p : Value) (w : World) : (method 231 34 p "Read").run Ybaf.prog w = .ok (57, p) w := by kernel_rfl
attribute [local go_sem] m_read

set_option maxHeartbeats 1000000 in
set_option maxRecDepth 100000 in
/-- (*bufio.Reader).Read, the buffer empty, nothing left. -/
theorem bf_eof (B U Y D P off n c v i cap : Nat) (lb lr pr : Int) (te : TypeId) (pa : Value) (L : List Int) (w : World) (hB : Row w B 79 (bfc U Y v v .nilIface lb lr)) (hY : Row w Y 73 [.slice (some ⟨D, 0, none⟩) L.length cap, .int .i64 (i : Int), .int .i64 pr]) (hi : i = L.length) (hn : 0 < n) (hBY : B ≠ Y)
    (hE : w.cell? ⟨0, 0, none⟩ = some (.iface te pa)) (hB0 : B ≠ 0) (hen : n < 4096) :
    Calls Ybaf.prog 66 #[.pointer (some ⟨B, 0, none⟩), .slice (some ⟨P, off, none⟩) n c] w fun e w' => e = .returned (.tuple #[.int .i64 0, .iface te pa]) ∧
      (∃ v' : Nat, v' ≤ 4096 ∧ ∃ lb lr : Int, Row w' B 79 (bfc U Y v' v' .nilIface lb lr)) ∧ Kept (fun k => k = B) w w' := by
  go_enter Ybaf.func66, Ybaf.ntmps66
  have c0 : w.cell? ⟨B, 0, none⟩ = some (.slice (some ⟨U, 0, none⟩) 4096 4096) := hB.cell 0
  have c1 : w.cell? ⟨B, 1, none⟩ = some (.iface 34 (.pointer (some ⟨Y, 0, none⟩))) := hB.cell 1
  have c2 : w.cell? ⟨B, 2, none⟩ = some (.int .i64 (v : Int)) := hB.cell 2
  have c3 : w.cell? ⟨B, 3, none⟩ = some (.int .i64 (v : Int)) := hB.cell 3
  have c4 : w.cell? ⟨B, 4, none⟩ = some .nilIface := hB.cell 4
  have f2 := hB.frozen 2
  have f3 := hB.frozen 3
  have f4 := hB.frozen 4
  have hn0 : ¬ (n : Int) = 0 := by omega
  have hn1 : (n : Int) < 4096 := by omega
  go_wp2_with fail
  go_quiet (fail)
  go_wp2_with fail
  have hYd : Row (((w.drewN nq).setCell ⟨B, 2, none⟩ (.int .i64 0)).setCell ⟨B, 3, none⟩ (.int .i64 0)).drew Y 73 [.slice (some ⟨D, 0, none⟩) L.length cap, .int .i64 (i : Int), .int .i64 pr] := (((hY.drewN nq).other B 2 _ (fun h => hBY h.symm)).other B 3 _ (fun h => hBY h.symm)).drew
  have hEd : (((w.drewN nq).setCell ⟨B, 2, none⟩ (.int .i64 0)).setCell ⟨B, 3, none⟩ (.int .i64 0)).drew.cell? ⟨0, 0, none⟩ = some (.iface te pa) := (((Kept.refl (fun k => k = B) w).drewN nq).setCell (g := B) (j := 2) (fun _ => rfl) (.int .i64 0) |>.setCell (g := B) (j := 3) (fun _ => rfl) (.int .i64 0)).drew.cell hE (fun h => hB0 h.symm)
  have hBd : Hid (Row (((w.drewN nq).setCell ⟨B, 2, none⟩ (.int .i64 0)).setCell ⟨B, 3, none⟩ (.int .i64 0)).drew B 79 (bfc U Y 0 0 .nilIface lb lr)) := (((hB.drewN nq).set 2 (.int .i64 0)).set 3 (.int .i64 0)).drew
  have hkd : Hid (Kept (fun k => k = B) w (((w.drewN nq).setCell ⟨B, 2, none⟩ (.int .i64 0)).setCell ⟨B, 3, none⟩ (.int .i64 0)).drew) := (((Kept.refl (fun k => k = B) w).drewN nq).setCell (g := B) (j := 2) (fun _ => rfl) (.int .i64 0) |>.setCell (g := B) (j := 3) (fun _ => rfl) (.int .i64 0)).drew
  have hi' : (L.length : Int) ≤ (i : Int) := by omega
  go_region_with (go_at_call 57; refine (rd_eof Y D 4096 L.length cap 4096 _ (i : Int) pr (.iface te pa) _ hYd hi' hEd).mono ?_; rintro _ w2 ⟨rfl, q, hq⟩; have hB2 : Row w2 B 79 (bfc U Y 0 0 .nilIface lb lr) := hq ▸ hBd.out.drewN q; have hk2 : Kept (fun k => k = B) w w2 := hq ▸ hkd.out.drewN q; have e3 : w2.cell? ⟨B, 3, none⟩ = some (.int .i64 0) := hB2.cell 3; have e4 : w2.cell? ⟨B, 4, none⟩ = some .nilIface := hB2.cell 4; have g4 := hB2.frozen 4; clear hq)
  all_goals go_wp2_with fail
  all_goals
    have hB3 : Row (w2.setCell ⟨B, 4, none⟩ (.iface te pa)) B 79 (bfc U Y 0 0 (.iface te pa) lb lr) := hB2.set 4 _
    have hB4 : Row ((w2.setCell ⟨B, 4, none⟩ (.iface te pa)).setCell ⟨B, 4, none⟩ .nilIface) B 79 (bfc U Y 0 0 .nilIface lb lr) := hB3.set 4 _
    have hk4 : Kept (fun k => k = B) w ((w2.setCell ⟨B, 4, none⟩ (.iface te pa)).setCell ⟨B, 4, none⟩ .nilIface) := (hk2.setCell (g := B) (j := 4) (fun _ => rfl) _).setCell (g := B) (j := 4) (fun _ => rfl) _
    refine (readErr_walk B U Y 0 0 (.iface te pa) lb lr _ hB3).mono ?_
    rintro _ w3 ⟨rfl, rfl⟩
    go_wp2_with fail
    go_ret2
    exact ⟨rfl, ⟨0, by decide, lb, lr, hB4⟩, hk4⟩

set_option maxHeartbeats 1000000 in
set_option maxRecDepth 100000 in
/-- .. a slice as great as the buffer. -/
theorem bf_eof2 (B U Y D P off n c v i cap : Nat) (lb lr pr : Int) (te : TypeId) (pa : Value) (L : List Int) (w : World) (hB : Row w B 79 (bfc U Y v v .nilIface lb lr)) (hY : Row w Y 73 [.slice (some ⟨D, 0, none⟩) L.length cap, .int .i64 (i : Int), .int .i64 pr]) (hi : i = L.length) (hv : v ≤ 4096)
    (hE : w.cell? ⟨0, 0, none⟩ = some (.iface te pa)) (hen : 4096 ≤ n) :
    Calls Ybaf.prog 66 #[.pointer (some ⟨B, 0, none⟩), .slice (some ⟨P, off, none⟩) n c] w fun e w' => e = .returned (.tuple #[.int .i64 0, .iface te pa]) ∧
      (∃ v' : Nat, v' ≤ 4096 ∧ ∃ lb lr : Int, Row w' B 79 (bfc U Y v' v' .nilIface lb lr)) ∧ Kept (fun k => k = B) w w' := by
  go_enter Ybaf.func66, Ybaf.ntmps66
  have c0 : w.cell? ⟨B, 0, none⟩ = some (.slice (some ⟨U, 0, none⟩) 4096 4096) := hB.cell 0
  have c1 : w.cell? ⟨B, 1, none⟩ = some (.iface 34 (.pointer (some ⟨Y, 0, none⟩))) := hB.cell 1
  have c2 : w.cell? ⟨B, 2, none⟩ = some (.int .i64 (v : Int)) := hB.cell 2
  have c3 : w.cell? ⟨B, 3, none⟩ = some (.int .i64 (v : Int)) := hB.cell 3
  have c4 : w.cell? ⟨B, 4, none⟩ = some .nilIface := hB.cell 4
  have hn0 : ¬ (n : Int) = 0 := by omega
  have hn1 : (4096 : Int) ≤ (n : Int) := by omega
  have hi' : (L.length : Int) ≤ (i : Int) := by omega
  go_wp2_with fail
  go_quiet (fail)
  go_wp2_with fail
  refine (rd_eof Y D n L.length cap c _ (i : Int) pr (.iface te pa) _ (hY.drewN _) hi' hE).mono ?_
  rintro _ w2 ⟨rfl, q, hq⟩
  have hB2 : Row w2 B 79 (bfc U Y v v .nilIface lb lr) := hq ▸ (hB.drewN _).drewN q
  have hk2 : Kept (fun k => k = B) w w2 := hq ▸ ((Kept.refl _ w).drewN _).drewN q
  clear hq
  have e4 : w2.cell? ⟨B, 4, none⟩ = some .nilIface := hB2.cell 4
  have g4 := hB2.frozen 4
  go_wp2_with fail
  have hB3 : Row (w2.setCell ⟨B, 4, none⟩ (.iface te pa)) B 79 (bfc U Y v v (.iface te pa) lb lr) := hB2.set 4 _
  have hB4 : Row ((w2.setCell ⟨B, 4, none⟩ (.iface te pa)).setCell ⟨B, 4, none⟩ .nilIface) B 79 (bfc U Y v v .nilIface lb lr) := hB3.set 4 _
  have hk4 : Kept (fun k => k = B) w ((w2.setCell ⟨B, 4, none⟩ (.iface te pa)).setCell ⟨B, 4, none⟩ .nilIface) := (hk2.setCell (g := B) (j := 4) (fun _ => rfl) _).setCell (g := B) (j := 4) (fun _ => rfl) _
  refine (readErr_walk B U Y v v (.iface te pa) lb lr _ hB3).mono ?_
  rintro _ w3 ⟨rfl, rfl⟩
  go_wp2_with fail
  go_ret2
  exact ⟨rfl, ⟨v, hv, lb, lr, hB4⟩, hk4⟩
end Go.Proofs.YbulkbgsmFmt
