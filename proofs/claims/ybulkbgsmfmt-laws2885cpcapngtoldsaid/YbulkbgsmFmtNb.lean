import Derived.Test.YbulkbgsmFmtBf4
import Derived.Deep.OwnRows
namespace Go.Proofs.YbulkbgsmFmt
open Go.RowKit

theorem row_made8 (W : World) (n : Nat) : Row (W.alloc (.cells (madeCells #[.int .u8 0] n) 5)) W.heap.size 5 (by8 (List.replicate n 0)) := by
  have h := Row.new W 5 (madeCells #[.int .u8 0] n)
  have e : (madeCells #[Value.int .u8 0] n).toList = by8 (List.replicate n (0 : Int)) := by
    unfold madeCells by8
    apply List.ext_getElem?
    intro j
    by_cases hj : j < n
    · simp [hj, Nat.mod_one]
    · simp [hj]
  rw [e] at h
  exact h

set_option maxHeartbeats 400000 in
set_option maxRecDepth 100000 in
theorem bytesNew (a : Option Addr) (n c : Nat) (w : World) :
    Calls Ybaf.prog 8 #[.slice a n c] w fun e w' => e = .returned (.pointer (some ⟨w.heap.size, 0, none⟩)) ∧ w' = w.alloc (.cells #[.slice a n c, .int .i64 0, .int .i64 (-1)] 73) := by
  go_enter Ybaf.func8, Ybaf.ntmps8
  go_wp2_with fail
  go_ret
  exact ⟨rfl, rfl⟩

set_option maxHeartbeats 400000 in
set_option maxRecDepth 100000 in
theorem reset_walk (B U Y : Nat) (x0 x1 x2 x3 x4 x5 x6 : Value) (w : World) (hB : Row w B 79 [x0, x1, x2, x3, x4, x5, x6]) :
    Calls Ybaf.prog 35 #[.pointer (some ⟨B, 0, none⟩), .slice (some ⟨U, 0, none⟩) 4096 4096, .iface 34 (.pointer (some ⟨Y, 0, none⟩))] w fun e w' => e = .returned (.tuple #[]) ∧ Row w' B 79 (bfc U Y 0 0 .nilIface (-1) (-1)) ∧ Kept (fun k => k = B) w w' := by
  go_enter Ybaf.func35, Ybaf.ntmps35
  have c0 : w.cell? ⟨B, 0, none⟩ = some x0 := hB.cell 0
  have c1 : w.cell? ⟨B, 1, none⟩ = some x1 := hB.cell 1
  have c2 : w.cell? ⟨B, 2, none⟩ = some x2 := hB.cell 2
  have c3 : w.cell? ⟨B, 3, none⟩ = some x3 := hB.cell 3
  have c4 : w.cell? ⟨B, 4, none⟩ = some x4 := hB.cell 4
  have c5 : w.cell? ⟨B, 5, none⟩ = some x5 := hB.cell 5
  have c6 : w.cell? ⟨B, 6, none⟩ = some x6 := hB.cell 6
  have f0 := hB.frozen 0
  have f1 := hB.frozen 1
  have f2 := hB.frozen 2
  have f3 := hB.frozen 3
  have f4 := hB.frozen 4
  have f5 := hB.frozen 5
  have f6 := hB.frozen 6
  go_wp2_with fail
  go_end0
  refine ⟨rfl, ?_, ?_⟩
  · exact ((((((hB.set 0 _).set 1 _).set 2 _).set 3 _).set 4 _).set 5 _).set 6 _
  · exact (((((((Kept.refl (fun k => k = B) w).setCell (g := B) (j := 0) (fun _ => rfl) _).setCell (g := B) (j := 1) (fun _ => rfl) _).setCell (g := B) (j := 2) (fun _ => rfl) _).setCell (g := B) (j := 3) (fun _ => rfl) _).setCell (g := B) (j := 4) (fun _ => rfl) _).setCell (g := B) (j := 5) (fun _ => rfl) _).setCell (g := B) (j := 6) (fun _ => rfl) _

theorem ta_no (a : Addr) (w : World) : (Instr.typeAssert (.iface 34 (.pointer (some a))) 58 59 true).run Ybaf.prog w = .ok (.tuple #[.pointer none, .bool false]) w := by kernel_rfl
attribute [local go_sem] ta_no

set_option maxHeartbeats 400000 in
set_option maxRecDepth 100000 in
theorem newSize (Y : Nat) (w : World) :
    Calls Ybaf.prog 24 #[.iface 34 (.pointer (some ⟨Y, 0, none⟩)), .int .i64 4096] w fun e w' => e = .returned (.pointer (some ⟨w.heap.size, 0, none⟩)) ∧ Row w' w.heap.size 79 (bfc (w.heap.size + 1) Y 0 0 .nilIface (-1) (-1)) ∧ Row w' (w.heap.size + 1) 5 (by8 (List.replicate 4096 0)) ∧ Kept (fun _ => False) w w' := by
  have hmk : ∀ W : World, (Instr.makeSlice 24 (.int .i64 4096) (.int .i64 4096)).run Ybaf.prog W = .ok (.slice (some ⟨W.heap.size, 0, none⟩) 4096 4096) (W.alloc (.cells (madeCells #[.int .u8 0] 4096) 5)) := fun W => run_make_row' (P := Ybaf.prog) 24 5 (.int .u8 0) 1 Ybaf.underlying24 (by kernel_rfl) rfl .i64 .i64 4096 (by omega) (by omega) W
  have hmx : max (4096 : Int) 16 = 4096 := by decide
  go_enter Ybaf.func24, Ybaf.ntmps24
  go_wp2_with fail
  have hB1 : Row ((w.alloc (.cells #[.slice none 0 0, .nilIface, .int .i64 0, .int .i64 0, .nilIface, .int .i64 0, .int .i64 0] 79)).alloc (.cells (madeCells #[.int .u8 0] 4096) 5)) w.heap.size 79 [.slice none 0 0, .nilIface, .int .i64 0, .int .i64 0, .nilIface, .int .i64 0, .int .i64 0] := (Row.new w 79 #[.slice none 0 0, .nilIface, .int .i64 0, .int .i64 0, .nilIface, .int .i64 0, .int .i64 0]).alloc _
  have hU1 : Row ((w.alloc (.cells #[.slice none 0 0, .nilIface, .int .i64 0, .int .i64 0, .nilIface, .int .i64 0, .int .i64 0] 79)).alloc (.cells (madeCells #[.int .u8 0] 4096) 5)) (w.heap.size + 1) 5 (by8 (List.replicate 4096 0)) := by
    have h := row_made8 (w.alloc (.cells #[.slice none 0 0, .nilIface, .int .i64 0, .int .i64 0, .nilIface, .int .i64 0, .int .i64 0] 79)) 4096
    rw [show (w.alloc (.cells #[.slice none 0 0, .nilIface, .int .i64 0, .int .i64 0, .nilIface, .int .i64 0, .int .i64 0] 79)).heap.size = w.heap.size + 1 by simp] at h
    exact h
  refine (reset_walk w.heap.size (w.heap.size + 1) Y _ _ _ _ _ _ _ _ hB1).mono ?_
  rintro _ w2 ⟨rfl, hB2, hk⟩
  have HU : Hid (Row w2 (w.heap.size + 1) 5 (by8 (List.replicate 4096 0))) := hU1.kept hk (by omega)
  have HK : Hid (Kept (fun _ => False) w w2) := by
    have h1 := (((Kept.refl (fun k => k = w.heap.size) w).alloc (.cells #[.slice none 0 0, .nilIface, .int .i64 0, .int .i64 0, .nilIface, .int .i64 0, .int .i64 0] 79)).alloc (.cells (madeCells #[.int .u8 0] 4096) 5)).trans hk
    exact h1.mono (fun k hk h => by omega)
  clear hU1 hB1 hk hmk
  go_wp2_with fail
  go_ret
  exact ⟨rfl, hB2, HU.out, HK.out⟩

set_option maxHeartbeats 400000 in
set_option maxRecDepth 100000 in
theorem bufNew (Y : Nat) (w : World) :
    Calls Ybaf.prog 16 #[.iface 34 (.pointer (some ⟨Y, 0, none⟩))] w fun e w' => e = .returned (.pointer (some ⟨w.heap.size, 0, none⟩)) ∧ Row w' w.heap.size 79 (bfc (w.heap.size + 1) Y 0 0 .nilIface (-1) (-1)) ∧ Row w' (w.heap.size + 1) 5 (by8 (List.replicate 4096 0)) ∧ Kept (fun _ => False) w w' := by
  have HC : Hid _ := newSize Y w
  go_enter Ybaf.func16, Ybaf.ntmps16
  go_wp2_with fail
  refine Calls.mono HC.out ?_
  rintro _ w2 ⟨rfl, h1, h2, h3⟩
  go_wp2_with fail
  go_ret
  exact ⟨rfl, h1, h2, h3⟩
end Go.Proofs.YbulkbgsmFmt
