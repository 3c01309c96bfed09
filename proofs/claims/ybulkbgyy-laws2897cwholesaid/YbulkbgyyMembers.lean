import Derived.Test.YbulkbgyyMem
import Derived.BigRegion
import Derived.Deep.QuietTactic
import Derived.BigQuiet
namespace Go.Proofs.Ybulkbgyy
open Go.RowKit

theorem info65 : (Yba.prog.info? 65).map (fun i => (i.zero, i.size, i.bytes)) = some (some (.agg #[.string ByteArray.empty, .string ByteArray.empty]), 2, 32) := by kernel_rfl

theorem make_members (n : Nat) (hn : n ≤ 1024) (W : World) :
    (Instr.makeSlice 59 (.int .i64 (n : Int)) (.int .i64 (n : Int))).run Yba.prog W = .ok (.slice (some ⟨W.heap.size, 0, none⟩) n n) (W.alloc (.cells (madeCells #[.string ByteArray.empty, .string ByteArray.empty] (n * 2)) 65)) := by
  obtain ⟨i, hi, hz, hs, hby⟩ := info_parts info65
  have := run_make (P := Yba.prog) W 59 65 i _ Yba.underlying59 hi hz .i64 .i64 (n : Int) (n : Int) (by omega) (by omega) (by rw [hby]; omega) (by omega)
  rw [hs] at this
  simpa [Value.cells] using this

theorem conv2 (W : World) (g : Nat) (x y : Int) (h0 : W.cell? ⟨g, 0, none⟩ = some (.int .u8 x)) (h1 : W.cell? ⟨g, 1, none⟩ = some (.int .u8 y)) :
    ∀ dst, Yba.prog.underlying dst = some .string → (convert 75 dst (.slice (some ⟨g, 0, none⟩) 2 2)).run Yba.prog W = .ok (.string (strOfNums [x, y])) W :=
  run_convert_bytes_arg (P := Yba.prog) W 75 5 Yba.underlying75 Yba.underlying5 g 0 2 2 [x, y] rfl (fun i hi => by
    rcases i with _ | _ | i
    · simpa using h0
    · simpa using h1
    · omega)

set_option maxHeartbeats 1000000 in
theorem members_any (b off n cap : Nat) (ss : List ByteArray) (w : World) (h0 : 0 < n) (hn : n ≤ 1024)
    (hc : ∀ i, i < n → w.cell? ⟨b, off + i, none⟩ = some (.string (ss.getD i ByteArray.empty))) :
    Calls Yba.prog 13 #[.slice (some ⟨b, off, none⟩) n cap] w fun e w' => e = .returned (.slice (some ⟨w.heap.size, 0, none⟩) n n) ∧ ∃ L : List Mem, L.length = n ∧ Row w' w.heap.size 65 (flat L) ∧ Below w.heap.size w w' := by
  have hmk := make_members n hn
  have hbw : b < w.heap.size := lt_of_cell (hc 0 h0)
  go_enter Yba.func13, Yba.ntmps13
  go_wp2
  clear hmk
  go_loopw [4] (fun i wr => ∃ (k : Nat) (L : List Mem), k ≤ n ∧ i = .int .i64 k ∧ L.length = n ∧ Row wr w.heap.size 65 (flat L) ∧ Below w.heap.size w wr) (fun i _ => n - (intOf i).toNat)
  case atStart => exact ⟨0, List.replicate n (ByteArray.empty, ByteArray.empty), by omega, rfl, by simp, by rw [← made2]; exact Row.new _ _ _, (Below.refl _ _).alloc (Nat.le_refl _) _⟩
  case round =>
    obtain ⟨k, L, hk, rfl, hL, hrow, hbel⟩ := hrel
    by_cases hlt : k < n
    · have hcell : wr.cell? ⟨b, off + k, none⟩ = some (.string (ss.getD k ByteArray.empty)) := (hbel.cell (p := ⟨b, off + k, none⟩) hbw).trans (hc k hlt)
      obtain ⟨hg0, hg1⟩ := flat_get L k (by omega)
      have c0 : wr.cell? ⟨w.heap.size, k * 2, none⟩ = some (.string L[k].1) := (hrow.cell _).trans hg0
      have c1 : wr.cell? ⟨w.heap.size, k * 2 + 1, none⟩ = some (.string L[k].2) := (hrow.cell _).trans hg1
      have f0 : wr.frozen? ⟨w.heap.size, k * 2, none⟩ = false := hrow.frozen _
      have f1 : wr.frozen? ⟨w.heap.size, k * 2 + 1, none⟩ = false := hrow.frozen _
      have hz : w.heap.size < wr.heap.size := hrow.lt
      have hbz : b < wr.heap.size := by omega
      have HR : Hid (Row wr w.heap.size 65 (flat L)) := hrow
      have HB : Hid (Below w.heap.size w wr) := hbel
      generalize ss.getD k ByteArray.empty = s at hcell
      generalize L[k].1 = s1 at c0
      generalize L[k].2 = s2 at c1
      clear hc hrow hbel hg0 hg1
      have hcv := fun x y => conv2 (wr.alloc (.cells #[.int .u8 x, .int .u8 y] 5)).drew wr.heap.size x y (World.cell?_alloc_at _ _ _ _ rfl) (World.cell?_alloc_at _ _ _ _ rfl)
      go_wp2
      go_region
      go_wp2
      go_roundw
      case rel =>
        refine ⟨k + 1, L.set k (s, strOfNums [(k : Int) % 256, (k : Int) / 256]), by omega, by go_num, by simpa using hL, ?_, ?_⟩
        · rw [← flat_set]
          exact ((HR.out.set _ _).set _ _).alloc _
        · exact (((HB.out.setCell (p := ⟨w.heap.size, k * 2, none⟩) (Nat.le_refl _) _).setCell (p := ⟨w.heap.size, k * 2 + 1, none⟩) (Nat.le_refl _) _).alloc (by simp; omega) _).drew
      case measure => simp [intOf]; omega
    · go_wp2
      go_ret
      exact ⟨rfl, L, hL, hrow, hbel⟩

theorem members_none (a : Option Addr) (cap : Nat) (w : World) :
    Calls Yba.prog 13 #[.slice a 0 cap] w fun e w' => e = .returned (.slice (some ⟨w.heap.size, 0, none⟩) 0 0) ∧ Row w' w.heap.size 65 (flat []) ∧ Below w.heap.size w w' := by
  have hmk : ∀ W : World, (Instr.makeSlice 59 (.int .i64 0) (.int .i64 0)).run Yba.prog W = .ok (.slice (some ⟨W.heap.size, 0, none⟩) 0 0) (W.alloc (.cells #[] 65)) := fun _ => by kernel_rfl
  go_enter Yba.func13, Yba.ntmps13
  go_wp2
  refine wp_loop_rounds 1 ?_
  rw [rounds_succ]
  go_wp2
  go_ret
  exact ⟨rfl, Row.new _ _ _, (Below.refl _ _).alloc (Nat.le_refl _) _⟩

/-- 'walk' lays three boxes and hands the closure over them back. -/
theorem walk_any (a : Option Addr) (n c : Nat) (P p : Int) (w : World) :
    Calls Yba.prog 14 #[.slice a n c, .int .i64 P, .int .i64 p] w fun e w' => e = .returned (.func (.func 22) #[] #[.pointer (some ⟨w.heap.size, 0, none⟩), .pointer (some ⟨w.heap.size + 1 + 1, 0, none⟩), .pointer (some ⟨w.heap.size + 1, 0, none⟩)]) ∧
      w' = ((w.alloc (.cells #[.slice a n c] 59)).alloc (.cells #[.int .i64 P] 3)).alloc (.cells #[.int .i64 p] 3) := by
  go_enter Yba.func14, Yba.ntmps14
  go_wp2
  go_ret
  exact ⟨rfl, rfl⟩
end Go.Proofs.Ybulkbgyy
