import Derived.Test.YbulkbgyyReads
import Derived.Below
namespace Go.Proofs.Ybulkbgyy
open Go.MuLone Go.RowKit

set_option maxRecDepth 100000 in
set_option maxHeartbeats 1000000 in
theorem reads_walk (a0 a1 a2 a3 a4 a5 : ByteArray) (a6 : Int) (w : World) :
    Calls Yba.prog 3 #[.string a0, .string a1, .string a2, .string a3, .string a4, .string a5, .int .u64 a6] w fun e w' => e = .returned (.bool true) ∧ Below w.heap.size w w' := by
  have hmm := @run_makeMap Yba.prog
  have hi1 := fun (W : World) (r : Nat) hr => insert_new W r 24 22 a1 (.int .u64 a6) hr Yba.underlying24
  have hi2 := fun (W : World) (r : Nat) hr => insert_new W r 25 9 a4 (.string a5) hr Yba.underlying25
  go_enter Yba.func3, Yba.ntmps3
  go_wp2_with fail
  refine (mark_any _ a2 _ ?_ ?_ ?_).mono ?_
  · exact World.cell?_alloc_at _ _ _ _ (by simp)
  · exact World.frozen?_alloc_at _ _ _ _ (by simp)
  · exact World.cell?_alloc_at _ _ _ _ (by simp)
  rintro e w' ⟨rfl, rfl⟩
  go_wp2_with fail
  refine (try_free ⟨w.heap.size + 1 + 1, 12, none⟩ _ ?_ ?_).mono ?_
  · exact World.cell?_alloc_at _ _ _ _ (by simp)
  · exact World.frozen?_alloc_at _ _ _ _ (by simp)
  rintro e w' ⟨rfl, rfl⟩
  go_wp2_with fail
  refine (unlock_held Yba.muLib ⟨w.heap.size + 1 + 1, 12, none⟩ _ ?_ ?_).mono ?_
  · exact World.cell?_alloc_at _ _ _ _ (by simp)
  · exact World.frozen?_alloc_at _ _ _ _ (by simp)
  rintro e w' ⟨rfl, rfl⟩
  go_wp2_with fail
  refine (floor_any _ w.heap.size a1 a6 _ ?_ ?_ ?_ ?_ ?_).mono ?_
  · exact World.cell?_alloc_at _ _ _ _ (by simp)
  · exact World.frozen?_alloc_at _ _ _ _ (by simp)
  · exact World.cell?_alloc_at _ _ _ _ (by simp)
  · rw [heap_alloc_old _ _ (by simp only [World.size_alloc]; omega), heap_alloc_old _ _ (by simp only [World.size_alloc]; omega)]; exact heap_alloc_new _ _
  · omega
  rintro e w' ⟨rfl, rfl⟩
  go_wp2_with fail
  refine (met_any _ (w.heap.size + 1) a4 a5 _ ?_ ?_ ?_ ?_ ?_).mono ?_
  · exact World.cell?_alloc_at _ _ _ _ (by simp)
  · exact World.frozen?_alloc_at _ _ _ _ (by simp)
  · exact World.cell?_alloc_at _ _ _ _ (by simp)
  · rw [heap_alloc_old _ _ (by simp only [World.size_alloc]; omega)]; have := heap_alloc_new (w.alloc (one a1 (.int .u64 a6))) (one a4 (.string a5)); simpa using this
  · omega
  rintro e w' ⟨rfl, rfl⟩
  go_wp2_with fail
  refine (mark_any _ a3 _ ?_ ?_ ?_).mono ?_
  · exact World.cell?_alloc_at _ _ _ _ (by simp)
  · exact World.frozen?_alloc_at _ _ _ _ (by simp)
  · exact World.cell?_alloc_at _ _ _ _ (by simp)
  rintro e w' ⟨rfl, rfl⟩
  go_wp2_with fail
  refine (try_free ⟨w.heap.size + 1 + 1, 12, none⟩ _ ?_ ?_).mono ?_
  · exact World.cell?_alloc_at _ _ _ _ (by simp)
  · exact World.frozen?_alloc_at _ _ _ _ (by simp)
  rintro e w' ⟨rfl, rfl⟩
  go_wp2_with fail
  refine (unlock_held Yba.muLib ⟨w.heap.size + 1 + 1, 12, none⟩ _ ?_ ?_).mono ?_
  · exact World.cell?_alloc_at _ _ _ _ (by simp)
  · exact World.frozen?_alloc_at _ _ _ _ (by simp)
  rintro e w' ⟨rfl, rfl⟩
  go_wp2
  go_ret
  exact ⟨rfl, ((((Below.refl _ _).alloc (Nat.le_refl _) _).alloc (by simp) _).alloc (by simp; omega) _)⟩
end Go.Proofs.Ybulkbgyy
