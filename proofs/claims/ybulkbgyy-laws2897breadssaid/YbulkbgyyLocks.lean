import Derived.Test.YbulkbgyyProg
import Derived.Conc.MuLone
import Derived.WalkKit
import Derived.KernelRfl
namespace Go.Proofs
abbrev Yba.muLink : Go.Conc.Locks.MuLink := { lock := 18, unlock := 9, ilock := 23, iunlock := 20, lockSlow := 31, unlockSlow := 30, disable := 24, enable := 25, acquire := 27, relMerge := 28, cas32 := 26, add32 := 29, tMutex := 38, tIMutex := 36, tPMutex := 72, tPIMutex := 77, tPI32 := 79, tUP := 81, tNoCopy := 33, tU32 := 34 }
theorem Yba.muLib : Go.Conc.Locks.MuLib Yba.prog Yba.muLink :=
  ⟨Yba.func18, Yba.func9, Yba.func23, Yba.func20, Yba.func24, Yba.func25, Yba.func27, Yba.func28, Yba.func26, Yba.func29, Yba.underlying36, Yba.runUnderlying36, Yba.sizeOf36, Yba.isAgg36, Yba.zeroValue36, Yba.underlying38, Yba.runUnderlying38, Yba.sizeOf38, Yba.isAgg38, Yba.zeroValue38, Yba.underlying72, Yba.runUnderlying72, Yba.sizeOf72, Yba.isAgg72, Yba.zeroValue72, Yba.underlying77, Yba.runUnderlying77, Yba.sizeOf77, Yba.isAgg77, Yba.zeroValue77, Yba.underlying79, Yba.runUnderlying79, Yba.sizeOf79, Yba.isAgg79, Yba.zeroValue79, Yba.underlying81, Yba.runUnderlying81, Yba.sizeOf81, Yba.isAgg81, Yba.zeroValue81, Yba.underlying33, Yba.runUnderlying33, Yba.sizeOf33, Yba.isAgg33, Yba.zeroValue33, Yba.underlying21, Yba.runUnderlying21, Yba.sizeOf21, Yba.isAgg21, Yba.zeroValue21, (by kernel_rfl)⟩
end Go.Proofs
namespace Go.Proofs.Ybulkbgyy
open Go.MuLone

/-- What this conversion comes to: the place that is seen there, where a cell of it stands. -/
theorem conv_open (a : Addr) (w : World) : (convert 77 81 (.pointer (some a))).run Yba.prog w =
    (Conv.seenAt a >>= fun s => cellsIn s.block >>= fun c => sizeOf 36 >>= fun z => if decide (z = 0) || c.any (fun n => decide (n ≤ s.off) && s.spot.isNone) then newObj (.view s 36) >>= fun b => pure (.pointer (some ⟨b, 0, none⟩)) else pure (.pointer (some s)) : Sem Value).run Yba.prog w := by kernel_rfl

theorem conv_up {a : Addr} {v : Value} {w : World} (hsz : (Yba.prog.info? 36).map (fun i => decide (i.size = 0)) = some false) (hc : w.cell? a = some v) : (convert 77 81 (.pointer (some a))).run Yba.prog w = .ok (.pointer (some a)) w := by
  obtain ⟨e, n, hsh, hlt, hsp⟩ := World.shape?_of_cell? hc
  obtain ⟨i, hi, hz0⟩ := Option.map_eq_some_iff.1 hsz
  have hz : i.size ≠ 0 := by simpa using hz0
  have hge : ¬ (n ≤ a.off) := by omega
  rw [conv_open]
  simp [Conv.seenAt, viewAt, cellsIn, sizeOf, typeInfo, hi, hz, hsh, hge, Result.andThen]

set_option maxHeartbeats 800000 in
set_option maxRecDepth 100000 in
/-- TryLock on a lock that is free: it is taken. -/
theorem itry_free (a : Addr) (w : World) (hc : w.cell? a = some (.int .i32 0)) (hz : w.frozen? a = false) :
    Calls Yba.prog 19 #[.pointer (some a)] w fun e w' => e = .returned (.bool true) ∧ w' = w.setCell a (.int .i32 1) := by
  have hd : ∀ w, (callFunc 24 #[]).run Yba.prog w = .ok (.value (.tuple #[])) w := disable Yba.muLib
  have he : ∀ w, (callFunc 25 #[]).run Yba.prog w = .ok (.value (.tuple #[])) w := enable Yba.muLib
  have ha : ∀ a w, (callFunc 27 #[.pointer (some a)]).run Yba.prog w = .ok (.value (.tuple #[])) w := acquire Yba.muLib
  have hc1 : (w.setCell a (.int .i32 1)).cell? a = some (.int .i32 1) := World.cell?_setCell_same _ _ _ hc
  have hcv : (convert 77 81 (.pointer (some a))).run Yba.prog (w.setCell a (.int .i32 1)) = .ok (.pointer (some a)) (w.setCell a (.int .i32 1)) := conv_up Yba.muLib.room_tIMutex hc1
  have hcas : (callFunc 26 #[.pointer (some a), .int .i32 0, .int .i32 1]).run Yba.prog w = .ok (.value (.bool true)) (w.setCell a (.int .i32 1)) := run_call_cas_hit (P := Yba.prog) Yba.func26 (by kernel_rfl) (by kernel_rfl) (by kernel_rfl) .i32 (by kernel_rfl) (y := 1) hc hz
  go_enter Yba.func19, Yba.ntmps19
  go_wp2_with fail
  go_ret
  exact ⟨rfl, rfl⟩
end Go.Proofs.Ybulkbgyy
