import Derived.Test.YbulkbgveFmtMj
import Derived.Test.YbulkbgveFmtM0
import Derived.Test.YbulkbgveFmtMA
namespace Go.Proofs.YbulkbgveFmt
open Go.RowKit Go.Extern.Stop Go.Stop Go.Extern

set_option maxHeartbeats 4000000 in
set_option maxRecDepth 100000 in
/-- THE WALK of LawS2890CRoute, a slice of at most 1024: true. -/
theorem route_walk (F : Interp) (l c i dv : Int) (hmsg : (FmtStop.textOf (F "fmt.Sprintf" (reading i) 0)).toList.isEmpty = false) (n : Nat) (hdv : 0 ≤ dv ∧ dv ≤ 255) (hn : dv % 8 = n) (a4 : Option Addr) (m cap : Nat) (hm : m ≤ 1024) (pre : Bool) (pl : Int) (W : World) (hF : F.answers W.tape) (hB : BI W a4 m) :
    Calls Ybaf.prog 3 #[.int .i64 l, .int .i64 c, .int .i64 i, .int .u8 dv, .slice a4 m cap, .bool pre, .int .i64 pl] W fun e w' => e = .returned (.bool true) ∧ Below W.heap.size W w' := by
  have hn8 : n < 8 := by omega
  have HM : Hid ((FmtStop.textOf (F "fmt.Sprintf" (reading i) 0)).toList.isEmpty = false) := hmsg
  have HF : Hid (F.answers W.tape) := hF
  have hmk := fun W : World => run_make_row' (P := Ybaf.prog) 22 3 (.int .i64 0) 8 Ybaf.underlying22 (by kernel_rfl) rfl .i64 .i64 n (by omega) (by omega) W
  have hrem := depth_rem dv n hdv hn
  have hw1 : IntKind.u8.wrap (n : Int) = n := by rw [IntKind.wrap_u8]; omega
  have hw2 : IntKind.i64.wrap (n : Int) = n := IntWalk.i64_in _ (by omega)
  have d1 : decide (1024 < (m : Int)) = false := by simp; omega
  clear hdv hn hmsg hF
  go_enter Ybaf.func3, Ybaf.ntmps3
  go_upto_block 0 with fail
  clear hmk
  go_cut [17] from 25 (fun s17 wc => ∃ zs : List Int, zs.length = n ∧ Row wc W.heap.size 3 (zs.map (.int .i64)) ∧ Below W.heap.size W wc)
  case first =>
    go_wp2_with fail
    go_loopw [17] (fun iv wr => ∃ (k : Nat) (zs : List Int), k ≤ n ∧ iv = .int .i64 k ∧ zs.length = n ∧ Row wr W.heap.size 3 (zs.map (.int .i64)) ∧ Below W.heap.size W wr) (fun iv _ => n - (intOf iv).toNat)
    case atStart => exact ⟨0, List.replicate n 0, by omega, rfl, by simp, row_made W n, (Below.refl _ _).alloc (Nat.le_refl _) _⟩
    case round =>
      obtain ⟨k, zs, hk, rfl, hz, hrow, hbel⟩ := hrel
      by_cases hlt : k < n
      · by_cases hkm : k < m
        · obtain ⟨bb, off, rfl, hbb, hcs⟩ := hB.more (by omega)
          obtain ⟨x, hx⟩ := hcs k hkm
          have hx' : wr.cell? ⟨bb, off + k, none⟩ = some (.int .i64 x) := (hbel.cell (p := ⟨bb, off + k, none⟩) hbb).trans hx
          have cz : wr.cell? ⟨W.heap.size, k, none⟩ = some (.int .i64 (zs[k]'(by omega))) := (hrow.cell k).trans (by simp [hz, hlt])
          have fz : wr.frozen? ⟨W.heap.size, k, none⟩ = false := hrow.frozen k
          have hk9 : IntKind.i64.wrap ((k : Int) + 1) = (k : Int) + 1 := IntWalk.i64_in _ (by omega)
          have HR : Hid (Row wr W.heap.size 3 (zs.map (.int .i64))) := hrow
          have HB : Hid (Below W.heap.size W wr) := hbel
          generalize zs[k]'(by omega) = z at cz
          clear hcs hB hrow hbel hx
          go_wp2_with fail
          go_roundw
          case rel => exact ⟨k + 1, zs.set k x, by omega, by go_num, by simp [hz], row_put HR.out k x, HB.out.setCell (p := ⟨W.heap.size, k, none⟩) (Nat.le_refl _) _⟩
          case measure => simp [intOf]; omega
        · have HR : Hid (Row wr W.heap.size 3 (zs.map (.int .i64)) ∧ Below W.heap.size W wr) := ⟨hrow, hbel⟩
          clear hB hrow hbel
          go_wp2_with fail
          go_meet
          case rel => exact ⟨zs, hz, HR.out.1, HR.out.2⟩
      · have HR : Hid (Row wr W.heap.size 3 (zs.map (.int .i64)) ∧ Below W.heap.size W wr) := ⟨hrow, hbel⟩
        clear hB hrow hbel
        go_wp2_with fail
        go_meet
        case rel => exact ⟨zs, hz, HR.out.1, HR.out.2⟩
  case rest =>
    obtain ⟨zs, hz, hI, hbel⟩ := hcut
    rename_i K1 hK1
    refine hK1 _ _ ?_
    by_cases hq : pre = true ∧ pl ≠ 0
    · obtain ⟨rfl, hpl⟩ := hq
      exact mid_a n l c i pl hpl W _ zs hI hbel
    · rcases n with _ | j
      · exact mid_b0 F l c i HM pre pl hq W _ zs hI hbel HF
      · exact mid_bj j (by omega) l c i pre pl hq W _ zs hz hI hbel

set_option maxHeartbeats 1000000 in
set_option maxRecDepth 100000 in
theorem route_big (l c i dv : Int) (a4 : Option Addr) (m cap : Nat) (hm : ¬ m ≤ 1024) (pre : Bool) (pl : Int) (W : World) :
    Calls Ybaf.prog 3 #[.int .i64 l, .int .i64 c, .int .i64 i, .int .u8 dv, .slice a4 m cap, .bool pre, .int .i64 pl] W fun e w' => e = .returned (.bool true) ∧ Below W.heap.size W w' := by
  have d1 : decide (1024 < (m : Int)) = true := by simp; omega
  go_enter Ybaf.func3, Ybaf.ntmps3
  go_wp2_with fail
  go_ret
  exact ⟨rfl, Below.refl _ _⟩

/-- THE WALK of LawS2890CRoute: true, at every input. -/
theorem route_all (F : Interp) (l c i dv : Int) (hmsg : (FmtStop.textOf (F "fmt.Sprintf" (reading i) 0)).toList.isEmpty = false) (hdv : 0 ≤ dv ∧ dv ≤ 255) (a4 : Option Addr) (m cap : Nat) (pre : Bool) (pl : Int) (W : World) (hF : F.answers W.tape) (hB : BI W a4 m) :
    Calls Ybaf.prog 3 #[.int .i64 l, .int .i64 c, .int .i64 i, .int .u8 dv, .slice a4 m cap, .bool pre, .int .i64 pl] W fun e w' => e = .returned (.bool true) ∧ Below W.heap.size W w' := by
  by_cases hm : m ≤ 1024
  · exact route_walk F l c i dv hmsg (dv % 8).toNat hdv (by omega) a4 m cap hm pre pl W hF hB
  · exact route_big l c i dv a4 m cap hm pre pl W
end Go.Proofs.YbulkbgveFmt
