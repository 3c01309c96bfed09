import Derived.Test.YbulkbgveFmtAddF
import Derived.Test.YbulkbgveFmtLine
import Derived.Deep.QuietTactic
import Derived.BigQuiet
namespace Go.Proofs.YbulkbgveFmt
open Go.RowKit Go.Extern.Stop Go.Stop Go.Extern

/-- The reader's cells with the current line made anew. -/
def cur0 (xs : List Value) : List Value := (((xs.set 9 (.int .i64 0)).set 10 (.int .i64 0)).set 11 (.int .i64 0)).set 12 (.int .i64 0)

theorem fin_end {p : Nat → Prop} {W w : World} {R : Nat} {xs : List Value} (h : Row w R 43 xs) (hk : Kept p W w) (hp : p R) :
    Row ((((w.setCell ⟨R, 9, none⟩ (.int .i64 0)).setCell ⟨R, 10, none⟩ (.int .i64 0)).setCell ⟨R, 11, none⟩ (.int .i64 0)).setCell ⟨R, 12, none⟩ (.int .i64 0)) R 43 (cur0 xs) ∧
    Kept p W ((((w.setCell ⟨R, 9, none⟩ (.int .i64 0)).setCell ⟨R, 10, none⟩ (.int .i64 0)).setCell ⟨R, 11, none⟩ (.int .i64 0)).setCell ⟨R, 12, none⟩ (.int .i64 0)) :=
  ⟨(((h.set 9 _).set 10 _).set 11 _).set 12 _, (((hk.setCell (fun _ => hp) _).setCell (fun _ => hp) _).setCell (fun _ => hp) _).setCell (fun _ => hp) _⟩

set_option maxHeartbeats 1000000 in
set_option maxRecDepth 100000 in
theorem end_zero (R b : Nat) (c i d : Int) (W : World) (xs : List Value) (hR : Row W R 43 xs) (h5 : xs[5]? = some (.pointer (some ⟨b, 0, none⟩))) (hb : W.cell? ⟨b, 1, none⟩ = some (.slice none 0 0))
    (h9 : xs[9]? = some (.int .i64 0)) (h10 : xs[10]? = some (.int .i64 c)) (h11 : xs[11]? = some (.int .i64 i)) (h12 : xs[12]? = some (.int .i64 d)) :
    Calls Ybaf.prog 6 #[.pointer (some ⟨R, 0, none⟩)] W fun e w' => e = .returned (.tuple #[]) ∧ Row w' R 43 (cur0 xs) ∧ Kept (fun k => k = R) W w' := by
  go_enter Ybaf.func6, Ybaf.ntmps6
  have c5 := (hR.cell 5).trans h5
  have c9 := (hR.cell 9).trans h9
  have c10 := (hR.cell 10).trans h10
  have c11 := (hR.cell 11).trans h11
  have c12 := (hR.cell 12).trans h12
  have f9 := hR.frozen 9
  have f10 := hR.frozen 10
  have f11 := hR.frozen 11
  have f12 := hR.frozen 12
  go_wp2_with fail
  refine (len_walk b W hb).mono ?_
  rintro _ w2 ⟨rfl, rfl⟩
  go_wp2_with fail
  go_end0
  exact ⟨rfl, fin_end hR (Kept.refl _ _) rfl⟩

end Go.Proofs.YbulkbgveFmt
