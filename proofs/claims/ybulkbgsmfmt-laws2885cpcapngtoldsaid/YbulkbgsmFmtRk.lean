import Derived.Test.YbulkbgsmFmtCq
import Derived.Deep.RegionLaw
import Derived.Deep.RegionHeld3
import Derived.Deep.AppendLies
namespace Go.Proofs.YbulkbgsmFmt
open Go.RowKit
attribute [local go_sem] eq_same eq_nil m_u32le m_u32be m_u16le m_u16be

/-- Region k, wherever it lies. -/
def regOf (k : Nat) : Code → Option Code
  | .region id o b => if id = k then some (.region id o b) else none
  | .seq a b => match regOf k a with
    | some c => some c
    | none => regOf k b
  | .cond _ a b => match regOf k a with
    | some c => some c
    | none => regOf k b
  | .block _ c => regOf k c
  | .loop c => regOf k c
  | .scope c => regOf k c
  | _ => none

theorem info89 : (Ybaf.prog.info? 89).map (fun i => (i.zero, i.size, i.bytes)) = some (some (.agg #[.int .i64 0, .int .u32 0]), 2, 16) := by kernel_rfl

theorem owns_keptF {w w' : World} {base : Nat} {e : TypeId} {size : Nat} {v : Value} {n : Nat} {xs : List Value} (h : w.ownsRow base e size v n xs) (hk : Kept (fun _ => False) w w') : w'.ownsRow base e size v n xs :=
  h.kept ⟨hk.os, hk.tape, hk.output, hk.size, fun k hl _ => hk.block k hl (fun h => h)⟩ (by cases hv : v.ownBlock <;> simp : v.ownBlock = none ∨ v.ownBlock ≠ none)

theorem base_le {base : Nat} {w w2 : World} {o : Obj} (h : base ≤ w.heap.size) (hk : Kept (fun _ => False) w w2) : base ≤ (w2.alloc o).heap.size := by
  have := hk.size
  simp
  omega

theorem zu16 {w : World} {big : Bool} {P j c : Nat} {b0 b1 : Int} {p : Nat → Prop} (hP : ¬ p P) (c0 : w.cell? ⟨P, j, none⟩ = some (.int .u8 b0)) (c1 : w.cell? ⟨P, j + 1, none⟩ = some (.int .u8 b1)) (h0 : 0 ≤ b0 ∧ b0 ≤ 255) (h1 : 0 ≤ b1 ∧ b1 ≤ 255) :
    ∀ w0, Kept p w w0 → Calls Ybaf.prog (if big then 62 else 65) #[.agg #[], .slice (some ⟨P, j, none⟩) 2 c] w0 fun e w' => e = .returned (.int .u16 (u16f big b0 b1)) ∧ Kept (fun _ => False) w0 w' :=
  fun w0 hk => u16_step big P j c b0 b1 w0 (hk.cell c0 hP) (hk.cell c1 hP) h0 h1 w0 (Kept.refl _ _)
theorem zu32 {w : World} {big : Bool} {P j c : Nat} {b0 b1 b2 b3 : Int} {p : Nat → Prop} (hP : ¬ p P) (c0 : w.cell? ⟨P, j, none⟩ = some (.int .u8 b0)) (c1 : w.cell? ⟨P, j + 1, none⟩ = some (.int .u8 b1)) (c2 : w.cell? ⟨P, j + 2, none⟩ = some (.int .u8 b2)) (c3 : w.cell? ⟨P, j + 3, none⟩ = some (.int .u8 b3)) (h0 : 0 ≤ b0 ∧ b0 ≤ 255) (h1 : 0 ≤ b1 ∧ b1 ≤ 255) (h2 : 0 ≤ b2 ∧ b2 ≤ 255) (h3 : 0 ≤ b3 ∧ b3 ≤ 255) :
    ∀ w0, Kept p w w0 → Calls Ybaf.prog (if big then 39 else 19) #[.agg #[], .slice (some ⟨P, j, none⟩) 4 c] w0 fun e w' => e = .returned (.int .u32 (u32f big b0 b1 b2 b3)) ∧ Kept (fun _ => False) w0 w' :=
  fun w0 hk => u32_step big P j c b0 b1 b2 b3 w0 (hk.cell c0 hP) (hk.cell c1 hP) (hk.cell c2 hP) (hk.cell c3 hP) h0 h1 h2 h3 w0 (Kept.refl _ _)

end Go.Proofs.YbulkbgsmFmt
