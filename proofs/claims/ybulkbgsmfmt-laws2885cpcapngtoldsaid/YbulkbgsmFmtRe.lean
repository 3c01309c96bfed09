import Derived.Test.YbulkbgsmFmtCq
import Derived.Test.YbulkbgsmFmtFp
namespace Go.Proofs.YbulkbgsmFmt
open Go.RowKit
attribute [local go_sem] eq_same eq_nil m_u32le m_u32be m_u16le m_u16be

set_option maxHeartbeats 2000000 in
set_option maxRecDepth 100000 in
/-- readBlock at the end of the file. -/
theorem rb_end (V : Nat → Prop) (Q B Y U D cap : Nat) (L : List Int) (p : Nat) (ord : Value) (fr : Int) (ifs : Value) (ae : Addr) (w : World) (h : Cq w V Q B Y U D cap L p ord fr ifs) (hE : w.cell? ⟨0, 0, none⟩ = some (.iface 96 (.pointer (some ae)))) (hp : p = L.length) :
    Calls Ybaf.prog 29 #[.pointer (some ⟨Q, 0, none⟩)] w fun e w' => e = .returned (.tuple #[.int .u32 0, .slice none 0 0, .iface 96 (.pointer (some ae))]) ∧ Kept (fun k => ¬ V k) w w' ∧ Cq w' V Q B Y U D cap L p ord fr ifs := by
  obtain ⟨offs, lk, at', bv, hQ, _⟩ := h.row
  have v0 := h.v10 0 (by decide)
  have hk1 : Kept (fun k => ¬ V k) w (w.setCell ⟨Q, 8, none⟩ (.int .i64 offs)) := (Kept.refl _ w).setCell (g := Q) (j := 8) (fun _ => h.vQ) _
  have hE1 := hk1.cell hE (fun h => h v0)
  have HP : Hid _ := peek_end B Y U D cap L p 8 (w.setCell ⟨Q, 8, none⟩ (.int .i64 offs)) (h.setAt offs).sp (by decide) (by decide) hp 96 (.pointer (some ae)) hE1 (fun e => h.vB (e ▸ v0)) (fun e => h.vU (e ▸ v0))
  have HC1 : Hid (Cq (w.setCell ⟨Q, 8, none⟩ (.int .i64 offs)) V Q B Y U D cap L p ord fr ifs) := h.setAt offs
  have HK1 : Hid (Kept (fun k => ¬ V k) w (w.setCell ⟨Q, 8, none⟩ (.int .i64 offs))) := hk1
  have HV : Hid (¬ V B ∧ ¬ V Y ∧ ¬ V U ∧ V 0) := ⟨h.vB, h.vY, h.vU, v0⟩
  have HE : Hid (w.cell? ⟨0, 0, none⟩ = some (.iface 96 (.pointer (some ae)))) := hE
  have c0 : w.cell? ⟨Q, 0, none⟩ = some (.pointer (some ⟨B, 0, none⟩)) := hQ.cell 0
  have c4 : w.cell? ⟨Q, 4, none⟩ = some (.int .i64 offs) := hQ.cell 4
  have c8 : w.cell? ⟨Q, 8, none⟩ = some (.int .i64 at') := hQ.cell 8
  have f8 := hQ.frozen 8
  clear h hE hk1 hE1 hQ v0
  go_enter Ybaf.func29, Ybaf.ntmps29
  go_wp2_with fail
  refine Calls.mono HP.out ?_
  rintro _ w2 ⟨rfl, hs2, hk2⟩
  have hkw2 : Kept (fun k => ¬ V k) w w2 := HK1.out.trans (Kept.mono (q := fun k => ¬ V k) hk2 (fun k _ h => by rcases h with rfl | rfl | rfl; exact HV.out.1; exact HV.out.2.1; exact HV.out.2.2.1))
  have e0 := hkw2.cell HE.out (fun h => h HV.out.2.2.2)
  have HF : Hid (Kept (fun k => ¬ V k) w w2 ∧ Cq w2 V Q B Y U D cap L p ord fr ifs) := ⟨hkw2, HC1.out.turn hk2 hs2⟩
  clear hs2 hk2 hkw2 HP HC1 HK1 HE HV c0 c4 c8 f8
  go_wp2_with fail
  go_quiet (fail)
  go_wp2_with fail
  go_ret3
  exact ⟨rfl, HF.out.1.drewN _, HF.out.2.kept ((Kept.refl _ w2).drewN _)⟩
end Go.Proofs.YbulkbgsmFmt
