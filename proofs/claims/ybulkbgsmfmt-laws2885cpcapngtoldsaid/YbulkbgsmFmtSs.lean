import Derived.Test.YbulkbgsmFmtCq
import Derived.Deep.RegionHeld3
namespace Go.Proofs.YbulkbgsmFmt
open Go.RowKit
attribute [local go_sem] eq_same eq_nil m_u32le m_u32be m_u16le m_u16be

set_option maxHeartbeats 2000000 in
set_option maxRecDepth 100000 in
/-- startSection. -/
theorem ss_ok (V : Nat → Prop) (Q B Y U D cap : Nat) (L : List Int) (p : Nat) (big : Bool) (fr : Int) (P c : Nat) (x0 x1 x2 x3 : Int) (w : World) (h : Cq w V Q B Y U D cap L p (bo big) fr (.slice none 0 0)) (hc : 16 ≤ c)
    (c0 : w.cell? ⟨P, 12, none⟩ = some (.int .u8 x0)) (c1 : w.cell? ⟨P, 13, none⟩ = some (.int .u8 x1)) (c2 : w.cell? ⟨P, 14, none⟩ = some (.int .u8 x2)) (c3 : w.cell? ⟨P, 15, none⟩ = some (.int .u8 x3)) (h0 : 0 ≤ x0 ∧ x0 ≤ 255) (h1 : 0 ≤ x1 ∧ x1 ≤ 255) (h2 : 0 ≤ x2 ∧ x2 ≤ 255) (h3 : 0 ≤ x3 ∧ x3 ≤ 255) (hv : u16f big x0 x1 = 1) :
    Calls Ybaf.prog 30 #[.pointer (some ⟨Q, 0, none⟩), .slice (some ⟨P, 8, none⟩) 16 c] w fun e w' => e = .returned .nilIface ∧ Kept (fun k => ¬ V k) w w' ∧ Cq w' V Q B Y U D cap L p (bo big) fr (.slice none 0 0) := by
  obtain ⟨o, l, a, v, hQ, _⟩ := h.row
  have q2 : w.cell? ⟨Q, 2, none⟩ = some (bo big) := hQ.cell 2
  have hU0 := u16_step big P 12 (c - 4) x0 x1 w c0 c1 h0 h1
  rw [hv] at hU0
  have HU : Hid (∀ w0, Kept (fun _ => False) w w0 → Calls Ybaf.prog (if big then 62 else 65) #[.agg #[], .slice (some ⟨P, 12, none⟩) 2 (c - 4)] w0 fun e w' => e = .returned (.int .u16 1) ∧ Kept (fun _ => False) w w') := hU0
  have HV : Hid (∀ w0, Kept (fun _ => False) w w0 → Calls Ybaf.prog (if big then 62 else 65) #[.agg #[], .slice (some ⟨P, 14, none⟩) 2 (c - 6)] w0 fun e w' => ∃ y : Int, e = .returned (.int .u16 y) ∧ Kept (fun _ => False) w w') := fun w0 hk => (u16_step big P 14 (c - 6) x2 x3 w c2 c3 h2 h3 w0 hk).mono fun e w' hh => ⟨_, hh.1, hh.2⟩
  have HC : Hid (Cq w V Q B Y U D cap L p (bo big) fr (.slice none 0 0)) := h
  have hc6 : (6 : Int) ≤ (c : Int) := by omega
  have hc8 : (8 : Int) ≤ (c : Int) := by omega
  have hc4 : ¬ c = 4 := by omega
  have hc6n : ¬ c = 6 := by omega
  clear h hQ hU0 c0 c1 c2 c3 h0 h1 h2 h3 hv
  go_enter Ybaf.func30, Ybaf.ntmps30
  go_wp2_with fail
  go_cut [5, 6] from 7 (fun s5 s6 wc => s5 = .int .u16 1 ∧ (∃ y : Int, s6 = .int .u16 y) ∧ Kept (fun _ => False) w wc)
  case first =>
    cases big with
    | false =>
      have q2' : w.cell? ⟨Q, 2, none⟩ = some (.iface 55 (.agg #[])) := q2
      clear q2
      have HU' : ∀ w0, Kept (fun _ => False) w w0 → Calls Ybaf.prog 65 #[.agg #[], .slice (some ⟨P, 12, none⟩) 2 (c - 4)] w0 fun e w' => e = .returned (.int .u16 1) ∧ Kept (fun _ => False) w w' := HU
      have HV' : ∀ w0, Kept (fun _ => False) w w0 → Calls Ybaf.prog 65 #[.agg #[], .slice (some ⟨P, 14, none⟩) 2 (c - 6)] w0 fun e w' => ∃ y : Int, e = .returned (.int .u16 y) ∧ Kept (fun _ => False) w w' := HV
      clear HU HV
      have hS0 : w.drew.cell? ⟨Q, 2, none⟩ = some (.iface 55 (.agg #[])) ∧ Kept (fun _ => False) w w.drew := ⟨q2', (Kept.refl _ w).drew⟩
      go_region_held3 (fun w' => w'.cell? ⟨Q, 2, none⟩ = some (.iface 55 (.agg #[])) ∧ Kept (fun _ => False) w w') (with_reducible assumption) (first | (go_at_call 65; with_reducible refine Calls.mono (HU' _ ?_) ?_; (exact (by with_reducible assumption : World.cell? _ ⟨Q, 2, none⟩ = some (.iface 55 (.agg #[])) ∧ Kept (fun _ => False) w _).2); rintro _ w2 ⟨rfl, hk2⟩; have hS2 : w2.cell? ⟨Q, 2, none⟩ = some (.iface 55 (.agg #[])) ∧ Kept (fun _ => False) w w2 := ⟨hk2.cell q2' (fun h => h), hk2⟩) | (go_at_call 65; with_reducible refine Calls.mono (HV' _ ?_) ?_; (exact (by with_reducible assumption : World.cell? _ ⟨Q, 2, none⟩ = some (.iface 55 (.agg #[])) ∧ Kept (fun _ => False) w _).2); rintro _ w2 ⟨y, rfl, hk2⟩; have hS2 : w2.cell? ⟨Q, 2, none⟩ = some (.iface 55 (.agg #[])) ∧ Kept (fun _ => False) w w2 := ⟨hk2.cell q2' (fun h => h), hk2⟩))
      all_goals go_wp2_with fail
      all_goals
        go_meet
        case rel => exact ⟨rfl, ⟨_, rfl⟩, by assumption⟩
    | true =>
      have q2' : w.cell? ⟨Q, 2, none⟩ = some (.iface 53 (.agg #[])) := q2
      clear q2
      have HU' : ∀ w0, Kept (fun _ => False) w w0 → Calls Ybaf.prog 62 #[.agg #[], .slice (some ⟨P, 12, none⟩) 2 (c - 4)] w0 fun e w' => e = .returned (.int .u16 1) ∧ Kept (fun _ => False) w w' := HU
      have HV' : ∀ w0, Kept (fun _ => False) w w0 → Calls Ybaf.prog 62 #[.agg #[], .slice (some ⟨P, 14, none⟩) 2 (c - 6)] w0 fun e w' => ∃ y : Int, e = .returned (.int .u16 y) ∧ Kept (fun _ => False) w w' := HV
      clear HU HV
      have hS0 : w.drew.cell? ⟨Q, 2, none⟩ = some (.iface 53 (.agg #[])) ∧ Kept (fun _ => False) w w.drew := ⟨q2', (Kept.refl _ w).drew⟩
      go_region_held3 (fun w' => w'.cell? ⟨Q, 2, none⟩ = some (.iface 53 (.agg #[])) ∧ Kept (fun _ => False) w w') (with_reducible assumption) (first | (go_at_call 62; with_reducible refine Calls.mono (HU' _ ?_) ?_; (exact (by with_reducible assumption : World.cell? _ ⟨Q, 2, none⟩ = some (.iface 53 (.agg #[])) ∧ Kept (fun _ => False) w _).2); rintro _ w2 ⟨rfl, hk2⟩; have hS2 : w2.cell? ⟨Q, 2, none⟩ = some (.iface 53 (.agg #[])) ∧ Kept (fun _ => False) w w2 := ⟨hk2.cell q2' (fun h => h), hk2⟩) | (go_at_call 62; with_reducible refine Calls.mono (HV' _ ?_) ?_; (exact (by with_reducible assumption : World.cell? _ ⟨Q, 2, none⟩ = some (.iface 53 (.agg #[])) ∧ Kept (fun _ => False) w _).2); rintro _ w2 ⟨y, rfl, hk2⟩; have hS2 : w2.cell? ⟨Q, 2, none⟩ = some (.iface 53 (.agg #[])) ∧ Kept (fun _ => False) w w2 := ⟨hk2.cell q2' (fun h => h), hk2⟩))
      all_goals go_wp2_with fail
      all_goals
        go_meet
        case rel => exact ⟨rfl, ⟨_, rfl⟩, by assumption⟩
  case rest =>
    obtain ⟨rfl, ⟨y, rfl⟩, hkc⟩ := hcut
    have hC := HC.out.kept hkc
    obtain ⟨o3, l3, a3, v3, hQ3, _⟩ := hC.row
    have q7 : wc.cell? ⟨Q, 7, none⟩ = some (.slice none 0 0) := hQ3.cell 7
    have f7 := hQ3.frozen 7
    have HZ : Hid (Kept (fun k => ¬ V k) w (wc.setCell ⟨Q, 7, none⟩ (.slice none 0 0)) ∧ Cq (wc.setCell ⟨Q, 7, none⟩ (.slice none 0 0)) V Q B Y U D cap L p (bo big) fr (.slice none 0 0)) := ⟨(Kept.mono (q := fun k => ¬ V k) hkc (fun _ _ h => h.elim)).setCell (g := Q) (j := 7) (fun _ => hC.vQ) _, hC.setIfs _⟩
    clear hC hQ3 hkc HC HU HV
    go_wp2_with fail
    go_ret
    exact ⟨rfl, HZ.out⟩
end Go.Proofs.YbulkbgsmFmt
