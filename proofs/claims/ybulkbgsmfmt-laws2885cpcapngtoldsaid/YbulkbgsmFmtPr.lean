import Derived.Test.YbulkbgsmFmtPo
import Derived.Deep.RegionHeld3
namespace Go.Proofs.YbulkbgsmFmt
open Go.RowKit

/-- What follows region k in its sequence. -/
def afterRegion (k : Nat) : Code → Option Code
  | .seq (.region id _ _) r => if id = k then some r else afterRegion k r
  | .seq a r => match afterRegion k a with
    | some c => some c
    | none => afterRegion k r
  | .block _ c => afterRegion k c
  | .scope c => afterRegion k c
  | _ => none

theorem m_u16le (p : Value) (w : World) : (method 231 55 p "Uint16").run Ybaf.prog w = .ok (65, p) w := by kernel_rfl
theorem m_u16be (p : Value) (w : World) : (method 231 53 p "Uint16").run Ybaf.prog w = .ok (62, p) w := by kernel_rfl
attribute [local go_sem] eq_same eq_nil m_u32le m_u32be m_u16le m_u16be

set_option maxHeartbeats 2000000 in
set_option maxRecDepth 100000 in
theorem ph_rest {u1 u2 u3 u4 u5 u6 u7 u10 u11 u12 u13 u14 u15 u16 u17 u18 u19 u20 u21 u22 u23 u24 u25 u26 u27 u28 u29 u30 u31 u32 u33 u34 u35 u36 u37 u38 u39 u40 u41 u42 u43 u44 u45 u46 u47 u48 u49 u50 u51 u52 u53 u54 u55 u56 u57 u58 u59 u60 u61 u62 u63 u64 u65 u66 u67 u68 u69 u70 u71 u72 u73 u74 u75 u76 u77 u78 u79 u80 u81 u82 u83 u84 u85 u86 u87 u88 u89 u90 u91 : Value} (R : Ending → World → Prop) (big : Bool) (Q P cp : Nat) (w : World) (hcp : 24 ≤ cp) (q2 : w.cell? ⟨Q, 2, none⟩ = some (bo big)) (HU : Hid (∀ w0, Kept (fun _ => False) w w0 → Calls Ybaf.prog (if big then 62 else 65) #[.agg #[], .slice (some ⟨P, 4, none⟩) 2 (cp - 4)] w0 fun e w' => e = .returned (.int .u16 2) ∧ Kept (fun _ => False) w w')) (hQl : Q < w.heap.size) (x6 : Value) (qc6 : w.cell? ⟨Q, 6, none⟩ = some x6) (qf6 : w.frozen? ⟨Q, 6, none⟩ = false) (lk v32 : Int) (hlk : bits .and .u32 v32 65535 = lk) (hwl : IntKind.i64.wrap lk = lk) (HW : Hid (∀ w0, Kept (fun _ => False) w w0 → Calls Ybaf.prog (if big then 39 else 19) #[.agg #[], .slice (some ⟨P, 20, none⟩) 4 (cp - 20)] w0 fun e w' => e = .returned (.int .u32 v32) ∧ Kept (fun _ => False) w w')) (HR : Hid (∀ w', Kept (fun _ => False) w w' → R (.returned .nilIface) (w'.setCell ⟨Q, 6, none⟩ (.int .i64 lk)))) (HV : Hid (∀ w0, Kept (fun _ => False) w w0 → Calls Ybaf.prog (if big then 62 else 65) #[.agg #[], .slice (some ⟨P, 6, none⟩) 2 (cp - 6)] w0 fun e w' => ∃ y : Int, e = .returned (.int .u16 y) ∧ Kept (fun _ => False) w w')) :
    Code.wp Ybaf.prog ((Ybaf.f21.body.bind (afterRegion 10)).getD .skip) (bodyPost Ybaf.prog Ybaf.f21 R) ⟨#[.pointer (some ⟨Q, 0, none⟩), u1, u2, u3, u4, u5, u6, u7, .slice (some ⟨P, 0, none⟩) 24 cp, .nilIface, u10, u11, u12, u13, u14, u15, u16, u17, u18, u19, u20, u21, u22, u23, u24, u25, u26, u27, u28, u29, u30, u31, u32, u33, u34, u35, u36, u37, u38, u39, u40, u41, u42, u43, u44, u45, u46, u47, u48, u49, u50, u51, u52, u53, u54, u55, u56, u57, u58, u59, u60, u61, u62, u63, u64, u65, u66, u67, u68, u69, u70, u71, u72, u73, u74, u75, u76, u77, u78, u79, u80, u81, u82, u83, u84, u85, u86, u87, u88, u89, u90, u91], []⟩ w := by
  conv => arg 2; whnf
  have hc6 : (6 : Int) ≤ (cp : Int) := by omega
  have hc8 : (8 : Int) ≤ (cp : Int) := by omega
  have hc4 : ¬ cp = 4 := by omega
  have hc6n : ¬ cp = 6 := by omega
  go_wp2_with fail
  go_cut [10, 11] from 12 (fun s10 s11 wc => s10 = .int .u16 2 ∧ (∃ y : Int, s11 = .int .u16 y) ∧ Kept (fun _ => False) w wc)
  case first =>
    cases big with
    | false =>
      have q2' : w.cell? ⟨Q, 2, none⟩ = some (.iface 55 (.agg #[])) := q2
      clear q2
      have HU' : ∀ w0, Kept (fun _ => False) w w0 → Calls Ybaf.prog 65 #[.agg #[], .slice (some ⟨P, 4, none⟩) 2 (cp - 4)] w0 fun e w' => e = .returned (.int .u16 2) ∧ Kept (fun _ => False) w w' := HU
      have HV' : ∀ w0, Kept (fun _ => False) w w0 → Calls Ybaf.prog 65 #[.agg #[], .slice (some ⟨P, 6, none⟩) 2 (cp - 6)] w0 fun e w' => ∃ y : Int, e = .returned (.int .u16 y) ∧ Kept (fun _ => False) w w' := HV
      clear HU HV
      have hS0 : w.drew.cell? ⟨Q, 2, none⟩ = some (.iface 55 (.agg #[])) ∧ Kept (fun _ => False) w w.drew := ⟨q2', (Kept.refl _ w).drew⟩
      go_region_held3 (fun w' => w'.cell? ⟨Q, 2, none⟩ = some (.iface 55 (.agg #[])) ∧ Kept (fun _ => False) w w') (with_reducible assumption) (first | (go_at_call 65; with_reducible refine Calls.mono (HU' _ ?_) ?_; (exact (by with_reducible assumption : World.cell? _ ⟨Q, 2, none⟩ = some (.iface 55 (.agg #[])) ∧ Kept (fun _ => False) w _).2); rintro _ w2 ⟨rfl, hk2⟩; have hS2 : w2.cell? ⟨Q, 2, none⟩ = some (.iface 55 (.agg #[])) ∧ Kept (fun _ => False) w w2 := ⟨hk2.cell q2' (fun h => h), hk2⟩) | (go_at_call 65; with_reducible refine Calls.mono (HV' _ ?_) ?_; (exact (by with_reducible assumption : World.cell? _ ⟨Q, 2, none⟩ = some (.iface 55 (.agg #[])) ∧ Kept (fun _ => False) w _).2); rintro _ w2 ⟨y, rfl, hk2⟩; have hS2 : w2.cell? ⟨Q, 2, none⟩ = some (.iface 55 (.agg #[])) ∧ Kept (fun _ => False) w w2 := ⟨hk2.cell q2' (fun h => h), hk2⟩))
      all_goals go_wp2_with fail
      all_goals
        go_meet
        case rel => exact ⟨rfl, ⟨_, rfl⟩, by assumption⟩
    | true =>
      have q2' : w.cell? ⟨Q, 2, none⟩ = some (.iface 53 (.agg #[])) := q2
      clear q2
      have HU' : ∀ w0, Kept (fun _ => False) w w0 → Calls Ybaf.prog 62 #[.agg #[], .slice (some ⟨P, 4, none⟩) 2 (cp - 4)] w0 fun e w' => e = .returned (.int .u16 2) ∧ Kept (fun _ => False) w w' := HU
      have HV' : ∀ w0, Kept (fun _ => False) w w0 → Calls Ybaf.prog 62 #[.agg #[], .slice (some ⟨P, 6, none⟩) 2 (cp - 6)] w0 fun e w' => ∃ y : Int, e = .returned (.int .u16 y) ∧ Kept (fun _ => False) w w' := HV
      clear HU HV
      have hS0 : w.drew.cell? ⟨Q, 2, none⟩ = some (.iface 53 (.agg #[])) ∧ Kept (fun _ => False) w w.drew := ⟨q2', (Kept.refl _ w).drew⟩
      go_region_held3 (fun w' => w'.cell? ⟨Q, 2, none⟩ = some (.iface 53 (.agg #[])) ∧ Kept (fun _ => False) w w') (with_reducible assumption) (first | (go_at_call 62; with_reducible refine Calls.mono (HU' _ ?_) ?_; (exact (by with_reducible assumption : World.cell? _ ⟨Q, 2, none⟩ = some (.iface 53 (.agg #[])) ∧ Kept (fun _ => False) w _).2); rintro _ w2 ⟨rfl, hk2⟩; have hS2 : w2.cell? ⟨Q, 2, none⟩ = some (.iface 53 (.agg #[])) ∧ Kept (fun _ => False) w w2 := ⟨hk2.cell q2' (fun h => h), hk2⟩) | (go_at_call 62; with_reducible refine Calls.mono (HV' _ ?_) ?_; (exact (by with_reducible assumption : World.cell? _ ⟨Q, 2, none⟩ = some (.iface 53 (.agg #[])) ∧ Kept (fun _ => False) w _).2); rintro _ w2 ⟨y, rfl, hk2⟩; have hS2 : w2.cell? ⟨Q, 2, none⟩ = some (.iface 53 (.agg #[])) ∧ Kept (fun _ => False) w w2 := ⟨hk2.cell q2' (fun h => h), hk2⟩))
      all_goals go_wp2_with fail
      all_goals
        go_meet
        case rel => exact ⟨rfl, ⟨_, rfl⟩, by assumption⟩
  case rest =>
    obtain ⟨rfl, ⟨y, rfl⟩, hkc⟩ := hcut
    have q2c := hkc.cell q2 (fun h => h)
    have hc24 : (24 : Int) ≤ (cp : Int) := by omega
    have hc20 : ¬ cp = 20 := by omega
    have HW' : Hid (Calls Ybaf.prog (if big then 39 else 19) #[.agg #[], .slice (some ⟨P, 20, none⟩) 4 (cp - 20)] wc.drew fun e w' => e = .returned (.int .u32 v32) ∧ Kept (fun _ => False) w w') := HW.out _ hkc.drew
    clear HU HV HW
    go_wp2_with fail
    cases big with
    | false =>
      have q2' : wc.cell? ⟨Q, 2, none⟩ = some (.iface 55 (.agg #[])) := q2c
      clear q2 q2c
      have HW2 : Hid (Calls Ybaf.prog 19 #[.agg #[], .slice (some ⟨P, 20, none⟩) 4 (cp - 20)] wc.drew fun e w' => e = .returned (.int .u32 v32) ∧ Kept (fun _ => False) w w') := HW'
      clear HW'
      go_region_with (go_at_call 19; refine Calls.mono HW2.out ?_; rintro _ w4 ⟨rfl, hk4⟩; have q6 := hk4.cell qc6 (fun h => h); have f6 := (World.frozen?_of_block (a := ⟨Q, 6, none⟩) (hk4.block Q hQl (fun h => h))).trans qf6)
      go_wp2_with fail
      exact HR.out _ hk4
    | true =>
      have q2' : wc.cell? ⟨Q, 2, none⟩ = some (.iface 53 (.agg #[])) := q2c
      clear q2 q2c
      have HW2 : Hid (Calls Ybaf.prog 39 #[.agg #[], .slice (some ⟨P, 20, none⟩) 4 (cp - 20)] wc.drew fun e w' => e = .returned (.int .u32 v32) ∧ Kept (fun _ => False) w w') := HW'
      clear HW'
      go_region_with (go_at_call 39; refine Calls.mono HW2.out ?_; rintro _ w4 ⟨rfl, hk4⟩; have q6 := hk4.cell qc6 (fun h => h); have f6 := (World.frozen?_of_block (a := ⟨Q, 6, none⟩) (hk4.block Q hQl (fun h => h))).trans qf6)
      go_wp2_with fail
      exact HR.out _ hk4
end Go.Proofs.YbulkbgsmFmt
