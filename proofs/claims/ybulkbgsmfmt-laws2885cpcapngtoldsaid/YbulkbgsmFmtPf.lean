import Derived.Test.YbulkbgsmFmtCq
namespace Go.Proofs.YbulkbgsmFmt
open Go.RowKit
attribute [local go_sem] eq_same eq_nil m_u32le m_u32be m_u16le m_u16be

set_option maxHeartbeats 2000000 in
set_option maxRecDepth 100000 in
/-- packetBlockFrame of an enhanced packet block. -/
theorem pf_big (Q P I : Nat) (k cI i d m c : Nat) (link : Int) (x0 x1 x2 x3 y0 y1 y2 y3 : Int) (w : World) (q2 : w.cell? ⟨Q, 2, none⟩ = some (.iface 53 (.agg #[]))) (q7 : w.cell? ⟨Q, 7, none⟩ = some (.slice (some ⟨I, 0, none⟩) k cI)) (ci : w.cell? ⟨I, i * 2, none⟩ = some (.int .i64 link)) (hik : i < k) (hk : k ≤ 1000000) (hd : d + 20 ≤ m) (hm : m ≤ 16777216) (hc : m ≤ c) (hc2 : 20 < c)
    (c0 : w.cell? ⟨P, 8, none⟩ = some (.int .u8 x0)) (c1 : w.cell? ⟨P, 9, none⟩ = some (.int .u8 x1)) (c2 : w.cell? ⟨P, 10, none⟩ = some (.int .u8 x2)) (c3 : w.cell? ⟨P, 11, none⟩ = some (.int .u8 x3)) (h0 : 0 ≤ x0 ∧ x0 ≤ 255) (h1 : 0 ≤ x1 ∧ x1 ≤ 255) (h2 : 0 ≤ x2 ∧ x2 ≤ 255) (h3 : 0 ≤ x3 ∧ x3 ≤ 255) (hx : u32f true x0 x1 x2 x3 = (i : Int))
    (e0 : w.cell? ⟨P, 20, none⟩ = some (.int .u8 y0)) (e1 : w.cell? ⟨P, 21, none⟩ = some (.int .u8 y1)) (e2 : w.cell? ⟨P, 22, none⟩ = some (.int .u8 y2)) (e3 : w.cell? ⟨P, 23, none⟩ = some (.int .u8 y3)) (k0 : 0 ≤ y0 ∧ y0 ≤ 255) (k1 : 0 ≤ y1 ∧ y1 ≤ 255) (k2 : 0 ≤ y2 ∧ y2 ≤ 255) (k3 : 0 ≤ y3 ∧ y3 ≤ 255) (hy : u32f true y0 y1 y2 y3 = (d : Int)) :
    Calls Ybaf.prog 33 #[.pointer (some ⟨Q, 0, none⟩), .int .u32 6, .slice (some ⟨P, 8, none⟩) m c] w fun e w' => e = .returned (.tuple #[.int .i64 link, .slice (some ⟨P, 28, none⟩) d (c - 20), .nilIface]) ∧ Kept (fun _ => False) w w' := by
  have hS0 := u32_step true P 8 c _ _ _ _ w c0 c1 c2 c3 h0 h1 h2 h3
  rw [hx] at hS0
  have hS1 := u32_step true P 20 (c - 12) _ _ _ _ w e0 e1 e2 e3 k0 k1 k2 k3
  rw [hy] at hS1
  have HS0 : Hid (∀ w0, Kept (fun _ => False) w w0 → Calls Ybaf.prog 39 #[.agg #[], .slice (some ⟨P, 8, none⟩) 4 c] w0 fun e w' => e = .returned (.int .u32 (i : Int)) ∧ Kept (fun _ => False) w w') := hS0
  have HS1 : Hid (∀ w0, Kept (fun _ => False) w w0 → Calls Ybaf.prog 39 #[.agg #[], .slice (some ⟨P, 20, none⟩) 4 (c - 12)] w0 fun e w' => e = .returned (.int .u32 (d : Int)) ∧ Kept (fun _ => False) w w') := hS1
  clear hS0 hS1 c0 c1 c2 c3 h0 h1 h2 h3 hx e0 e1 e2 e3 k0 k1 k2 k3 hy
  have m20 : ¬ (m : Int) < 20 := by omega
  have hc4 : (4 : Int) ≤ (c : Int) := by omega
  have hc16 : (16 : Int) ≤ (c : Int) := by omega
  have hc12 : ¬ c = 12 := by omega
  have hc20 : ¬ c = 20 := by omega
  have hwm : IntKind.i64.wrap ((m : Int) - 20) = (m : Int) - 20 := IntWalk.i64_in _ (by omega)
  have hwm2 : IntKind.u64.wrap ((m : Int) - 20) = (m : Int) - 20 := by rw [IntKind.wrap_u64]; omega
  have hwd : IntKind.u64.wrap (d : Int) = (d : Int) := by rw [IntKind.wrap_u64]; omega
  have hgt : ¬ (m : Int) - 20 < (d : Int) := by omega
  have hwk : IntKind.u32.wrap (k : Int) = (k : Int) := by rw [IntKind.wrap_u32]; omega
  have hki : ¬ k ≤ i := by omega
  have hw20 : IntKind.u32.wrap (20 + (d : Int)) = 20 + (d : Int) := by rw [IntKind.wrap_u32]; omega
  have hs1 : (20 : Int) ≤ 20 + (d : Int) := by omega
  have hs2 : (20 : Int) + (d : Int) ≤ (c : Int) := by omega
  have hik' : (i : Int) < (k : Int) := by omega
  have hi0 : (0 : Int) ≤ (i : Int) := by omega
  go_enter Ybaf.func33, Ybaf.ntmps33
  go_wp2_with fail
  refine still_tail 8 mixed (by kernel_rfl) ?_
  simp only [List.take_succ_cons, List.take_zero, List.drop_succ_cons, List.drop_zero]
  repeat still_step
  try refine wpStill_nil ?_
  go_wp2_with fail
  refine Calls.mono (HS0.out _ ((Kept.refl _ w).drew)) ?_
  rintro _ w2 ⟨rfl, hk2⟩
  have q2b := hk2.cell q2 (fun h => h)
  go_wp2_with fail
  refine still_tail 8 mixed (by kernel_rfl) ?_
  simp only [List.take_succ_cons, List.take_zero, List.drop_succ_cons, List.drop_zero]
  repeat still_step
  try refine wpStill_nil ?_
  go_wp2_with fail
  refine Calls.mono (HS1.out _ hk2.drew) ?_
  rintro _ w3 ⟨rfl, hk3⟩
  have q7c := hk3.cell q7 (fun h => h)
  have cic := hk3.cell ci (fun h => h)
  clear hk2 q2b HS0 HS1
  go_wp2_with fail
  go_quiet (fail)
  go_wp2_with fail
  go_ret3
  refine ⟨?_, hk3.drewN nq⟩
  simp

set_option maxHeartbeats 2000000 in
set_option maxRecDepth 100000 in
/-- packetBlockFrame of an enhanced packet block. -/
theorem pf_little (Q P I : Nat) (k cI i d m c : Nat) (link : Int) (x0 x1 x2 x3 y0 y1 y2 y3 : Int) (w : World) (q2 : w.cell? ⟨Q, 2, none⟩ = some (.iface 55 (.agg #[]))) (q7 : w.cell? ⟨Q, 7, none⟩ = some (.slice (some ⟨I, 0, none⟩) k cI)) (ci : w.cell? ⟨I, i * 2, none⟩ = some (.int .i64 link)) (hik : i < k) (hk : k ≤ 1000000) (hd : d + 20 ≤ m) (hm : m ≤ 16777216) (hc : m ≤ c) (hc2 : 20 < c)
    (c0 : w.cell? ⟨P, 8, none⟩ = some (.int .u8 x0)) (c1 : w.cell? ⟨P, 9, none⟩ = some (.int .u8 x1)) (c2 : w.cell? ⟨P, 10, none⟩ = some (.int .u8 x2)) (c3 : w.cell? ⟨P, 11, none⟩ = some (.int .u8 x3)) (h0 : 0 ≤ x0 ∧ x0 ≤ 255) (h1 : 0 ≤ x1 ∧ x1 ≤ 255) (h2 : 0 ≤ x2 ∧ x2 ≤ 255) (h3 : 0 ≤ x3 ∧ x3 ≤ 255) (hx : u32f false x0 x1 x2 x3 = (i : Int))
    (e0 : w.cell? ⟨P, 20, none⟩ = some (.int .u8 y0)) (e1 : w.cell? ⟨P, 21, none⟩ = some (.int .u8 y1)) (e2 : w.cell? ⟨P, 22, none⟩ = some (.int .u8 y2)) (e3 : w.cell? ⟨P, 23, none⟩ = some (.int .u8 y3)) (k0 : 0 ≤ y0 ∧ y0 ≤ 255) (k1 : 0 ≤ y1 ∧ y1 ≤ 255) (k2 : 0 ≤ y2 ∧ y2 ≤ 255) (k3 : 0 ≤ y3 ∧ y3 ≤ 255) (hy : u32f false y0 y1 y2 y3 = (d : Int)) :
    Calls Ybaf.prog 33 #[.pointer (some ⟨Q, 0, none⟩), .int .u32 6, .slice (some ⟨P, 8, none⟩) m c] w fun e w' => e = .returned (.tuple #[.int .i64 link, .slice (some ⟨P, 28, none⟩) d (c - 20), .nilIface]) ∧ Kept (fun _ => False) w w' := by
  have hS0 := u32_step false P 8 c _ _ _ _ w c0 c1 c2 c3 h0 h1 h2 h3
  rw [hx] at hS0
  have hS1 := u32_step false P 20 (c - 12) _ _ _ _ w e0 e1 e2 e3 k0 k1 k2 k3
  rw [hy] at hS1
  have HS0 : Hid (∀ w0, Kept (fun _ => False) w w0 → Calls Ybaf.prog 19 #[.agg #[], .slice (some ⟨P, 8, none⟩) 4 c] w0 fun e w' => e = .returned (.int .u32 (i : Int)) ∧ Kept (fun _ => False) w w') := hS0
  have HS1 : Hid (∀ w0, Kept (fun _ => False) w w0 → Calls Ybaf.prog 19 #[.agg #[], .slice (some ⟨P, 20, none⟩) 4 (c - 12)] w0 fun e w' => e = .returned (.int .u32 (d : Int)) ∧ Kept (fun _ => False) w w') := hS1
  clear hS0 hS1 c0 c1 c2 c3 h0 h1 h2 h3 hx e0 e1 e2 e3 k0 k1 k2 k3 hy
  have m20 : ¬ (m : Int) < 20 := by omega
  have hc4 : (4 : Int) ≤ (c : Int) := by omega
  have hc16 : (16 : Int) ≤ (c : Int) := by omega
  have hc12 : ¬ c = 12 := by omega
  have hc20 : ¬ c = 20 := by omega
  have hwm : IntKind.i64.wrap ((m : Int) - 20) = (m : Int) - 20 := IntWalk.i64_in _ (by omega)
  have hwm2 : IntKind.u64.wrap ((m : Int) - 20) = (m : Int) - 20 := by rw [IntKind.wrap_u64]; omega
  have hwd : IntKind.u64.wrap (d : Int) = (d : Int) := by rw [IntKind.wrap_u64]; omega
  have hgt : ¬ (m : Int) - 20 < (d : Int) := by omega
  have hwk : IntKind.u32.wrap (k : Int) = (k : Int) := by rw [IntKind.wrap_u32]; omega
  have hki : ¬ k ≤ i := by omega
  have hw20 : IntKind.u32.wrap (20 + (d : Int)) = 20 + (d : Int) := by rw [IntKind.wrap_u32]; omega
  have hs1 : (20 : Int) ≤ 20 + (d : Int) := by omega
  have hs2 : (20 : Int) + (d : Int) ≤ (c : Int) := by omega
  have hik' : (i : Int) < (k : Int) := by omega
  have hi0 : (0 : Int) ≤ (i : Int) := by omega
  go_enter Ybaf.func33, Ybaf.ntmps33
  go_wp2_with fail
  refine still_tail 8 mixed (by kernel_rfl) ?_
  simp only [List.take_succ_cons, List.take_zero, List.drop_succ_cons, List.drop_zero]
  repeat still_step
  try refine wpStill_nil ?_
  go_wp2_with fail
  refine Calls.mono (HS0.out _ ((Kept.refl _ w).drew)) ?_
  rintro _ w2 ⟨rfl, hk2⟩
  have q2b := hk2.cell q2 (fun h => h)
  go_wp2_with fail
  refine still_tail 8 mixed (by kernel_rfl) ?_
  simp only [List.take_succ_cons, List.take_zero, List.drop_succ_cons, List.drop_zero]
  repeat still_step
  try refine wpStill_nil ?_
  go_wp2_with fail
  refine Calls.mono (HS1.out _ hk2.drew) ?_
  rintro _ w3 ⟨rfl, hk3⟩
  have q7c := hk3.cell q7 (fun h => h)
  have cic := hk3.cell ci (fun h => h)
  clear hk2 q2b HS0 HS1
  go_wp2_with fail
  go_quiet (fail)
  go_wp2_with fail
  go_ret3
  refine ⟨?_, hk3.drewN nq⟩
  simp

end Go.Proofs.YbulkbgsmFmt
