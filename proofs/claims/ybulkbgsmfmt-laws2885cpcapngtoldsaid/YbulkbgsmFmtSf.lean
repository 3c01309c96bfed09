import Derived.Test.YbulkbgsmFmtCq
namespace Go.Proofs.YbulkbgsmFmt
open Go.RowKit
attribute [local go_sem] eq_same eq_nil m_u32le m_u32be m_u16le m_u16be

set_option maxHeartbeats 2000000 in
set_option maxRecDepth 100000 in
/-- simplePacketFrame. -/
theorem sf_big (Q P I : Nat) (k cI d m c : Nat) (link : Int) (y0 y1 y2 y3 : Int) (w : World) (q2 : w.cell? ⟨Q, 2, none⟩ = some (.iface 53 (.agg #[]))) (q7 : w.cell? ⟨Q, 7, none⟩ = some (.slice (some ⟨I, 0, none⟩) k cI)) (ci : w.cell? ⟨I, 0, none⟩ = some (.int .i64 link)) (ci1 : w.cell? ⟨I, 1, none⟩ = some (.int .u32 0)) (hk0 : 0 < k) (hd : d + 4 ≤ m) (hm : m ≤ 16777216) (hc : m ≤ c) (hc2 : 4 < c)
    (e0 : w.cell? ⟨P, 8, none⟩ = some (.int .u8 y0)) (e1 : w.cell? ⟨P, 9, none⟩ = some (.int .u8 y1)) (e2 : w.cell? ⟨P, 10, none⟩ = some (.int .u8 y2)) (e3 : w.cell? ⟨P, 11, none⟩ = some (.int .u8 y3)) (k0 : 0 ≤ y0 ∧ y0 ≤ 255) (k1 : 0 ≤ y1 ∧ y1 ≤ 255) (k2 : 0 ≤ y2 ∧ y2 ≤ 255) (k3 : 0 ≤ y3 ∧ y3 ≤ 255) (hy : u32f true y0 y1 y2 y3 = (d : Int)) :
    Calls Ybaf.prog 34 #[.pointer (some ⟨Q, 0, none⟩), .slice (some ⟨P, 8, none⟩) m c] w fun e w' => e = .returned (.tuple #[.int .i64 link, .slice (some ⟨P, 12, none⟩) d (c - 4), .nilIface]) ∧ Kept (fun _ => False) w w' := by
  have hka : Kept (fun _ => False) w (w.alloc (.cells #[.int .i64 link, .int .u32 0] 89)) := (Kept.refl _ w).alloc _
  have hS1 := u32_step true P 8 c _ _ _ _ (w.alloc (.cells #[.int .i64 link, .int .u32 0] 89)) (hka.cell e0 (fun h => h)) (hka.cell e1 (fun h => h)) (hka.cell e2 (fun h => h)) (hka.cell e3 (fun h => h)) k0 k1 k2 k3
  rw [hy] at hS1
  have HS1 : Hid (∀ w0, Kept (fun _ => False) (w.alloc (.cells #[.int .i64 link, .int .u32 0] 89)) w0 → Calls Ybaf.prog 39 #[.agg #[], .slice (some ⟨P, 8, none⟩) 4 c] w0 fun e w' => e = .returned (.int .u32 (d : Int)) ∧ Kept (fun _ => False) (w.alloc (.cells #[.int .i64 link, .int .u32 0] 89)) w') := hS1
  have hX := Row.new w 89 #[.int .i64 link, .int .u32 0]
  have hIl := World.block_lt_of_cell? w _ ci
  have hQl := World.block_lt_of_cell? w _ q2
  clear hS1 e0 e1 e2 e3 k0 k1 k2 k3 hy
  have m4 : ¬ (m : Int) < 4 := by omega
  have hc4 : (4 : Int) ≤ (c : Int) := by omega
  have hcn4 : ¬ c = 4 := by omega
  have hkz : ¬ k = 0 := by omega
  have hkp : (0 : Int) < (k : Int) := by omega
  have hwm : IntKind.i64.wrap ((m : Int) - 4) = (m : Int) - 4 := IntWalk.i64_in _ (by omega)
  have hwm2 : IntKind.u64.wrap ((m : Int) - 4) = (m : Int) - 4 := by rw [IntKind.wrap_u64]; omega
  have hwd : IntKind.u64.wrap (d : Int) = (d : Int) := by rw [IntKind.wrap_u64]; omega
  have hgt : ¬ (m : Int) - 4 < (d : Int) := by omega
  have hw4 : IntKind.u64.wrap (4 + (d : Int)) = 4 + (d : Int) := by rw [IntKind.wrap_u64]; omega
  have hs1 : (4 : Int) ≤ 4 + (d : Int) := by omega
  have hs2 : (4 : Int) + (d : Int) ≤ (c : Int) := by omega
  go_enter Ybaf.func34, Ybaf.ntmps34
  go_wp2_with fail
  refine still_tail 8 mixed (by kernel_rfl) ?_
  simp only [List.take_succ_cons, List.take_zero, List.drop_succ_cons, List.drop_zero]
  repeat still_step
  try refine wpStill_nil ?_
  go_wp2_with fail
  refine Calls.mono (HS1.out _ ((Kept.refl _ _).drew)) ?_
  rintro _ w2 ⟨rfl, hk2⟩
  have hX2 := hX.kept hk2 (fun h => h)
  have x0 : w2.cell? ⟨w.heap.size, 0, none⟩ = some (.int .i64 link) := hX2.cell 0
  have x1 : w2.cell? ⟨w.heap.size, 1, none⟩ = some (.int .u32 0) := hX2.cell 1
  have HZ : Hid (Kept (fun _ => False) w w2) := hka.trans hk2
  clear hX hX2 hk2 hka HS1
  go_wp2_with fail
  go_quiet (fail)
  go_wp2_with fail
  go_ret3
  refine ⟨?_, HZ.out.drewN nq⟩
  simp

set_option maxHeartbeats 2000000 in
set_option maxRecDepth 100000 in
/-- simplePacketFrame. -/
theorem sf_little (Q P I : Nat) (k cI d m c : Nat) (link : Int) (y0 y1 y2 y3 : Int) (w : World) (q2 : w.cell? ⟨Q, 2, none⟩ = some (.iface 55 (.agg #[]))) (q7 : w.cell? ⟨Q, 7, none⟩ = some (.slice (some ⟨I, 0, none⟩) k cI)) (ci : w.cell? ⟨I, 0, none⟩ = some (.int .i64 link)) (ci1 : w.cell? ⟨I, 1, none⟩ = some (.int .u32 0)) (hk0 : 0 < k) (hd : d + 4 ≤ m) (hm : m ≤ 16777216) (hc : m ≤ c) (hc2 : 4 < c)
    (e0 : w.cell? ⟨P, 8, none⟩ = some (.int .u8 y0)) (e1 : w.cell? ⟨P, 9, none⟩ = some (.int .u8 y1)) (e2 : w.cell? ⟨P, 10, none⟩ = some (.int .u8 y2)) (e3 : w.cell? ⟨P, 11, none⟩ = some (.int .u8 y3)) (k0 : 0 ≤ y0 ∧ y0 ≤ 255) (k1 : 0 ≤ y1 ∧ y1 ≤ 255) (k2 : 0 ≤ y2 ∧ y2 ≤ 255) (k3 : 0 ≤ y3 ∧ y3 ≤ 255) (hy : u32f false y0 y1 y2 y3 = (d : Int)) :
    Calls Ybaf.prog 34 #[.pointer (some ⟨Q, 0, none⟩), .slice (some ⟨P, 8, none⟩) m c] w fun e w' => e = .returned (.tuple #[.int .i64 link, .slice (some ⟨P, 12, none⟩) d (c - 4), .nilIface]) ∧ Kept (fun _ => False) w w' := by
  have hka : Kept (fun _ => False) w (w.alloc (.cells #[.int .i64 link, .int .u32 0] 89)) := (Kept.refl _ w).alloc _
  have hS1 := u32_step false P 8 c _ _ _ _ (w.alloc (.cells #[.int .i64 link, .int .u32 0] 89)) (hka.cell e0 (fun h => h)) (hka.cell e1 (fun h => h)) (hka.cell e2 (fun h => h)) (hka.cell e3 (fun h => h)) k0 k1 k2 k3
  rw [hy] at hS1
  have HS1 : Hid (∀ w0, Kept (fun _ => False) (w.alloc (.cells #[.int .i64 link, .int .u32 0] 89)) w0 → Calls Ybaf.prog 19 #[.agg #[], .slice (some ⟨P, 8, none⟩) 4 c] w0 fun e w' => e = .returned (.int .u32 (d : Int)) ∧ Kept (fun _ => False) (w.alloc (.cells #[.int .i64 link, .int .u32 0] 89)) w') := hS1
  have hX := Row.new w 89 #[.int .i64 link, .int .u32 0]
  have hIl := World.block_lt_of_cell? w _ ci
  have hQl := World.block_lt_of_cell? w _ q2
  clear hS1 e0 e1 e2 e3 k0 k1 k2 k3 hy
  have m4 : ¬ (m : Int) < 4 := by omega
  have hc4 : (4 : Int) ≤ (c : Int) := by omega
  have hcn4 : ¬ c = 4 := by omega
  have hkz : ¬ k = 0 := by omega
  have hkp : (0 : Int) < (k : Int) := by omega
  have hwm : IntKind.i64.wrap ((m : Int) - 4) = (m : Int) - 4 := IntWalk.i64_in _ (by omega)
  have hwm2 : IntKind.u64.wrap ((m : Int) - 4) = (m : Int) - 4 := by rw [IntKind.wrap_u64]; omega
  have hwd : IntKind.u64.wrap (d : Int) = (d : Int) := by rw [IntKind.wrap_u64]; omega
  have hgt : ¬ (m : Int) - 4 < (d : Int) := by omega
  have hw4 : IntKind.u64.wrap (4 + (d : Int)) = 4 + (d : Int) := by rw [IntKind.wrap_u64]; omega
  have hs1 : (4 : Int) ≤ 4 + (d : Int) := by omega
  have hs2 : (4 : Int) + (d : Int) ≤ (c : Int) := by omega
  go_enter Ybaf.func34, Ybaf.ntmps34
  go_wp2_with fail
  refine still_tail 8 mixed (by kernel_rfl) ?_
  simp only [List.take_succ_cons, List.take_zero, List.drop_succ_cons, List.drop_zero]
  repeat still_step
  try refine wpStill_nil ?_
  go_wp2_with fail
  refine Calls.mono (HS1.out _ ((Kept.refl _ _).drew)) ?_
  rintro _ w2 ⟨rfl, hk2⟩
  have hX2 := hX.kept hk2 (fun h => h)
  have x0 : w2.cell? ⟨w.heap.size, 0, none⟩ = some (.int .i64 link) := hX2.cell 0
  have x1 : w2.cell? ⟨w.heap.size, 1, none⟩ = some (.int .u32 0) := hX2.cell 1
  have HZ : Hid (Kept (fun _ => False) w w2) := hka.trans hk2
  clear hX hX2 hk2 hka HS1
  go_wp2_with fail
  go_quiet (fail)
  go_wp2_with fail
  go_ret3
  refine ⟨?_, HZ.out.drewN nq⟩
  simp

end Go.Proofs.YbulkbgsmFmt
