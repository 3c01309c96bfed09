import Derived.Test.YbulkbgsmFmtRb
import Derived.Test.YbulkbgsmFmtTb
import Derived.Test.YbulkbgsmFmtPl
namespace Go.Proofs.YbulkbgsmFmt
open Go.RowKit
attribute [local go_sem] eq_same eq_nil m_u32le m_u32be m_u16le m_u16be

set_option maxHeartbeats 2000000 in
set_option maxRecDepth 100000 in
/-- readBlock of the section header at the file's start. -/
theorem sec_big (V : Nat → Prop) (Q B Y U D cap : Nat) (L : List Int) (t : Nat) (fr : Int) (ifs : Value) (ae au : Addr) (w : World) (h : Cq w V Q B Y U D cap L 0 .nilIface fr ifs) (hF : First w B U Y t L) (hE : w.cell? ⟨0, 0, none⟩ = some (.iface 96 (.pointer (some ae)))) (hX : w.cell? ⟨8, 0, none⟩ = some (.iface 96 (.pointer (some au))))
    (hL : L.take 12 = mag12 true) (hl : 28 ≤ L.length) (hend : (L.drop 24).take 4 = b32 true 28) :
    Calls Ybaf.prog 29 #[.pointer (some ⟨Q, 0, none⟩)] w (Rb V Q B Y U D cap L 0 28 16 168627466 (bo true) fr ifs w) := by
  obtain ⟨offs, lk, at', bv, hQ, _⟩ := h.row
  have hkA : Kept (fun k => k = Q) w (w.setCell ⟨Q, 8, none⟩ (.int .i64 offs)) := (Kept.refl (fun k => k = Q) w).setCell (g := Q) (j := 8) (fun _ => rfl) _
  have HP : Hid _ := first_peek V Q B Y U D cap L 8 t .nilIface fr ifs (w.setCell ⟨Q, 8, none⟩ (.int .i64 offs)) (h.setAt offs) (hF.kept hkA (fun e => h.nB e.symm) (fun e => h.nU e.symm)) (by decide) (by decide)
  have HK1 : Hid (Kept (fun k => ¬ V k) w (w.setCell ⟨Q, 8, none⟩ (.int .i64 offs))) := Kept.mono (q := fun k => ¬ V k) hkA (fun k _ e => by rw [e]; exact h.vQ)
  have HV : Hid (¬ V Q ∧ ¬ V B ∧ V 0 ∧ V 8) := ⟨h.vQ, h.vB, h.v10 0 (by decide), h.v10 8 (by decide)⟩
  have HE : Hid (w.cell? ⟨0, 0, none⟩ = some (.iface 96 (.pointer (some ae))) ∧ w.cell? ⟨8, 0, none⟩ = some (.iface 96 (.pointer (some au)))) := ⟨hE, hX⟩
  have c0 : w.cell? ⟨Q, 0, none⟩ = some (.pointer (some ⟨B, 0, none⟩)) := hQ.cell 0
  have c4 : w.cell? ⟨Q, 4, none⟩ = some (.int .i64 offs) := hQ.cell 4
  have c8 : w.cell? ⟨Q, 8, none⟩ = some (.int .i64 at') := hQ.cell 8
  have f8 := hQ.frozen 8
  have HL : Hid (L.take 12 = mag12 true ∧ (L.drop 24).take 4 = b32 true 28) := ⟨hL, hend⟩
  obtain ⟨n, HN⟩ : ∃ n : Nat, Hid (n = 28) := ⟨28, rfl⟩
  obtain ⟨n4, HN4⟩ : ∃ n4 : Nat, Hid (n4 = 24) := ⟨24, rfl⟩
  have hN := HN.out
  have hN4 := HN4.out
  have hmod : (n : Int) % 4 = 0 := by omega
  have n12 : ¬ (n : Int) < 12 := by omega
  have nmx : ¬ (16777216 : Int) < (n : Int) := by omega
  have hwn : IntKind.i64.wrap (n : Int) = (n : Int) := IntWalk.i64_in _ (by omega)
  have hw4 : IntKind.u32.wrap ((n : Int) - 4) = (n4 : Int) := by rw [IntKind.wrap_u32]; omega
  have hn8 : n4 - 8 = 16 := by omega
  have hn44 : n - n4 = 4 := by omega
  have hi8 : (8 : Int) ≤ (n4 : Int) := by omega
  have hi4 : (n4 : Int) ≤ (n : Int) := by omega
  clear h hF hE hX hkA hQ hL hend hN hN4
  go_enter Ybaf.func29, Ybaf.ntmps29
  go_wp2_with fail
  refine Calls.mono HP.out ?_
  rintro _ w2 ⟨rfl, hC2, hF2, hk2⟩
  have hkw2 : Kept (fun k => ¬ V k) w w2 := HK1.out.trans (Kept.mono (q := fun k => ¬ V k) hk2 (fun k _ h => by rw [h]; exact HV.out.2.1))
  have b0 := hF2.cell 0 (by decide) 10 (by rw [HL.out.1]; rfl)
  have b1 := hF2.cell 1 (by decide) 13 (by rw [HL.out.1]; rfl)
  have b2 := hF2.cell 2 (by decide) 13 (by rw [HL.out.1]; rfl)
  have b3 := hF2.cell 3 (by decide) 10 (by rw [HL.out.1]; rfl)
  have HS0 : Hid (∀ w0, Kept (fun _ => False) w2 w0 → Calls Ybaf.prog 19 #[.agg #[], .slice (some ⟨U, 0, none⟩) 4 4096] w0 fun e w' => e = .returned (.int .u32 168627466) ∧ Kept (fun _ => False) w2 w') := u32_step false U 0 4096 _ _ _ _ w2 b0 b1 b2 b3 (by decide) (by decide) (by decide) (by decide)
  have HC2 : Hid (Cq w2 V Q B Y U D cap L 0 .nilIface fr ifs) := hC2
  have HF2 : Hid (First w2 B U Y t L ∧ Kept (fun k => ¬ V k) w w2) := ⟨hF2, hkw2⟩
  clear HP HK1 hC2 hF2 hk2 hkw2 b0 b1 b2 b3 c0 c4 c8 f8
  go_wp2_with fail
  refine still_tail 3 mixed (by kernel_rfl) ?_
  simp only [List.take_succ_cons, List.take_zero, List.drop_succ_cons, List.drop_zero]
  repeat still_step
  try refine wpStill_nil ?_
  go_wp2_with fail
  refine Calls.mono (HS0.out _ ((Kept.refl _ w2).drew)) ?_
  rintro _ w3 ⟨rfl, hk3⟩
  have HT : Hid _ := tb_big V Q B Y U D cap L t (.int .i64 offs) fr ifs w3 (HC2.out.kept hk3) (HF2.out.1.kept hk3 (fun h => h) (fun h => h)) HL.out.1
  have HK3 : Hid (Kept (fun k => ¬ V k) w w3) := HF2.out.2.trans (Kept.mono (q := fun k => ¬ V k) hk3 (fun _ _ h => h.elim))
  clear hk3 HC2 HF2 HS0
  go_wp2_with fail
  refine Calls.mono HT.out ?_
  rintro _ w4 ⟨rfl, hC4, hF4, hk4⟩
  have b4 := hF4.cell 4 (by decide) 0 (by rw [HL.out.1]; rfl)
  have b5 := hF4.cell 5 (by decide) 0 (by rw [HL.out.1]; rfl)
  have b6 := hF4.cell 6 (by decide) 0 (by rw [HL.out.1]; rfl)
  have b7 := hF4.cell 7 (by decide) 28 (by rw [HL.out.1]; rfl)
  have HS2 : Hid (∀ w0, Kept (fun _ => False) w4 w0 → Calls Ybaf.prog 39 #[.agg #[], .slice (some ⟨U, 4, none⟩) 4 4092] w0 fun e w' => e = .returned (.int .u32 (n : Int)) ∧ Kept (fun _ => False) w4 w') := by
    rw [HN.out]
    exact u32_step true U 4 4092 _ _ _ _ w4 b4 b5 b6 b7 (by decide) (by decide) (by decide) (by decide)
  obtain ⟨o4, l4, a4, v4, hQ4, _⟩ := hC4.row
  have q4 : w4.cell? ⟨Q, 2, none⟩ = some (.iface 53 (.agg #[])) := hQ4.cell 2
  have HC4 : Hid (Cq w4 V Q B Y U D cap L 0 (bo true) fr ifs) := hC4
  have HK4 : Hid (Kept (fun k => ¬ V k) w w4) := HK3.out.trans hk4
  clear HT HK3 hC4 hF4 hk4 hQ4 b4 b5 b6 b7
  go_wp2_with fail
  refine still_tail 8 mixed (by kernel_rfl) ?_
  simp only [List.take_succ_cons, List.take_zero, List.drop_succ_cons, List.drop_zero]
  repeat still_step
  try refine wpStill_nil ?_
  go_wp2_with fail
  refine Calls.mono (HS2.out _ ((Kept.refl _ w4).drew)) ?_
  rintro _ w5 ⟨rfl, hk5⟩
  have hK5 : Kept (fun k => ¬ V k) w w5 := HK4.out.trans (Kept.mono (q := fun k => ¬ V k) hk5 (fun _ _ h => h.elim))
  have HR5 : Hid _ := rq_ok V Q B Y U D cap L 0 n (bo true) fr ifs ae au w5 (HC4.out.kept hk5) (by have := HN.out; omega) (by have := HN.out; omega) (by have := HN.out; omega) (hK5.cell HE.out.1 (fun h => h HV.out.2.2.1)) (hK5.cell HE.out.2 (fun h => h HV.out.2.2.2))
  have HK5 : Hid (Kept (fun k => ¬ V k) w w5) := hK5
  clear hk5 hK5 HS2 HC4 HK4 q4
  go_wp2_with fail
  refine Calls.mono HR5.out ?_
  rintro _ w6 ⟨P, cp, qs, rfl, hcp, hk6, hql, hP, hqs, vP, nPQ, hC6⟩
  have hcell : ∀ j (hj : j < 28), w6.cell? ⟨P, j, none⟩ = some (.int .u8 L[j]) := by
    intro j hj
    have hx := win_get (L := L) (p := 0) (n := n) j (by have := HN.out; omega) (by omega)
    rw [hP.cell j]
    rw [← hqs, List.getElem?_take_of_lt (by have := HN.out; omega)] at hx
    simp only [Nat.zero_add] at hx
    simp [by8, hx]
  have g0 := get_of HL.out.2 0 0 rfl (by decide) (by omega)
  have g1 := get_of HL.out.2 1 0 rfl (by decide) (by omega)
  have g2 := get_of HL.out.2 2 0 rfl (by decide) (by omega)
  have g3 := get_of HL.out.2 3 28 rfl (by decide) (by omega)
  have d0 := hcell 24 (by decide)
  have d1 := hcell 25 (by decide)
  have d2 := hcell 26 (by decide)
  have d3 := hcell 27 (by decide)
  simp only [Nat.reduceAdd] at g0 g1 g2 g3
  rw [g0] at d0
  rw [g1] at d1
  rw [g2] at d2
  rw [g3] at d3
  have HS3 : Hid (∀ w0, Kept (fun _ => False) w6 w0 → Calls Ybaf.prog 39 #[.agg #[], .slice (some ⟨P, n4, none⟩) 4 (cp - n4)] w0 fun e w' => e = .returned (.int .u32 (n : Int)) ∧ Kept (fun _ => False) w6 w') := by
    rw [HN.out, HN4.out]
    exact u32_step true P 24 (cp - 24) _ _ _ _ w6 d0 d1 d2 d3 (by decide) (by decide) (by decide) (by decide)
  obtain ⟨o6, l6, a6, v6, hQ6, _⟩ := hC6.row
  have q6 : w6.cell? ⟨Q, 2, none⟩ = some (.iface 53 (.agg #[])) := hQ6.cell 2
  have HZ : Hid (28 ≤ cp ∧ qs.length = cp ∧ Row w6 P 5 (by8 qs) ∧ qs.take 28 = (L.drop 0).take 28 ∧ ¬ V P ∧ P ≠ Q ∧ Kept (fun k => ¬ V k) w w6 ∧ Cq w6 V Q B Y U D cap L (0 + 28) (bo true) fr ifs) := by
    have e := HN.out
    subst e
    exact ⟨hcp, hql, hP, hqs, vP, nPQ, HK5.out.trans hk6, hC6⟩
  have hN := HN.out
  have hN4 := HN4.out
  have hp4 : (n4 : Int) ≤ (cp : Int) := by omega
  have hpn : (n : Int) ≤ (cp : Int) := by omega
  have hpc : ¬ cp = n4 := by omega
  have hp8 : ¬ cp = 8 := by omega
  clear HR5 hcell g0 g1 g2 g3 d0 d1 d2 d3 hC6 hQ6 hP hqs hk6 HK5 HE HV hcp hql HL hN hN4
  go_wp2_with fail
  refine still_tail 10 mixed (by kernel_rfl) ?_
  simp only [List.take_succ_cons, List.take_zero, List.drop_succ_cons, List.drop_zero]
  repeat still_step
  try refine wpStill_nil ?_
  go_wp2_with fail
  refine Calls.mono (HS3.out _ ((Kept.refl _ w6).drew)) ?_
  rintro _ w7 ⟨rfl, hk7⟩
  go_wp2_with fail
  go_quiet (fail)
  go_wp2_with fail
  go_ret3
  obtain ⟨f1, f2, f3, f4, f5, f6, f7, f8⟩ := HZ.out
  have hk8 := hk7.drewN nq
  exact ⟨P, cp, qs, rfl, f1, f2, f3.kept hk8 (fun h => h), f4, f5, f6, f7.trans (Kept.mono (q := fun k => ¬ V k) hk8 (fun _ _ h => h.elim)), f8.kept hk8⟩

end Go.Proofs.YbulkbgsmFmt
