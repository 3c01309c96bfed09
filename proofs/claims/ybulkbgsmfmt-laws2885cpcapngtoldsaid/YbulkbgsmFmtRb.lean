import Derived.Test.YbulkbgsmFmtCq
namespace Go.Proofs.YbulkbgsmFmt
open Go.RowKit
attribute [local go_sem] eq_same eq_nil m_u32le m_u32be m_u16le m_u16be

theorem win_get {L : List Int} {p n : Nat} (j : Nat) (hj : j < n) (hl : p + j < L.length) : ((L.drop p).take n)[j]? = some L[p + j] := by
  rw [List.getElem?_take_of_lt hj, List.getElem?_drop, List.getElem?_eq_getElem hl]

/-- What readBlock answers. -/
def Rb (V : Nat → Prop) (Q B Y U D cap : Nat) (L : List Int) (p n m : Nat) (typ : Int) (ord : Value) (fr : Int) (ifs : Value) (w : World) (e : Ending) (w' : World) : Prop :=
  ∃ (P cp : Nat) (qs : List Int), e = .returned (.tuple #[.int .u32 typ, .slice (some ⟨P, 8, none⟩) m (cp - 8), .nilIface]) ∧ n ≤ cp ∧ qs.length = cp ∧ Row w' P 5 (by8 qs) ∧ qs.take n = (L.drop p).take n ∧ ¬ V P ∧ P ≠ Q ∧ Kept (fun k => ¬ V k) w w' ∧ Cq w' V Q B Y U D cap L (p + n) ord fr ifs

set_option maxHeartbeats 2000000 in
set_option maxRecDepth 100000 in
/-- readBlock, a block that is no section header. -/
theorem rb_big (V : Nat → Prop) (Q B Y U D cap : Nat) (L : List Int) (p n n4 m : Nat) (typ : Int) (fr : Int) (ifs : Value) (ae au : Addr) (w : World) (h : Cq w V Q B Y U D cap L p (bo true) fr ifs) (hE : w.cell? ⟨0, 0, none⟩ = some (.iface 96 (.pointer (some ae)))) (hX : w.cell? ⟨8, 0, none⟩ = some (.iface 96 (.pointer (some au))))
    (hb : ∀ x ∈ L, 0 ≤ x ∧ x ≤ 255) (hm : m + 12 = n) (hm4 : m + 8 = n4) (hmod : (n : Int) % 4 = 0) (hmx : n ≤ 16777216) (hp : p + n ≤ L.length)
    (u0 : u32f true L[p] L[p + 1] L[p + 2] L[p + 3] = typ) (us0 : ¬ u32f false L[p] L[p + 1] L[p + 2] L[p + 3] = 168627466) (u4 : u32f true L[p + 4] L[p + 5] L[p + 6] L[p + 7] = (n : Int)) (u8 : u32f true L[p + n4] L[p + n4 + 1] L[p + n4 + 2] L[p + n4 + 3] = (n : Int)) :
    Calls Ybaf.prog 29 #[.pointer (some ⟨Q, 0, none⟩)] w (Rb V Q B Y U D cap L p n m typ (bo true) fr ifs w) := by
  obtain ⟨offs, lk, at', bv, hQ, _⟩ := h.row
  have HP : Hid _ := peek_ok2 B Y U D cap L p 8 (w.setCell ⟨Q, 8, none⟩ (.int .i64 offs)) (h.setAt offs).sp (by decide) (by decide) (by omega)
  have HC1 : Hid (Cq (w.setCell ⟨Q, 8, none⟩ (.int .i64 offs)) V Q B Y U D cap L p (bo true) fr ifs) := h.setAt offs
  have HK1 : Hid (Kept (fun k => ¬ V k) w (w.setCell ⟨Q, 8, none⟩ (.int .i64 offs))) := (Kept.refl _ w).setCell (g := Q) (j := 8) (fun _ => h.vQ) _
  have HH : Hid ((∀ x ∈ L, 0 ≤ x ∧ x ≤ 255) ∧ p + n ≤ L.length ∧ m + 12 = n ∧ m + 8 = n4 ∧ n ≤ 16777216) := ⟨hb, hp, hm, hm4, hmx⟩
  have HV : Hid (¬ V Q ∧ ¬ V B ∧ ¬ V Y ∧ ¬ V U ∧ V 0 ∧ V 8) := ⟨h.vQ, h.vB, h.vY, h.vU, h.v10 0 (by decide), h.v10 8 (by decide)⟩
  have HE : Hid (w.cell? ⟨0, 0, none⟩ = some (.iface 96 (.pointer (some ae))) ∧ w.cell? ⟨8, 0, none⟩ = some (.iface 96 (.pointer (some au)))) := ⟨hE, hX⟩
  have c0 : w.cell? ⟨Q, 0, none⟩ = some (.pointer (some ⟨B, 0, none⟩)) := hQ.cell 0
  have c4 : w.cell? ⟨Q, 4, none⟩ = some (.int .i64 offs) := hQ.cell 4
  have c8 : w.cell? ⟨Q, 8, none⟩ = some (.int .i64 at') := hQ.cell 8
  have f8 := hQ.frozen 8
  have n12 : ¬ (n : Int) < 12 := by omega
  have nmx : ¬ (16777216 : Int) < (n : Int) := by omega
  have hwn : IntKind.i64.wrap (n : Int) = (n : Int) := IntWalk.i64_in _ (by omega)
  have hw4 : IntKind.u32.wrap ((n : Int) - 4) = (n4 : Int) := by rw [IntKind.wrap_u32]; omega
  have k0 := hb L[p] (List.getElem_mem _)
  have k1 := hb L[p + 1] (List.getElem_mem _)
  have k2 := hb L[p + 2] (List.getElem_mem _)
  have k3 := hb L[p + 3] (List.getElem_mem _)
  have k4 := hb L[p + 4] (List.getElem_mem _)
  have k5 := hb L[p + 5] (List.getElem_mem _)
  have k6 := hb L[p + 6] (List.getElem_mem _)
  have k7 := hb L[p + 7] (List.getElem_mem _)
  have g0 := win_get (n := 8) (p := p) (L := L) 0 (by decide) (by omega)
  have g1 := win_get (n := 8) (p := p) (L := L) 1 (by decide) (by omega)
  have g2 := win_get (n := 8) (p := p) (L := L) 2 (by decide) (by omega)
  have g3 := win_get (n := 8) (p := p) (L := L) 3 (by decide) (by omega)
  have g4 := win_get (n := 8) (p := p) (L := L) 4 (by decide) (by omega)
  have g5 := win_get (n := 8) (p := p) (L := L) 5 (by decide) (by omega)
  have g6 := win_get (n := 8) (p := p) (L := L) 6 (by decide) (by omega)
  have g7 := win_get (n := 8) (p := p) (L := L) 7 (by decide) (by omega)
  simp only [Nat.add_zero] at g0
  have r0 := win_get (n := n) (p := p) (L := L) n4 (by omega) (by omega)
  have r1 := win_get (n := n) (p := p) (L := L) (n4 + 1) (by omega) (by omega)
  have r2 := win_get (n := n) (p := p) (L := L) (n4 + 2) (by omega) (by omega)
  have r3 := win_get (n := n) (p := p) (L := L) (n4 + 3) (by omega) (by omega)
  have j0 := hb L[p + n4] (List.getElem_mem _)
  have j1 := hb L[p + n4 + 1] (List.getElem_mem _)
  have j2 := hb L[p + n4 + 2] (List.getElem_mem _)
  have j3 := hb L[p + n4 + 3] (List.getElem_mem _)
  have HR : Hid (((L.drop p).take n)[n4]? = some L[p + n4] ∧ ((L.drop p).take n)[n4 + 1]? = some L[p + n4 + 1] ∧ ((L.drop p).take n)[n4 + 2]? = some L[p + n4 + 2] ∧ ((L.drop p).take n)[n4 + 3]? = some L[p + n4 + 3]) := ⟨r0, r1, r2, r3⟩
  have HJ : Hid ((0 ≤ L[p + n4] ∧ L[p + n4] ≤ 255) ∧ (0 ≤ L[p + n4 + 1] ∧ L[p + n4 + 1] ≤ 255) ∧ (0 ≤ L[p + n4 + 2] ∧ L[p + n4 + 2] ≤ 255) ∧ (0 ≤ L[p + n4 + 3] ∧ L[p + n4 + 3] ≤ 255)) := ⟨j0, j1, j2, j3⟩
  have HU : Hid (u32f true L[p + n4] L[p + n4 + 1] L[p + n4 + 2] L[p + n4 + 3] = (n : Int)) := u8
  have HG : Hid (((L.drop p).take 8)[0]? = some L[p] ∧ ((L.drop p).take 8)[1]? = some L[p + 1] ∧ ((L.drop p).take 8)[2]? = some L[p + 2] ∧ ((L.drop p).take 8)[3]? = some L[p + 3] ∧ ((L.drop p).take 8)[4]? = some L[p + 4] ∧ ((L.drop p).take 8)[5]? = some L[p + 5] ∧ ((L.drop p).take 8)[6]? = some L[p + 6] ∧ ((L.drop p).take 8)[7]? = some L[p + 7]) := ⟨g0, g1, g2, g3, g4, g5, g6, g7⟩
  have HB8 : Hid ((0 ≤ L[p] ∧ L[p] ≤ 255) ∧ (0 ≤ L[p + 1] ∧ L[p + 1] ≤ 255) ∧ (0 ≤ L[p + 2] ∧ L[p + 2] ≤ 255) ∧ (0 ≤ L[p + 3] ∧ L[p + 3] ≤ 255) ∧ (0 ≤ L[p + 4] ∧ L[p + 4] ≤ 255) ∧ (0 ≤ L[p + 5] ∧ L[p + 5] ≤ 255) ∧ (0 ≤ L[p + 6] ∧ L[p + 6] ≤ 255) ∧ (0 ≤ L[p + 7] ∧ L[p + 7] ≤ 255)) := ⟨k0, k1, k2, k3, k4, k5, k6, k7⟩
  have HU0 : Hid (u32f true L[p] L[p + 1] L[p + 2] L[p + 3] = typ ∧ u32f true L[p + 4] L[p + 5] L[p + 6] L[p + 7] = (n : Int)) := ⟨u0, u4⟩
  obtain ⟨sv, hsv⟩ : ∃ sv, sv = u32f false L[p] L[p + 1] L[p + 2] L[p + 3] := ⟨_, rfl⟩
  have HS : Hid (u32f false L[p] L[p + 1] L[p + 2] L[p + 3] = sv) := hsv.symm
  have hns : ¬ sv = 168627466 := by rw [hsv]; exact us0
  have hn8 : n4 - 8 = m := by omega
  have hn44 : n - n4 = 4 := by omega
  have hi8 : (8 : Int) ≤ (n4 : Int) := by omega
  have hi4 : (n4 : Int) ≤ (n : Int) := by omega
  clear h hE hX hb u0 us0 u4 u8 k0 k1 k2 k3 k4 k5 k6 k7 g0 g1 g2 g3 g4 g5 g6 g7 r0 r1 r2 r3 j0 j1 j2 j3 hsv hQ
  go_enter Ybaf.func29, Ybaf.ntmps29
  go_wp2_with fail
  refine Calls.mono HP.out ?_
  rintro _ w2 ⟨off, c, us, rfl, hc, hU2, hus, hs2, hk2⟩
  have hC2 := HC1.out.turn hk2 hs2
  have hkw2 : Kept (fun k => ¬ V k) w w2 := HK1.out.trans (Kept.mono (q := fun k => ¬ V k) hk2 (fun k _ h => by rcases h with rfl | rfl | rfl; exact HV.out.2.1; exact HV.out.2.2.1; exact HV.out.2.2.2.1))
  have b0 := win_cell hU2 hus 0 (by decide) _ HG.out.1
  have b1 := win_cell hU2 hus 1 (by decide) _ HG.out.2.1
  have b2 := win_cell hU2 hus 2 (by decide) _ HG.out.2.2.1
  have b3 := win_cell hU2 hus 3 (by decide) _ HG.out.2.2.2.1
  have b4 := win_cell hU2 hus 4 (by decide) _ HG.out.2.2.2.2.1
  have b5 := win_cell hU2 hus 5 (by decide) _ HG.out.2.2.2.2.2.1
  have b6 := win_cell hU2 hus 6 (by decide) _ HG.out.2.2.2.2.2.2.1
  have b7 := win_cell hU2 hus 7 (by decide) _ HG.out.2.2.2.2.2.2.2
  simp only [Nat.add_zero] at b0
  have hS0 := u32_step false U off c _ _ _ _ w2 b0 b1 b2 b3 HB8.out.1 HB8.out.2.1 HB8.out.2.2.1 HB8.out.2.2.2.1
  rw [HS.out] at hS0
  have hS1 := u32_step true U off c _ _ _ _ w2 b0 b1 b2 b3 HB8.out.1 HB8.out.2.1 HB8.out.2.2.1 HB8.out.2.2.2.1
  rw [HU0.out.1] at hS1
  have hS2 := u32_step true U (off + 4) (c - 4) _ _ _ _ w2 b4 b5 b6 b7 HB8.out.2.2.2.2.1 HB8.out.2.2.2.2.2.1 HB8.out.2.2.2.2.2.2.1 HB8.out.2.2.2.2.2.2.2
  rw [HU0.out.2] at hS2
  have HS0 : Hid (∀ w0, Kept (fun _ => False) w2 w0 → Calls Ybaf.prog 19 #[.agg #[], .slice (some ⟨U, off, none⟩) 4 c] w0 fun e w' => e = .returned (.int .u32 sv) ∧ Kept (fun _ => False) w2 w') := hS0
  have HS1 : Hid (∀ w0, Kept (fun _ => False) w2 w0 → Calls Ybaf.prog 39 #[.agg #[], .slice (some ⟨U, off, none⟩) 4 c] w0 fun e w' => e = .returned (.int .u32 typ) ∧ Kept (fun _ => False) w2 w') := hS1
  have HS2 : Hid (∀ w0, Kept (fun _ => False) w2 w0 → Calls Ybaf.prog 39 #[.agg #[], .slice (some ⟨U, off + 4, none⟩) 4 (c - 4)] w0 fun e w' => e = .returned (.int .u32 (n : Int)) ∧ Kept (fun _ => False) w2 w') := hS2
  have HC2 : Hid (Cq w2 V Q B Y U D cap L p (bo true) fr ifs) := hC2
  have HK2 : Hid (Kept (fun k => ¬ V k) w w2) := hkw2
  obtain ⟨o2, l2, a2, v2, hQ2, _⟩ := hC2.row
  have q2 : w2.cell? ⟨Q, 2, none⟩ = some (.iface 53 (.agg #[])) := hQ2.cell 2
  have hc4 : (4 : Int) ≤ (c : Int) := by omega
  have hc8 : (8 : Int) ≤ (c : Int) := by omega
  have hcn : ¬ c = 4 := by omega
  clear HP HC1 HK1 hC2 hkw2 hS0 hS1 hS2 hU2 hus hs2 hk2 hQ2 HG HB8 HS HU0 b0 b1 b2 b3 b4 b5 b6 b7 c0 c4 c8 f8
  go_wp2_with fail
  refine still_tail 3 mixed (by kernel_rfl) ?_
  simp only [List.take_succ_cons, List.take_zero, List.drop_succ_cons, List.drop_zero]
  repeat still_step
  try refine wpStill_nil ?_
  go_wp2_with fail
  refine Calls.mono (HS0.out _ ((Kept.refl _ w2).drew)) ?_
  rintro _ w3 ⟨rfl, hk3⟩
  have q3 := hk3.cell q2 (fun h => h)
  go_wp2_with fail
  refine still_tail 8 mixed (by kernel_rfl) ?_
  simp only [List.take_succ_cons, List.take_zero, List.drop_succ_cons, List.drop_zero]
  repeat still_step
  try refine wpStill_nil ?_
  go_wp2_with fail
  refine Calls.mono (HS1.out _ hk3.drew) ?_
  rintro _ w4 ⟨rfl, hk4⟩
  have q4 := hk4.cell q2 (fun h => h)
  clear hk3 q3
  go_wp2_with fail
  refine still_tail 8 mixed (by kernel_rfl) ?_
  simp only [List.take_succ_cons, List.take_zero, List.drop_succ_cons, List.drop_zero]
  repeat still_step
  try refine wpStill_nil ?_
  go_wp2_with fail
  refine Calls.mono (HS2.out _ hk4.drew) ?_
  rintro _ w5 ⟨rfl, hk5⟩
  have hK5 : Kept (fun k => ¬ V k) w w5 := HK2.out.trans (Kept.mono (q := fun k => ¬ V k) hk5 (fun _ _ h => h.elim))
  have HR5 : Hid _ := rq_ok V Q B Y U D cap L p n (bo true) fr ifs ae au w5 (HC2.out.kept hk5) (by have := HH.out.2; omega) (by have := HH.out.2; omega) HH.out.2.1 (hK5.cell HE.out.1 (fun h => h HV.out.2.2.2.2.1)) (hK5.cell HE.out.2 (fun h => h HV.out.2.2.2.2.2))
  have HK5 : Hid (Kept (fun k => ¬ V k) w w5) := hK5
  clear hk4 q4 hk5 hK5 HS0 HS1 HS2 HC2 HK2 q2
  go_wp2_with fail
  refine Calls.mono HR5.out ?_
  rintro _ w6 ⟨P, cp, qs, rfl, hcp, hk6, hql, hP, hqs, vP, nPQ, hC6⟩
  have hcell : ∀ j x, ((L.drop p).take n)[j]? = some x → j < n → w6.cell? ⟨P, j, none⟩ = some (.int .u8 x) := by
    intro j x hx hj
    rw [hP.cell j]
    rw [← hqs, List.getElem?_take_of_lt hj] at hx
    simp [by8, hx]
  have hHn := HH.out.2
  have hS3 := u32_step true P n4 (cp - n4) _ _ _ _ w6 (hcell n4 _ HR.out.1 (by omega)) (hcell _ _ HR.out.2.1 (by omega)) (hcell _ _ HR.out.2.2.1 (by omega)) (hcell _ _ HR.out.2.2.2 (by omega)) HJ.out.1 HJ.out.2.1 HJ.out.2.2.1 HJ.out.2.2.2
  rw [HU.out] at hS3
  have HS3 : Hid (∀ w0, Kept (fun _ => False) w6 w0 → Calls Ybaf.prog 39 #[.agg #[], .slice (some ⟨P, n4, none⟩) 4 (cp - n4)] w0 fun e w' => e = .returned (.int .u32 (n : Int)) ∧ Kept (fun _ => False) w6 w') := hS3
  obtain ⟨o6, l6, a6, v6, hQ6, _⟩ := hC6.row
  have q6 : w6.cell? ⟨Q, 2, none⟩ = some (.iface 53 (.agg #[])) := hQ6.cell 2
  have HF : Hid (n ≤ cp ∧ qs.length = cp ∧ Row w6 P 5 (by8 qs) ∧ qs.take n = (L.drop p).take n ∧ ¬ V P ∧ P ≠ Q ∧ Kept (fun k => ¬ V k) w w6 ∧ Cq w6 V Q B Y U D cap L (p + n) (bo true) fr ifs) := ⟨hcp, hql, hP, hqs, vP, nPQ, HK5.out.trans hk6, hC6⟩
  have hp4 : (n4 : Int) ≤ (cp : Int) := by omega
  have hpn : (n : Int) ≤ (cp : Int) := by omega
  have hpc : ¬ cp = n4 := by omega
  have hp8 : ¬ cp = 8 := by omega
  clear HR5 hcell hS3 hC6 hQ6 hP hqs hk6 HK5 HR HJ HU HE HV hcp hql hHn
  go_wp2_with fail
  refine still_tail 10 mixed (by kernel_rfl) ?_
  simp only [List.take_succ_cons, List.take_zero, List.drop_succ_cons, List.drop_zero]
  repeat still_step
  try refine wpStill_nil ?_
  go_wp2_with fail
  refine Calls.mono (HS3.out _ ((Kept.refl _ w6).drew)) ?_
  rintro _ w7 ⟨rfl, hk7⟩
  go_wp2_with fail
  go_quiet (fail)
  go_wp2_with fail
  go_ret3
  obtain ⟨f1, f2, f3, f4, f5, f6, f7, f8⟩ := HF.out
  have hk8 := hk7.drewN nq
  exact ⟨P, cp, qs, rfl, f1, f2, f3.kept hk8 (fun h => h), f4, f5, f6, f7.trans (Kept.mono (q := fun k => ¬ V k) hk8 (fun _ _ h => h.elim)), f8.kept hk8⟩

end Go.Proofs.YbulkbgsmFmt
