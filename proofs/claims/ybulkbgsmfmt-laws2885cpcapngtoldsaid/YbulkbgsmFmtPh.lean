import Derived.Test.YbulkbgsmFmtPr
namespace Go.Proofs.YbulkbgsmFmt
open Go.RowKit
attribute [local go_sem] eq_same eq_nil m_u32le m_u32be

def u16f (big : Bool) (b0 b1 : Int) : Int := if big then b1 + 256 * b0 else b0 + 256 * b1

theorem Cr.setOrd {w : World} {M X Q B Y U D cap : Nat} {L : List Int} {p : Nat} {pn : Bool} {ord : Value} {fr lk : Int} {ifs : Value} (h : Cr w M X Q B Y U D cap L p pn ord fr lk ifs) (o : Value) : Cr (w.setCell ⟨Q, 2, none⟩ o) M X Q B Y U D cap L p pn o fr lk ifs := by
  obtain ⟨⟨offs, at', bv, hQ, hr⟩, hsp, a1, a2, a3, a4, a5, a6, a7, a8, a9, x1, x2, x3, x4, x5⟩ := h
  refine ⟨⟨offs, at', bv, hQ.set 2 _, ?_⟩, hsp.setOther Q 2 _ a7 a8 a9 (by omega), a1, a2, a3, a4, a5, a6, a7, a8, a9, x1, x2, x3, x4, by simpa using x5⟩
  rcases hr with h | ⟨P, cp, qs, h1, h2, h3, h4, h5, h6⟩
  · exact .inl h
  · exact .inr ⟨P, cp, qs, h1, h2, h3.other Q 2 _ h5, h4, h5, h6⟩

theorem Cr.setLk {w : World} {M X Q B Y U D cap : Nat} {L : List Int} {p : Nat} {pn : Bool} {ord : Value} {fr lk : Int} {ifs : Value} (h : Cr w M X Q B Y U D cap L p pn ord fr lk ifs) (l : Int) : Cr (w.setCell ⟨Q, 6, none⟩ (.int .i64 l)) M X Q B Y U D cap L p pn ord fr l ifs := by
  obtain ⟨⟨offs, at', bv, hQ, hr⟩, hsp, a1, a2, a3, a4, a5, a6, a7, a8, a9, x1, x2, x3, x4, x5⟩ := h
  refine ⟨⟨offs, at', bv, hQ.set 6 _, ?_⟩, hsp.setOther Q 6 _ a7 a8 a9 (by omega), a1, a2, a3, a4, a5, a6, a7, a8, a9, x1, x2, x3, x4, by simpa using x5⟩
  rcases hr with h | ⟨P, cp, qs, h1, h2, h3, h4, h5, h6⟩
  · exact .inl h
  · exact .inr ⟨P, cp, qs, h1, h2, h3.other Q 6 _ h5, h4, h5, h6⟩

theorem u16_step (big : Bool) (P k c : Nat) (b0 b1 : Int) (w : World) (c0 : w.cell? ⟨P, k, none⟩ = some (.int .u8 b0)) (c1 : w.cell? ⟨P, k + 1, none⟩ = some (.int .u8 b1)) (h0 : 0 ≤ b0 ∧ b0 ≤ 255) (h1 : 0 ≤ b1 ∧ b1 ≤ 255) :
    ∀ w0, Kept (fun _ => False) w w0 → Calls Ybaf.prog (if big then 62 else 65) #[.agg #[], .slice (some ⟨P, k, none⟩) 2 c] w0 fun e w' => e = .returned (.int .u16 (u16f big b0 b1)) ∧ Kept (fun _ => False) w w' := by
  intro w0 hk
  cases big with
  | false =>
    refine Calls.mono (le16 P k 2 c b0 b1 w0 (by decide) (hk.cell c0 (fun h => h)) (hk.cell c1 (fun h => h)) h0 h1) ?_
    rintro e w' ⟨rfl, hk'⟩
    exact ⟨rfl, hk.trans hk'⟩
  | true =>
    refine Calls.mono (be16 P k 2 c b0 b1 w0 (by decide) (hk.cell c0 (fun h => h)) (hk.cell c1 (fun h => h)) h0 h1) ?_
    rintro e w' ⟨rfl, hk'⟩
    exact ⟨rfl, hk.trans hk'⟩

theorem u32_step (big : Bool) (P k c : Nat) (b0 b1 b2 b3 : Int) (w : World) (c0 : w.cell? ⟨P, k, none⟩ = some (.int .u8 b0)) (c1 : w.cell? ⟨P, k + 1, none⟩ = some (.int .u8 b1)) (c2 : w.cell? ⟨P, k + 2, none⟩ = some (.int .u8 b2)) (c3 : w.cell? ⟨P, k + 3, none⟩ = some (.int .u8 b3)) (h0 : 0 ≤ b0 ∧ b0 ≤ 255) (h1 : 0 ≤ b1 ∧ b1 ≤ 255) (h2 : 0 ≤ b2 ∧ b2 ≤ 255) (h3 : 0 ≤ b3 ∧ b3 ≤ 255) :
    ∀ w0, Kept (fun _ => False) w w0 → Calls Ybaf.prog (if big then 39 else 19) #[.agg #[], .slice (some ⟨P, k, none⟩) 4 c] w0 fun e w' => e = .returned (.int .u32 (u32f big b0 b1 b2 b3)) ∧ Kept (fun _ => False) w w' := by
  intro w0 hk
  cases big with
  | false =>
    refine Calls.mono (le32 P k 4 c b0 b1 b2 b3 w0 (by decide) (hk.cell c0 (fun h => h)) (hk.cell c1 (fun h => h)) (hk.cell c2 (fun h => h)) (hk.cell c3 (fun h => h)) h0 h1 h2 h3) ?_
    rintro e w' ⟨rfl, hk'⟩
    exact ⟨rfl, hk.trans hk'⟩
  | true =>
    refine Calls.mono (be32 P k 4 c b0 b1 b2 b3 w0 (by decide) (hk.cell c0 (fun h => h)) (hk.cell c1 (fun h => h)) (hk.cell c2 (fun h => h)) (hk.cell c3 (fun h => h)) h0 h1 h2 h3) ?_
    rintro e w' ⟨rfl, hk'⟩
    exact ⟨rfl, hk.trans hk'⟩

set_option maxHeartbeats 2000000 in
set_option maxRecDepth 100000 in
/-- readPcapHeader. -/
theorem ph_big (M Q B Y U D cap : Nat) (L : List Int) (ifs : Value) (ae au : Addr) (off c : Nat) (w : World) (h : Cr w M D Q B Y U D cap L 0 false .nilIface 0 0 ifs) (hG : Gl w M ae au) (hL : 24 ≤ L.length) (hb : ∀ x ∈ L, 0 ≤ x ∧ x ≤ 255) (hv : u16f true L[4] L[5] = 2) (lk v32 : Int) (hv32 : u32f true L[20] L[21] L[22] L[23] = v32) (hlk : bits .and .u32 v32 65535 = lk) (hwl : IntKind.i64.wrap lk = lk)
    (b0 : w.cell? ⟨U, off, none⟩ = some (.int .u8 161)) (b1 : w.cell? ⟨U, off + 1, none⟩ = some (.int .u8 178)) (b2 : w.cell? ⟨U, off + 2, none⟩ = some (.int .u8 195)) (b3 : w.cell? ⟨U, off + 3, none⟩ = some (.int .u8 212)) :
    Calls Ybaf.prog 21 #[.pointer (some ⟨Q, 0, none⟩), .slice (some ⟨U, off, none⟩) 4 c] w fun e w' => e = .returned .nilIface ∧ Kept (fun k => M ≤ k) w w' ∧ Cr w' M D Q B Y U D cap L 24 false (bo true) 0 lk ifs := by
  go_enter Ybaf.func21, Ybaf.ntmps21
  have hQl : Q < w.heap.size := by
    obtain ⟨⟨_, _, _, hq, _⟩, _⟩ := h
    exact hq.lt
  have hUl := World.block_lt_of_cell? w _ b0
  have nUQ : ¬ U = Q := fun h1 => h.nU h1.symm
  go_wp2_with fail
  have hk1 : Kept (fun _ => False) w (w.alloc (.cells #[.iface 55 (.agg #[]), .iface 53 (.agg #[])] 62)) := (Kept.refl _ w).alloc _
  have hT1 := Row.new w 62 #[.iface 55 (.agg #[]), .iface 53 (.agg #[])]
  have nTQ : w.heap.size ≠ Q := Nat.ne_of_gt hQl
  have hC1 := h.kept hk1
  generalize w.alloc (.cells #[.iface 55 (.agg #[]), .iface 53 (.agg #[])] 62) = w1 at hk1 hT1 hC1 ⊢
  generalize w.heap.size = T at hT1 nTQ hQl hUl ⊢
  have t0 : w1.cell? ⟨T, 0, none⟩ = some (.iface 55 (.agg #[])) := hT1.cell 0
  have HL : Hid (Calls Ybaf.prog 19 #[.agg #[], .slice (some ⟨U, off, none⟩) 4 c] w1 fun e w' => e = .returned (.int .u32 3569595041) ∧ Kept (fun _ => False) w1 w') := le32 U off 4 c 161 178 195 212 w1 (by decide) (hk1.cell b0 (fun h => h)) (hk1.cell b1 (fun h => h)) (hk1.cell b2 (fun h => h)) (hk1.cell b3 (fun h => h)) (by decide) (by decide) (by decide) (by decide)
  refine wp_loop_rounds 3 ?_
  rw [rounds_succ]
  go_wp2_with fail
  refine Calls.mono HL.out ?_
  rintro _ w2 ⟨rfl, hk2⟩
  have hT2 := hT1.kept hk2 (fun h => h)
  have hC2 := hC1.kept hk2
  have hkw2 : Kept (fun _ => False) w w2 := hk1.trans hk2
  obtain ⟨offs2, at2, bv2, hQ2, _⟩ := hC2.row
  have q2 : w2.cell? ⟨Q, 2, none⟩ = some .nilIface := hQ2.cell 2
  have qf := hQ2.frozen 2
  have t1 : w2.cell? ⟨T, 1, none⟩ = some (.iface 53 (.agg #[])) := hT2.cell 1
  clear HL hT1 hC1 hk2 t0
  go_wp2_with fail
  rw [rounds_succ]
  go_wp2_with fail
  have hkw3 : Kept (fun k => k = Q) w w2 := hkw2.mono (fun _ _ h => h.elim)
  refine Calls.mono (be32 U off 4 c 161 178 195 212 w2 (by decide) (hkw3.cell b0 nUQ) (hkw3.cell b1 nUQ) (hkw3.cell b2 nUQ) (hkw3.cell b3 nUQ) (by decide) (by decide) (by decide) (by decide)) ?_
  rintro _ w3 ⟨rfl, hk3⟩
  have hC3 := hC2.kept hk3
  have hT3 := hT2.kept hk3 (fun h => h)
  obtain ⟨offs3, at3, bv3, hQ3, _⟩ := hC3.row
  have q3 := hQ3.cell 2
  have qf3 := hQ3.frozen 2
  simp only [crc, List.getElem?_cons_succ, List.getElem?_cons_zero] at q3
  have hkw4 : Kept (fun k => k = Q) w w3 := hkw3.trans (hk3.mono (fun _ _ h => h.elim))
  clear hC2 hT2 hQ2 q2 qf t1 hkw3 hk3
  go_wp2_with fail
  rw [rounds_succ]
  go_wp2_with fail
  rename_i K1 hK1 K2 hK2
  have HK1 : Hid _ := hK1
  clear hK1
  have hC5 := hC3.setOrd (.iface 53 (.agg #[]))
  have hkw5 : Kept (fun k => k = Q) w (w3.setCell ⟨Q, 2, none⟩ (.iface 53 (.agg #[]))) := hkw4.setCell (g := Q) (j := 2) (fun _ => rfl) _
  have hG3 : Gl (w3.setCell ⟨Q, 2, none⟩ (.iface 53 (.agg #[]))) M ae au := hG.kept (X := D) (Kept.mono (q := Kp M D) hkw5 (fun k _ hk => by have := h.mQ; have := h.mD; exact ⟨by omega, by omega⟩))
  refine Calls.mono (read_ok M D Q B Y U D cap L 0 24 false (bo true) 0 0 ifs ae au (w3.setCell ⟨Q, 2, none⟩ (.iface 53 (.agg #[]))) hC5 (by decide) (by omega) hG3 (by omega)) ?_
  rintro _ w4 ⟨P, cp, qs, rfl, hcp, hk4, hql, hP, hqs, mP, nPQ, xP, ⟨offs4, at4, hQ4⟩, hC4⟩
  have e4 := hdr_cell hP hqs 4 (by decide) (by omega)
  have e5 := hdr_cell hP hqs 5 (by decide) (by omega)
  have e6 := hdr_cell hP hqs 6 (by decide) (by omega)
  have e7 := hdr_cell hP hqs 7 (by decide) (by omega)
  have e20 := hdr_cell hP hqs 20 (by decide) (by omega)
  have e21 := hdr_cell hP hqs 21 (by decide) (by omega)
  have e22 := hdr_cell hP hqs 22 (by decide) (by omega)
  have e23 := hdr_cell hP hqs 23 (by decide) (by omega)
  simp only [Nat.zero_add] at e4 e5 e6 e7 e20 e21 e22 e23
  have HF : Hid (Kept (fun k => M ≤ k) w w4) := (Kept.mono (q := fun k => M ≤ k) hkw5 (fun k _ hk => by have := h.mQ; omega)).trans (Kept.mono (q := fun k => M ≤ k) hk4 (fun k _ hk => hk.1))
  have hmQ := h.mQ
  clear h hG hkw2 hkw4 hkw5 hC5 hC3 hT3 hQ3 q3 qf3 hk4 hP hqs hG3
  go_wp2_with fail
  refine HK1.out _ _ ?_
  refine ph_rest _ true Q P cp w4 hcp (hQ4.cell 2) ?_ hQ4.lt _ (hQ4.cell 6) (hQ4.frozen 6) lk v32 hlk hwl ?_ ?_ ?_
  · have hs := u16_step true P 4 (cp - 4) _ _ w4 e4 e5 (hb _ (List.getElem_mem _)) (hb _ (List.getElem_mem _))
    rw [hv] at hs
    exact hs
  · have hs := u32_step true P 20 (cp - 20) _ _ _ _ w4 e20 e21 e22 e23 (hb _ (List.getElem_mem _)) (hb _ (List.getElem_mem _)) (hb _ (List.getElem_mem _)) (hb _ (List.getElem_mem _))
    rw [hv32] at hs
    exact hs
  · intro w' hk'
    exact ⟨rfl, (HF.out.trans (Kept.mono (q := fun k => M ≤ k) hk' (fun _ _ h => h.elim))).setCell (g := Q) (j := 6) (fun _ => hmQ) _, (hC4.kept hk').setLk lk⟩
  · intro w0 hk0
    refine Calls.mono (u16_step true P 6 (cp - 6) _ _ w4 e6 e7 (hb _ (List.getElem_mem _)) (hb _ (List.getElem_mem _)) w0 hk0) ?_
    rintro e w' ⟨rfl, hk'⟩
    exact ⟨_, rfl, hk'⟩

set_option maxHeartbeats 2000000 in
set_option maxRecDepth 100000 in
/-- readPcapHeader. -/
theorem ph_little (M Q B Y U D cap : Nat) (L : List Int) (ifs : Value) (ae au : Addr) (off c : Nat) (w : World) (h : Cr w M D Q B Y U D cap L 0 false .nilIface 0 0 ifs) (hG : Gl w M ae au) (hL : 24 ≤ L.length) (hb : ∀ x ∈ L, 0 ≤ x ∧ x ≤ 255) (hv : u16f false L[4] L[5] = 2) (lk v32 : Int) (hv32 : u32f false L[20] L[21] L[22] L[23] = v32) (hlk : bits .and .u32 v32 65535 = lk) (hwl : IntKind.i64.wrap lk = lk)
    (b0 : w.cell? ⟨U, off, none⟩ = some (.int .u8 212)) (b1 : w.cell? ⟨U, off + 1, none⟩ = some (.int .u8 195)) (b2 : w.cell? ⟨U, off + 2, none⟩ = some (.int .u8 178)) (b3 : w.cell? ⟨U, off + 3, none⟩ = some (.int .u8 161)) :
    Calls Ybaf.prog 21 #[.pointer (some ⟨Q, 0, none⟩), .slice (some ⟨U, off, none⟩) 4 c] w fun e w' => e = .returned .nilIface ∧ Kept (fun k => M ≤ k) w w' ∧ Cr w' M D Q B Y U D cap L 24 false (bo false) 0 lk ifs := by
  go_enter Ybaf.func21, Ybaf.ntmps21
  have hQl : Q < w.heap.size := by
    obtain ⟨⟨_, _, _, hq, _⟩, _⟩ := h
    exact hq.lt
  have hUl := World.block_lt_of_cell? w _ b0
  have nUQ : ¬ U = Q := fun h1 => h.nU h1.symm
  go_wp2_with fail
  have hk1 : Kept (fun _ => False) w (w.alloc (.cells #[.iface 55 (.agg #[]), .iface 53 (.agg #[])] 62)) := (Kept.refl _ w).alloc _
  have hT1 := Row.new w 62 #[.iface 55 (.agg #[]), .iface 53 (.agg #[])]
  have nTQ : w.heap.size ≠ Q := Nat.ne_of_gt hQl
  have hC1 := h.kept hk1
  generalize w.alloc (.cells #[.iface 55 (.agg #[]), .iface 53 (.agg #[])] 62) = w1 at hk1 hT1 hC1 ⊢
  generalize w.heap.size = T at hT1 nTQ hQl hUl ⊢
  have t0 : w1.cell? ⟨T, 0, none⟩ = some (.iface 55 (.agg #[])) := hT1.cell 0
  have HL : Hid (Calls Ybaf.prog 19 #[.agg #[], .slice (some ⟨U, off, none⟩) 4 c] w1 fun e w' => e = .returned (.int .u32 2712847316) ∧ Kept (fun _ => False) w1 w') := le32 U off 4 c 212 195 178 161 w1 (by decide) (hk1.cell b0 (fun h => h)) (hk1.cell b1 (fun h => h)) (hk1.cell b2 (fun h => h)) (hk1.cell b3 (fun h => h)) (by decide) (by decide) (by decide) (by decide)
  refine wp_loop_rounds 3 ?_
  rw [rounds_succ]
  go_wp2_with fail
  refine Calls.mono HL.out ?_
  rintro _ w2 ⟨rfl, hk2⟩
  have hT2 := hT1.kept hk2 (fun h => h)
  have hC2 := hC1.kept hk2
  have hkw2 : Kept (fun _ => False) w w2 := hk1.trans hk2
  obtain ⟨offs2, at2, bv2, hQ2, _⟩ := hC2.row
  have q2 : w2.cell? ⟨Q, 2, none⟩ = some .nilIface := hQ2.cell 2
  have qf := hQ2.frozen 2
  have t1 : w2.cell? ⟨T, 1, none⟩ = some (.iface 53 (.agg #[])) := hT2.cell 1
  clear HL hT1 hC1 hk2 t0
  go_wp2_with fail
  rw [rounds_succ]
  go_wp2_with fail
  have hkw3 : Kept (fun k => k = Q) w (w2.setCell ⟨Q, 2, none⟩ (.iface 55 (.agg #[]))) := (Kept.mono (q := fun k => k = Q) hkw2 (fun _ _ h => h.elim)).setCell (g := Q) (j := 2) (fun _ => rfl) _
  refine Calls.mono (be32 U off 4 c 212 195 178 161 (w2.setCell ⟨Q, 2, none⟩ (.iface 55 (.agg #[]))) (by decide) (hkw3.cell b0 nUQ) (hkw3.cell b1 nUQ) (hkw3.cell b2 nUQ) (hkw3.cell b3 nUQ) (by decide) (by decide) (by decide) (by decide)) ?_
  rintro _ w3 ⟨rfl, hk3⟩
  have hC3 := (hC2.setOrd (.iface 55 (.agg #[]))).kept hk3
  have hT3 := (hT2.other Q 2 (.iface 55 (.agg #[])) nTQ).kept hk3 (fun h => h)
  obtain ⟨offs3, at3, bv3, hQ3, _⟩ := hC3.row
  have q3 := hQ3.cell 2
  have qf3 := hQ3.frozen 2
  simp only [crc, List.getElem?_cons_succ, List.getElem?_cons_zero] at q3
  have hkw4 : Kept (fun k => k = Q) w w3 := hkw3.trans (hk3.mono (fun _ _ h => h.elim))
  clear hC2 hT2 hQ2 q2 qf t1 hkw3 hk3
  go_wp2_with fail
  rw [rounds_succ]
  go_wp2_with fail
  rename_i K1 hK1 K2 hK2
  have HK1 : Hid _ := hK1
  clear hK1
  have hC5 := hC3
  have hkw5 : Kept (fun k => k = Q) w w3 := hkw4
  have hG3 : Gl w3 M ae au := hG.kept (X := D) (Kept.mono (q := Kp M D) hkw5 (fun k _ hk => by have := h.mQ; have := h.mD; exact ⟨by omega, by omega⟩))
  refine Calls.mono (read_ok M D Q B Y U D cap L 0 24 false (bo false) 0 0 ifs ae au w3 hC5 (by decide) (by omega) hG3 (by omega)) ?_
  rintro _ w4 ⟨P, cp, qs, rfl, hcp, hk4, hql, hP, hqs, mP, nPQ, xP, ⟨offs4, at4, hQ4⟩, hC4⟩
  have e4 := hdr_cell hP hqs 4 (by decide) (by omega)
  have e5 := hdr_cell hP hqs 5 (by decide) (by omega)
  have e6 := hdr_cell hP hqs 6 (by decide) (by omega)
  have e7 := hdr_cell hP hqs 7 (by decide) (by omega)
  have e20 := hdr_cell hP hqs 20 (by decide) (by omega)
  have e21 := hdr_cell hP hqs 21 (by decide) (by omega)
  have e22 := hdr_cell hP hqs 22 (by decide) (by omega)
  have e23 := hdr_cell hP hqs 23 (by decide) (by omega)
  simp only [Nat.zero_add] at e4 e5 e6 e7 e20 e21 e22 e23
  have HF : Hid (Kept (fun k => M ≤ k) w w4) := (Kept.mono (q := fun k => M ≤ k) hkw5 (fun k _ hk => by have := h.mQ; omega)).trans (Kept.mono (q := fun k => M ≤ k) hk4 (fun k _ hk => hk.1))
  have hmQ := h.mQ
  clear h hG hkw2 hkw4 hkw5 hC5 hC3 hT3 hQ3 q3 qf3 hk4 hP hqs hG3
  go_wp2_with fail
  refine HK1.out _ _ ?_
  refine ph_rest _ false Q P cp w4 hcp (hQ4.cell 2) ?_ hQ4.lt _ (hQ4.cell 6) (hQ4.frozen 6) lk v32 hlk hwl ?_ ?_ ?_
  · have hs := u16_step false P 4 (cp - 4) _ _ w4 e4 e5 (hb _ (List.getElem_mem _)) (hb _ (List.getElem_mem _))
    rw [hv] at hs
    exact hs
  · have hs := u32_step false P 20 (cp - 20) _ _ _ _ w4 e20 e21 e22 e23 (hb _ (List.getElem_mem _)) (hb _ (List.getElem_mem _)) (hb _ (List.getElem_mem _)) (hb _ (List.getElem_mem _))
    rw [hv32] at hs
    exact hs
  · intro w' hk'
    exact ⟨rfl, (HF.out.trans (Kept.mono (q := fun k => M ≤ k) hk' (fun _ _ h => h.elim))).setCell (g := Q) (j := 6) (fun _ => hmQ) _, (hC4.kept hk').setLk lk⟩
  · intro w0 hk0
    refine Calls.mono (u16_step false P 6 (cp - 6) _ _ w4 e6 e7 (hb _ (List.getElem_mem _)) (hb _ (List.getElem_mem _)) w0 hk0) ?_
    rintro e w' ⟨rfl, hk'⟩
    exact ⟨_, rfl, hk'⟩

end Go.Proofs.YbulkbgsmFmt
