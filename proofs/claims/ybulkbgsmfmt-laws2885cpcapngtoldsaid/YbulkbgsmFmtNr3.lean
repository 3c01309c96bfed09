import Derived.Test.YbulkbgsmFmtNr2
namespace Go.Proofs.YbulkbgsmFmt
open Go.RowKit
attribute [local go_sem] eq_same eq_nil m_u32le m_u32be

set_option maxHeartbeats 2000000 in
set_option maxRecDepth 100000 in
/-- nextRecord, the record's octets lacking altogether. -/
theorem nr_cut1 (M X Q B Y U D cap : Nat) (L : List Int) (p : Nat) (big : Bool) (fr : Nat) (lk : Int) (ifs : Value) (ae au : Addr) (w : World) (h : Cr w M X Q B Y U D cap L p false (bo big) (fr : Int) lk ifs) (hG : Gl w M ae au) (hfr : fr ≤ 1000000) (n : Nat) (hn : n ≤ 16777216) (hb : ∀ x ∈ L, 0 ≤ x ∧ x ≤ 255) (hp : p + 16 ≤ L.length) (hu : u32f big L[p + 8] L[p + 9] L[p + 10] L[p + 11] = (n : Int)) (hn0 : 0 < n) (hp2 : p + 16 = L.length) :
    Calls Ybaf.prog 23 #[.pointer (some ⟨Q, 0, none⟩)] w fun e w' => ∃ T : Nat, e = .returned (.tuple #[.int .i64 0, .slice none 0 0, .iface 40 (.pointer (some ⟨T, 0, none⟩))]) ∧ M ≤ T ∧ Row w' T 43 [.int .i64 ((fr : Int) + 1), .bool true] ∧ Kept (Kp M X) w w' ∧ Cr w' M X Q B Y U D cap L L.length false (bo big) (fr : Int) lk ifs := by
  have HC : Hid _ := read_ok M X Q B Y U D cap L p 16 false (bo big) fr lk ifs ae au w h (by decide) (by omega) hG hp
  have HG : Hid (Gl w M ae au) := hG
  have HB : Hid (∀ x ∈ L, 0 ≤ x ∧ x ≤ 255) := hb
  have HU : Hid (u32f big L[p + 8] L[p + 9] L[p + 10] L[p + 11] = (n : Int)) := hu
  have HP : Hid (p + 16 ≤ L.length) := hp
  clear h hG hb hu
  go_enter Ybaf.func23, Ybaf.ntmps23
  go_wp2_with fail
  refine Calls.mono HC.out ?_
  rintro _ w2 ⟨P, cp, qs, rfl, hcp, hk, hql, hP, hqs, mP, nPQ, xP, ⟨offs0, at0, hQ⟩, hC⟩
  have e0 := (HG.out.kept hk).e0
  have q2 : w2.cell? ⟨Q, 2, none⟩ = some (bo big) := hQ.cell 2
  have b8 := hdr_cell hP hqs 8 (by decide) (by omega)
  have b9 := hdr_cell hP hqs 9 (by decide) (by omega)
  have b10 := hdr_cell hP hqs 10 (by decide) (by omega)
  have b11 := hdr_cell hP hqs 11 (by decide) (by omega)
  have k8 := HB.out L[p + 8] (List.getElem_mem _)
  have k9 := HB.out L[p + 9] (List.getElem_mem _)
  have k10 := HB.out L[p + 10] (List.getElem_mem _)
  have k11 := HB.out L[p + 11] (List.getElem_mem _)
  have HU2 := HU.out
  generalize L[p + 8] = x8 at b8 k8 HU2
  generalize L[p + 9] = x9 at b9 k9 HU2
  generalize L[p + 10] = x10 at b10 k10 HU2
  generalize L[p + 11] = x11 at b11 k11 HU2
  have HK2 : Hid (Kept (Kp M X) w w2) := hk
  have HC2 : Hid (Cr w2 M X Q B Y U D cap L (p + 16) false (bo big) (fr : Int) lk ifs) := hC
  have HR2 : Hid (n = 0 → ∃ (offs at' : Int) (P cp : Nat), Row w2 Q 65 (crc B false (bo big) (fr : Int) offs (.slice (some ⟨P, 0, none⟩) cp cp) lk ifs at')) := fun _ => ⟨offs0, at0, P, cp, hQ⟩
  have hc12 : (12 : Int) ≤ (cp : Int) := by omega
  have hc8 : ¬ cp = 8 := by omega
  clear HC hk hC hQ hP hqs HB HU HP hp
  go_wp2_with fail
  have step : ∀ w0, w0 = w2.drew → Calls Ybaf.prog (if big then 39 else 19) #[.agg #[], .slice (some ⟨P, 8, none⟩) 4 (cp - 8)] w0 fun e w' => e = .returned (.int .u32 (n : Int)) ∧ Kept (fun _ => False) w2 w' := by
    rintro w0 rfl
    cases big with
    | false =>
      refine Calls.mono (le32 P 8 4 (cp - 8) x8 x9 x10 x11 w2.drew (by decide) b8 b9 b10 b11 k8 k9 k10 k11) ?_
      rintro e w' ⟨rfl, hk⟩
      rw [← HU2]
      exact ⟨rfl, ((Kept.refl _ w2).drew).trans hk⟩
    | true =>
      refine Calls.mono (be32 P 8 4 (cp - 8) x8 x9 x10 x11 w2.drew (by decide) b8 b9 b10 b11 k8 k9 k10 k11) ?_
      rintro e w' ⟨rfl, hk⟩
      rw [← HU2]
      exact ⟨rfl, ((Kept.refl _ w2).drew).trans hk⟩
  have HS : Hid (∀ w0, w0 = w2.drew → Calls Ybaf.prog (if big then 39 else 19) #[.agg #[], .slice (some ⟨P, 8, none⟩) 4 (cp - 8)] w0 fun e w' => e = .returned (.int .u32 (n : Int)) ∧ Kept (fun _ => False) w2 w') := step
  clear step b8 b9 b10 b11 k8 k9 k10 k11 HU2
  go_cut [6] from 8 (fun s6 wc => s6 = .int .u32 (n : Int) ∧ Kept (fun _ => False) w2 wc)
  case first =>
    cases big with
    | false =>
      have q2' : w2.cell? ⟨Q, 2, none⟩ = some (.iface 55 (.agg #[])) := q2
      clear q2
      refine still_tail 8 mixed (by kernel_rfl) ?_
      simp only [List.take_succ_cons, List.take_zero, List.drop_succ_cons, List.drop_zero]
      repeat still_step
      try refine wpStill_nil ?_
      go_wp2_with fail
      refine Calls.mono (HS.out _ rfl) ?_
      rintro _ w3 ⟨rfl, hk3⟩
      go_wp2_with fail
      go_meet
      case rel => exact ⟨rfl, hk3⟩
    | true =>
      have q2' : w2.cell? ⟨Q, 2, none⟩ = some (.iface 53 (.agg #[])) := q2
      clear q2
      refine still_tail 8 mixed (by kernel_rfl) ?_
      simp only [List.take_succ_cons, List.take_zero, List.drop_succ_cons, List.drop_zero]
      repeat still_step
      try refine wpStill_nil ?_
      go_wp2_with fail
      refine Calls.mono (HS.out _ rfl) ?_
      rintro _ w3 ⟨rfl, hk3⟩
      go_wp2_with fail
      go_meet
      case rel => exact ⟨rfl, hk3⟩
  case rest =>
    obtain ⟨rfl, hkc⟩ := hcut
    have hKw : Kept (Kp M X) w wc := HK2.out.trans (hkc.mono (fun _ _ h => h.elim))
    have hCw := HC2.out.kept hkc
    have hRw : n = 0 → ∃ (offs at' : Int) (P cp : Nat), Row wc Q 65 (crc B false (bo big) (fr : Int) offs (.slice (some ⟨P, 0, none⟩) cp cp) lk ifs at') := fun h0 => by
      obtain ⟨o, a, P, cp, hr⟩ := HR2.out h0
      exact ⟨o, a, P, cp, hr.kept hkc (fun h => h)⟩
    have hn1 : ¬ (16777216 : Int) < (n : Int) := by omega
    have hwn : IntKind.i64.wrap (n : Int) = (n : Int) := IntWalk.i64_in _ (by omega)
    clear e0 q2 HK2 HC2 HR2 HS hkc
    have HCr : Hid _ := read_eof M X Q B Y U D cap L (p + 16) n false (bo big) fr lk ifs ae au wc hCw (by omega) hn0 (HG.out.kept hKw) hp2
    clear hCw hRw
    go_wp2_with fail
    refine Calls.mono HCr.out ?_
    rintro _ w3 ⟨rfl, hk, hC⟩
    clear HCr
    obtain ⟨offs, at', bv, hQ, _⟩ := hC.row
    have hk3 : Kept (Kp M X) w w3 := hKw.trans hk
    have HC2 : Hid _ := cut_eof M Q B false (bo big) fr offs lk at' bv ifs ae au true w3 hQ hfr (HG.out.kept hk3)
    have e0 := (HG.out.kept hk3).e0
    have heq := eq_other (HG.out.kept hk3)
    have hM3 : M ≤ w3.heap.size := Nat.le_trans hC.mQ (Nat.le_of_lt hQ.lt)
    have HF : Hid (Kept (Kp M X) w (w3.alloc (.cells #[.int .i64 ((fr : Int) + 1), .bool true] 43)) ∧ Cr (w3.alloc (.cells #[.int .i64 ((fr : Int) + 1), .bool true] 43)) M X Q B Y U D cap L L.length false (bo big) (fr : Int) lk ifs) := ⟨hk3.alloc _, hC.kept ((Kept.refl _ w3).alloc _)⟩
    clear hk hC hQ HG hk3 hKw
    go_wp2_with fail
    refine Calls.mono HC2.out ?_
    rintro _ w4 ⟨rfl, rfl⟩
    go_wp2_with fail
    go_ret3
    exact ⟨_, rfl, hM3, Row.new w3 43 #[.int .i64 ((fr : Int) + 1), .bool true], HF.out.1, HF.out.2⟩


set_option maxHeartbeats 2000000 in
set_option maxRecDepth 100000 in
/-- nextRecord, the record's octets cut. -/
theorem nr_cut2 (M X Q B Y U D cap : Nat) (L : List Int) (p : Nat) (big : Bool) (fr : Nat) (lk : Int) (ifs : Value) (ae au : Addr) (w : World) (h : Cr w M X Q B Y U D cap L p false (bo big) (fr : Int) lk ifs) (hG : Gl w M ae au) (hfr : fr ≤ 1000000) (n : Nat) (hn : n ≤ 16777216) (hb : ∀ x ∈ L, 0 ≤ x ∧ x ≤ 255) (hp : p + 16 ≤ L.length) (hu : u32f big L[p + 8] L[p + 9] L[p + 10] L[p + 11] = (n : Int)) (hp2 : p + 16 < L.length) (hp3 : L.length < p + 16 + n) :
    Calls Ybaf.prog 23 #[.pointer (some ⟨Q, 0, none⟩)] w fun e w' => ∃ T : Nat, e = .returned (.tuple #[.int .i64 0, .slice none 0 0, .iface 40 (.pointer (some ⟨T, 0, none⟩))]) ∧ M ≤ T ∧ Row w' T 43 [.int .i64 ((fr : Int) + 1), .bool true] ∧ Kept (Kp M X) w w' ∧ Cr w' M X Q B Y U D cap L L.length false (bo big) (fr : Int) lk ifs := by
  have HC : Hid _ := read_ok M X Q B Y U D cap L p 16 false (bo big) fr lk ifs ae au w h (by decide) (by omega) hG hp
  have HG : Hid (Gl w M ae au) := hG
  have HB : Hid (∀ x ∈ L, 0 ≤ x ∧ x ≤ 255) := hb
  have HU : Hid (u32f big L[p + 8] L[p + 9] L[p + 10] L[p + 11] = (n : Int)) := hu
  have HP : Hid (p + 16 ≤ L.length) := hp
  clear h hG hb hu
  go_enter Ybaf.func23, Ybaf.ntmps23
  go_wp2_with fail
  refine Calls.mono HC.out ?_
  rintro _ w2 ⟨P, cp, qs, rfl, hcp, hk, hql, hP, hqs, mP, nPQ, xP, ⟨offs0, at0, hQ⟩, hC⟩
  have e0 := (HG.out.kept hk).e0
  have q2 : w2.cell? ⟨Q, 2, none⟩ = some (bo big) := hQ.cell 2
  have b8 := hdr_cell hP hqs 8 (by decide) (by omega)
  have b9 := hdr_cell hP hqs 9 (by decide) (by omega)
  have b10 := hdr_cell hP hqs 10 (by decide) (by omega)
  have b11 := hdr_cell hP hqs 11 (by decide) (by omega)
  have k8 := HB.out L[p + 8] (List.getElem_mem _)
  have k9 := HB.out L[p + 9] (List.getElem_mem _)
  have k10 := HB.out L[p + 10] (List.getElem_mem _)
  have k11 := HB.out L[p + 11] (List.getElem_mem _)
  have HU2 := HU.out
  generalize L[p + 8] = x8 at b8 k8 HU2
  generalize L[p + 9] = x9 at b9 k9 HU2
  generalize L[p + 10] = x10 at b10 k10 HU2
  generalize L[p + 11] = x11 at b11 k11 HU2
  have HK2 : Hid (Kept (Kp M X) w w2) := hk
  have HC2 : Hid (Cr w2 M X Q B Y U D cap L (p + 16) false (bo big) (fr : Int) lk ifs) := hC
  have HR2 : Hid (n = 0 → ∃ (offs at' : Int) (P cp : Nat), Row w2 Q 65 (crc B false (bo big) (fr : Int) offs (.slice (some ⟨P, 0, none⟩) cp cp) lk ifs at')) := fun _ => ⟨offs0, at0, P, cp, hQ⟩
  have hc12 : (12 : Int) ≤ (cp : Int) := by omega
  have hc8 : ¬ cp = 8 := by omega
  clear HC hk hC hQ hP hqs HB HU HP hp
  go_wp2_with fail
  have step : ∀ w0, w0 = w2.drew → Calls Ybaf.prog (if big then 39 else 19) #[.agg #[], .slice (some ⟨P, 8, none⟩) 4 (cp - 8)] w0 fun e w' => e = .returned (.int .u32 (n : Int)) ∧ Kept (fun _ => False) w2 w' := by
    rintro w0 rfl
    cases big with
    | false =>
      refine Calls.mono (le32 P 8 4 (cp - 8) x8 x9 x10 x11 w2.drew (by decide) b8 b9 b10 b11 k8 k9 k10 k11) ?_
      rintro e w' ⟨rfl, hk⟩
      rw [← HU2]
      exact ⟨rfl, ((Kept.refl _ w2).drew).trans hk⟩
    | true =>
      refine Calls.mono (be32 P 8 4 (cp - 8) x8 x9 x10 x11 w2.drew (by decide) b8 b9 b10 b11 k8 k9 k10 k11) ?_
      rintro e w' ⟨rfl, hk⟩
      rw [← HU2]
      exact ⟨rfl, ((Kept.refl _ w2).drew).trans hk⟩
  have HS : Hid (∀ w0, w0 = w2.drew → Calls Ybaf.prog (if big then 39 else 19) #[.agg #[], .slice (some ⟨P, 8, none⟩) 4 (cp - 8)] w0 fun e w' => e = .returned (.int .u32 (n : Int)) ∧ Kept (fun _ => False) w2 w') := step
  clear step b8 b9 b10 b11 k8 k9 k10 k11 HU2
  go_cut [6] from 8 (fun s6 wc => s6 = .int .u32 (n : Int) ∧ Kept (fun _ => False) w2 wc)
  case first =>
    cases big with
    | false =>
      have q2' : w2.cell? ⟨Q, 2, none⟩ = some (.iface 55 (.agg #[])) := q2
      clear q2
      refine still_tail 8 mixed (by kernel_rfl) ?_
      simp only [List.take_succ_cons, List.take_zero, List.drop_succ_cons, List.drop_zero]
      repeat still_step
      try refine wpStill_nil ?_
      go_wp2_with fail
      refine Calls.mono (HS.out _ rfl) ?_
      rintro _ w3 ⟨rfl, hk3⟩
      go_wp2_with fail
      go_meet
      case rel => exact ⟨rfl, hk3⟩
    | true =>
      have q2' : w2.cell? ⟨Q, 2, none⟩ = some (.iface 53 (.agg #[])) := q2
      clear q2
      refine still_tail 8 mixed (by kernel_rfl) ?_
      simp only [List.take_succ_cons, List.take_zero, List.drop_succ_cons, List.drop_zero]
      repeat still_step
      try refine wpStill_nil ?_
      go_wp2_with fail
      refine Calls.mono (HS.out _ rfl) ?_
      rintro _ w3 ⟨rfl, hk3⟩
      go_wp2_with fail
      go_meet
      case rel => exact ⟨rfl, hk3⟩
  case rest =>
    obtain ⟨rfl, hkc⟩ := hcut
    have hKw : Kept (Kp M X) w wc := HK2.out.trans (hkc.mono (fun _ _ h => h.elim))
    have hCw := HC2.out.kept hkc
    have hRw : n = 0 → ∃ (offs at' : Int) (P cp : Nat), Row wc Q 65 (crc B false (bo big) (fr : Int) offs (.slice (some ⟨P, 0, none⟩) cp cp) lk ifs at') := fun h0 => by
      obtain ⟨o, a, P, cp, hr⟩ := HR2.out h0
      exact ⟨o, a, P, cp, hr.kept hkc (fun h => h)⟩
    have hn1 : ¬ (16777216 : Int) < (n : Int) := by omega
    have hwn : IntKind.i64.wrap (n : Int) = (n : Int) := IntWalk.i64_in _ (by omega)
    clear e0 q2 HK2 HC2 HR2 HS hkc
    have HCr : Hid _ := read_un M X Q B Y U D cap L (p + 16) n false (bo big) fr lk ifs ae au wc hCw (by omega) (HG.out.kept hKw) hp2 hp3
    clear hCw hRw
    go_wp2_with fail
    refine Calls.mono HCr.out ?_
    rintro _ w3 ⟨rfl, hk, hC⟩
    clear HCr
    obtain ⟨offs, at', bv, hQ, _⟩ := hC.row
    have hk3 : Kept (Kp M X) w w3 := hKw.trans hk
    have HC2 : Hid _ := cut_uneof M Q B false (bo big) fr offs lk at' bv ifs ae au true w3 hQ hfr (HG.out.kept hk3)
    have e0 := (HG.out.kept hk3).e0
    have heq := eq_other (HG.out.kept hk3)
    have hM3 : M ≤ w3.heap.size := Nat.le_trans hC.mQ (Nat.le_of_lt hQ.lt)
    have HF : Hid (Kept (Kp M X) w (w3.alloc (.cells #[.int .i64 ((fr : Int) + 1), .bool true] 43)) ∧ Cr (w3.alloc (.cells #[.int .i64 ((fr : Int) + 1), .bool true] 43)) M X Q B Y U D cap L L.length false (bo big) (fr : Int) lk ifs) := ⟨hk3.alloc _, hC.kept ((Kept.refl _ w3).alloc _)⟩
    clear hk hC hQ HG hk3 hKw
    go_wp2_with fail
    refine Calls.mono HC2.out ?_
    rintro _ w4 ⟨rfl, rfl⟩
    go_wp2_with fail
    go_ret3
    exact ⟨_, rfl, hM3, Row.new w3 43 #[.int .i64 ((fr : Int) + 1), .bool true], HF.out.1, HF.out.2⟩


end Go.Proofs.YbulkbgsmFmt
