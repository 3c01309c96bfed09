import Derived.Test.YbulkbgsmFmtPh
namespace Go.Proofs.YbulkbgsmFmt
open Go.RowKit
attribute [local go_sem] eq_same eq_nil m_u32le m_u32be

theorem Cr.turn {w w' : World} {M X Q B Y U D cap : Nat} {L : List Int} {p p' : Nat} {pn : Bool} {ord : Value} {fr lk : Int} {ifs : Value} (h : Cr w M X Q B Y U D cap L p pn ord fr lk ifs) (hk : Kept (fun k => k = B ∨ k = Y ∨ k = U) w w') (hs : Sp w' B Y U D cap L p') : Cr w' M X Q B Y U D cap L p' pn ord fr lk ifs := by
  obtain ⟨⟨offs, at', bv, hQ, hr⟩, hsp, a1, a2, a3, a4, a5, a6, a7, a8, a9, x1, x2, x3, x4, x5⟩ := h
  refine ⟨⟨offs, at', bv, hQ.kept hk (fun h => by rcases h with h | h | h; exact a7 h; exact a8 h; exact a9 h), ?_⟩, hs, a1, a2, a3, a4, a5, a6, a7, a8, a9, x1, x2, x3, x4, Nat.lt_of_lt_of_le x5 hk.size⟩
  rcases hr with h | ⟨P, cp, qs, h1, h2, h3, h4, h5, h6, h7, h8, h9⟩
  · exact .inl h
  · exact .inr ⟨P, cp, qs, h1, h2, h3.kept hk (fun h => by rcases h with h | h | h; exact h6 h; exact h7 h; exact h8 h), h4, h5, h6, h7, h8, h9⟩

theorem win_cell {w : World} {U off n p : Nat} {us L : List Int} (h : Row w U 5 (by8 us)) (e : (us.drop off).take n = (L.drop p).take n) (k : Nat) (hk : k < n) (x : Int) (hx : ((L.drop p).take n)[k]? = some x) : w.cell? ⟨U, off + k, none⟩ = some (.int .u8 x) := by
  rw [h.cell (off + k)]
  rw [← e, List.getElem?_take_of_lt hk, List.getElem?_drop] at hx
  simp [by8, hx]

/-- The world with a new capture reader. -/
def qw (w : World) (B : Nat) : World := w.alloc (.cells #[.pointer (some ⟨B, 0, none⟩), .bool false, .nilIface, .int .i64 0, .int .i64 0, .slice none 0 0, .int .i64 0, .slice none 0 0, .int .i64 0] 65)

theorem new_cr {w w2 : World} {M B Y U D cap : Nat} {L : List Int} {rs : List Value} {pr : Int} (hY : Row w Y 73 [.slice (some ⟨D, 0, none⟩) L.length cap, .int .i64 0, .int .i64 pr]) (hD : Row w D 5 (by8 L ++ rs)) (hL : L.length ≤ 4000000) (hcap : L.length ≤ cap) (mY : M ≤ Y) (mD : D < M) (m10 : 10 ≤ M)
    (hBl : w.heap.size = B) (hU : U = B + 1) (hB : Row w2 B 79 (bfc U Y 0 0 .nilIface (-1) (-1))) (hU2 : Row w2 U 5 (by8 (List.replicate 4096 0))) (hk : Kept (fun _ => False) w w2) :
    Cr (qw w2 B) M D w2.heap.size B Y U D cap L 0 false .nilIface 0 0 (.slice none 0 0) := by
  have hYl := hY.lt
  have hDl := hD.lt
  have hs := hk.size
  have hBl2 := hB.lt
  have hUl2 := hU2.lt
  have kq : Kept (fun _ => False) w2 (qw w2 B) := (Kept.refl _ w2).alloc _
  have hkk := hk.trans kq
  refine ⟨⟨0, 0, .slice none 0 0, Row.new w2 65 #[.pointer (some ⟨B, 0, none⟩), .bool false, .nilIface, .int .i64 0, .int .i64 0, .slice none 0 0, .int .i64 0, .slice none 0 0, .int .i64 0], .inl rfl⟩, ⟨0, 0, 0, ⟨⟨-1, -1, hB.kept kq (fun h => h)⟩, ⟨pr, hY.kept hkk (fun h => h)⟩, ⟨List.replicate 4096 0, List.length_replicate, hU2.kept kq (fun h => h), by rw [Nat.sub_self, List.take_zero, List.take_zero]⟩, ⟨rs, hD.kept hkk (fun h => h)⟩, Nat.le_refl _, by omega, by omega, by omega, hL, hcap, by omega, by omega, by omega, by omega, by omega, by omega⟩, rfl⟩, by omega, by omega, mY, by omega, mD, m10, by omega, by omega, by omega, by omega, by omega, by omega, by omega, Nat.lt_of_lt_of_le (by omega) kq.size⟩

set_option maxHeartbeats 2000000 in
set_option maxRecDepth 100000 in
/-- NewReader over a classic file. -/
theorem nw_big (M Y D cap : Nat) (L : List Int) (rs : List Value) (pr : Int) (ae au : Addr) (w : World) (hY : Row w Y 73 [.slice (some ⟨D, 0, none⟩) L.length cap, .int .i64 0, .int .i64 pr]) (hD : Row w D 5 (by8 L ++ rs)) (hLl : L.length ≤ 4000000) (hcap : L.length ≤ cap) (mY : M ≤ Y) (mD : D < M)
    (hG : Gl w M ae au) (hL : 24 ≤ L.length) (hb : ∀ x ∈ L, 0 ≤ x ∧ x ≤ 255) (hm : L.take 4 = [161, 178, 195, 212]) (hv : u16f true L[4] L[5] = 2) (lk v32 : Int) (hv32 : u32f true L[20] L[21] L[22] L[23] = v32) (hlk : bits .and .u32 v32 65535 = lk) (hwl : IntKind.i64.wrap lk = lk) :
    Calls Ybaf.prog 7 #[.iface 34 (.pointer (some ⟨Y, 0, none⟩))] w fun e w' => ∃ Q B U : Nat, e = .returned (.tuple #[.pointer (some ⟨Q, 0, none⟩), .nilIface]) ∧ Kept (fun k => M ≤ k) w w' ∧ Cr w' M D Q B Y U D cap L 24 false (bo true) 0 lk (.slice none 0 0) := by
  have HN : Hid _ := bufNew Y w
  go_enter Ybaf.func7, Ybaf.ntmps7
  have hYl := hY.lt
  go_wp2_with fail
  refine Calls.mono HN.out ?_
  rintro _ w2 ⟨rfl, hB, hU, hk2⟩
  have hC := new_cr hY hD hLl hcap mY mD hG.m10 rfl rfl hB hU hk2
  have hkq : Kept (fun _ => False) w (qw w2 w.heap.size) := hk2.trans ((Kept.refl _ w2).alloc _)
  have hBl2 := hB.lt
  have mB : M ≤ w.heap.size := by omega
  clear hB hU HN hk2 hY hD
  generalize w.heap.size = B at *
  obtain ⟨o0, a0, v0, hQ0, _⟩ := hC.row
  have HP : Hid _ := peek_ok B Y (B + 1) D cap L 0 4 (qw w2 B) hC.sp (by decide) (by decide) (by omega)
  have HQ : Hid (Row (qw w2 B) w2.heap.size 65 (crc B false .nilIface 0 o0 v0 0 (.slice none 0 0) a0)) := hQ0
  have HC : Hid (Cr (qw w2 B) M D w2.heap.size B Y (B + 1) D cap L 0 false .nilIface 0 0 (.slice none 0 0)) := hC
  have HG : Hid (Gl w M ae au) := hG
  have HK : Hid (Kept (fun _ => False) w (qw w2 B)) := hkq
  have HB : Hid (∀ x ∈ L, 0 ≤ x ∧ x ≤ 255) := hb
  clear hQ0 hC hG hkq hb
  go_wp2_with fail
  refine Calls.mono HP.out ?_
  rintro _ w4 ⟨off, c, us, rfl, hU4, hus, hs4, hk4⟩
  have hC4 := HC.out.turn hk4 hs4
  have b0 := win_cell hU4 hus 0 (by decide) 161 (by rw [List.drop_zero, hm]; rfl)
  have b1 := win_cell hU4 hus 1 (by decide) 178 (by rw [List.drop_zero, hm]; rfl)
  have b2 := win_cell hU4 hus 2 (by decide) 195 (by rw [List.drop_zero, hm]; rfl)
  have b3 := win_cell hU4 hus 3 (by decide) 212 (by rw [List.drop_zero, hm]; rfl)
  have hk4' : Kept (fun k => M ≤ k) w w4 := (Kept.mono (q := fun k => M ≤ k) HK.out (fun _ _ h => h.elim)).trans (Kept.mono (q := fun k => M ≤ k) hk4 (fun k _ h => by omega))
  have HL : Hid (Calls Ybaf.prog 19 #[.agg #[], .slice (some ⟨B + 1, off, none⟩) 4 c] w4 fun e w' => e = .returned (.int .u32 3569595041) ∧ Kept (fun _ => False) w4 w') := le32 (B + 1) off 4 c 161 178 195 212 w4 (by decide) b0 b1 b2 b3 (by decide) (by decide) (by decide) (by decide)
  have HC4 : Hid (Cr w4 M D w2.heap.size B Y (B + 1) D cap L 0 false .nilIface 0 0 (.slice none 0 0)) := hC4
  have HK4 : Hid (Kept (fun k => M ≤ k) w w4) := hk4'
  clear hC4 hU4 hus hs4 hk4 hk4' HP HQ HC HK
  go_wp2_with fail
  refine Calls.mono HL.out ?_
  rintro _ w5 ⟨rfl, hk5⟩
  have HK5 : Hid (Kept (fun k => M ≤ k) w w5) := HK4.out.trans (Kept.mono (q := fun k => M ≤ k) hk5 (fun _ _ h => h.elim))
  have hG5 : Gl w5 M ae au := HG.out.kept (X := D) (Kept.mono (q := Kp M D) HK5.out (fun k _ h => ⟨h, by omega⟩))
  have HP5 : Hid _ := ph_big M w2.heap.size B Y (B + 1) D cap L (.slice none 0 0) ae au off c w5 (HC4.out.kept hk5) hG5 hL HB.out hv lk v32 hv32 hlk hwl (hk5.cell b0 (fun h => h)) (hk5.cell b1 (fun h => h)) (hk5.cell b2 (fun h => h)) (hk5.cell b3 (fun h => h))
  clear hk5 hG5 HK4 HC4 HL b0 b1 b2 b3
  go_wp2_with fail
  refine Calls.mono HP5.out ?_
  rintro _ w6 ⟨rfl, hk6, hC6⟩
  have HF : Hid (Kept (fun k => M ≤ k) w w6 ∧ Cr w6 M D w2.heap.size B Y (B + 1) D cap L 24 false (bo true) 0 lk (.slice none 0 0)) := ⟨HK5.out.trans hk6, hC6⟩
  clear hk6 hC6 HP5 HK5
  go_wp2_with fail
  go_ret2
  exact ⟨_, _, _, rfl, HF.out⟩

set_option maxHeartbeats 2000000 in
set_option maxRecDepth 100000 in
/-- NewReader over a classic file. -/
theorem nw_little (M Y D cap : Nat) (L : List Int) (rs : List Value) (pr : Int) (ae au : Addr) (w : World) (hY : Row w Y 73 [.slice (some ⟨D, 0, none⟩) L.length cap, .int .i64 0, .int .i64 pr]) (hD : Row w D 5 (by8 L ++ rs)) (hLl : L.length ≤ 4000000) (hcap : L.length ≤ cap) (mY : M ≤ Y) (mD : D < M)
    (hG : Gl w M ae au) (hL : 24 ≤ L.length) (hb : ∀ x ∈ L, 0 ≤ x ∧ x ≤ 255) (hm : L.take 4 = [212, 195, 178, 161]) (hv : u16f false L[4] L[5] = 2) (lk v32 : Int) (hv32 : u32f false L[20] L[21] L[22] L[23] = v32) (hlk : bits .and .u32 v32 65535 = lk) (hwl : IntKind.i64.wrap lk = lk) :
    Calls Ybaf.prog 7 #[.iface 34 (.pointer (some ⟨Y, 0, none⟩))] w fun e w' => ∃ Q B U : Nat, e = .returned (.tuple #[.pointer (some ⟨Q, 0, none⟩), .nilIface]) ∧ Kept (fun k => M ≤ k) w w' ∧ Cr w' M D Q B Y U D cap L 24 false (bo false) 0 lk (.slice none 0 0) := by
  have HN : Hid _ := bufNew Y w
  go_enter Ybaf.func7, Ybaf.ntmps7
  have hYl := hY.lt
  go_wp2_with fail
  refine Calls.mono HN.out ?_
  rintro _ w2 ⟨rfl, hB, hU, hk2⟩
  have hC := new_cr hY hD hLl hcap mY mD hG.m10 rfl rfl hB hU hk2
  have hkq : Kept (fun _ => False) w (qw w2 w.heap.size) := hk2.trans ((Kept.refl _ w2).alloc _)
  have hBl2 := hB.lt
  have mB : M ≤ w.heap.size := by omega
  clear hB hU HN hk2 hY hD
  generalize w.heap.size = B at *
  obtain ⟨o0, a0, v0, hQ0, _⟩ := hC.row
  have HP : Hid _ := peek_ok B Y (B + 1) D cap L 0 4 (qw w2 B) hC.sp (by decide) (by decide) (by omega)
  have HQ : Hid (Row (qw w2 B) w2.heap.size 65 (crc B false .nilIface 0 o0 v0 0 (.slice none 0 0) a0)) := hQ0
  have HC : Hid (Cr (qw w2 B) M D w2.heap.size B Y (B + 1) D cap L 0 false .nilIface 0 0 (.slice none 0 0)) := hC
  have HG : Hid (Gl w M ae au) := hG
  have HK : Hid (Kept (fun _ => False) w (qw w2 B)) := hkq
  have HB : Hid (∀ x ∈ L, 0 ≤ x ∧ x ≤ 255) := hb
  clear hQ0 hC hG hkq hb
  go_wp2_with fail
  refine Calls.mono HP.out ?_
  rintro _ w4 ⟨off, c, us, rfl, hU4, hus, hs4, hk4⟩
  have hC4 := HC.out.turn hk4 hs4
  have b0 := win_cell hU4 hus 0 (by decide) 212 (by rw [List.drop_zero, hm]; rfl)
  have b1 := win_cell hU4 hus 1 (by decide) 195 (by rw [List.drop_zero, hm]; rfl)
  have b2 := win_cell hU4 hus 2 (by decide) 178 (by rw [List.drop_zero, hm]; rfl)
  have b3 := win_cell hU4 hus 3 (by decide) 161 (by rw [List.drop_zero, hm]; rfl)
  have hk4' : Kept (fun k => M ≤ k) w w4 := (Kept.mono (q := fun k => M ≤ k) HK.out (fun _ _ h => h.elim)).trans (Kept.mono (q := fun k => M ≤ k) hk4 (fun k _ h => by omega))
  have HL : Hid (Calls Ybaf.prog 19 #[.agg #[], .slice (some ⟨B + 1, off, none⟩) 4 c] w4 fun e w' => e = .returned (.int .u32 2712847316) ∧ Kept (fun _ => False) w4 w') := le32 (B + 1) off 4 c 212 195 178 161 w4 (by decide) b0 b1 b2 b3 (by decide) (by decide) (by decide) (by decide)
  have HC4 : Hid (Cr w4 M D w2.heap.size B Y (B + 1) D cap L 0 false .nilIface 0 0 (.slice none 0 0)) := hC4
  have HK4 : Hid (Kept (fun k => M ≤ k) w w4) := hk4'
  clear hC4 hU4 hus hs4 hk4 hk4' HP HQ HC HK
  go_wp2_with fail
  refine Calls.mono HL.out ?_
  rintro _ w5 ⟨rfl, hk5⟩
  have HK5 : Hid (Kept (fun k => M ≤ k) w w5) := HK4.out.trans (Kept.mono (q := fun k => M ≤ k) hk5 (fun _ _ h => h.elim))
  have hG5 : Gl w5 M ae au := HG.out.kept (X := D) (Kept.mono (q := Kp M D) HK5.out (fun k _ h => ⟨h, by omega⟩))
  have HP5 : Hid _ := ph_little M w2.heap.size B Y (B + 1) D cap L (.slice none 0 0) ae au off c w5 (HC4.out.kept hk5) hG5 hL HB.out hv lk v32 hv32 hlk hwl (hk5.cell b0 (fun h => h)) (hk5.cell b1 (fun h => h)) (hk5.cell b2 (fun h => h)) (hk5.cell b3 (fun h => h))
  clear hk5 hG5 HK4 HC4 HL b0 b1 b2 b3
  go_wp2_with fail
  refine Calls.mono HP5.out ?_
  rintro _ w6 ⟨rfl, hk6, hC6⟩
  have HF : Hid (Kept (fun k => M ≤ k) w w6 ∧ Cr w6 M D w2.heap.size B Y (B + 1) D cap L 24 false (bo false) 0 lk (.slice none 0 0)) := ⟨HK5.out.trans hk6, hC6⟩
  clear hk6 hC6 HP5 HK5
  go_wp2_with fail
  go_ret2
  exact ⟨_, _, _, rfl, HF.out⟩

end Go.Proofs.YbulkbgsmFmt
