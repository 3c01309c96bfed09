import Derived.Test.YbulkbgsmFmtSb
import Derived.Test.YbulkbgsmFmtSl
import Derived.Test.YbulkbgsmFmtSs
namespace Go.Proofs.YbulkbgsmFmt
open Go.RowKit
attribute [local go_sem] eq_same eq_nil m_u32le m_u32be

theorem sec_ok (big : Bool) (V : Nat → Prop) (Q B Y U D cap : Nat) (L : List Int) (t : Nat) (fr : Int) (ifs : Value) (ae au : Addr) (w : World) (h : Cq w V Q B Y U D cap L 0 .nilIface fr ifs) (hF : First w B U Y t L) (hE : w.cell? ⟨0, 0, none⟩ = some (.iface 96 (.pointer (some ae)))) (hX : w.cell? ⟨8, 0, none⟩ = some (.iface 96 (.pointer (some au))))
    (hL : L.take 12 = mag12 big) (hl : 28 ≤ L.length) (hend : (L.drop 24).take 4 = b32 big 28) :
    Calls Ybaf.prog 29 #[.pointer (some ⟨Q, 0, none⟩)] w (Rb V Q B Y U D cap L 0 28 16 168627466 (bo big) fr ifs w) := by
  cases big with
  | true => exact sec_big V Q B Y U D cap L t fr ifs ae au w h hF hE hX hL hl hend
  | false => exact sec_little V Q B Y U D cap L t fr ifs ae au w h hF hE hX hL hl hend

/-- An octet of the block just read. -/
theorem blk_cell {w : World} {P n p : Nat} {qs L : List Int} (hP : Row w P 5 (by8 qs)) (hqs : qs.take n = (L.drop p).take n) (j : Nat) (hj : j < n) (hl : p + j < L.length) : w.cell? ⟨P, j, none⟩ = some (.int .u8 L[p + j]) := by
  have hx := win_get (L := L) (p := p) (n := n) j hj hl
  rw [hP.cell j]
  rw [← hqs, List.getElem?_take_of_lt hj] at hx
  simp [by8, hx]

set_option maxHeartbeats 1000000 in
set_option maxRecDepth 100000 in
/-- readSectionHeader. -/
theorem rsh_ok (big : Bool) (V : Nat → Prop) (Q B Y U D cap : Nat) (L : List Int) (t : Nat) (fr : Int) (ae au : Addr) (w : World) (h : Cq w V Q B Y U D cap L 0 .nilIface fr (.slice none 0 0)) (hF : First w B U Y t L) (hE : w.cell? ⟨0, 0, none⟩ = some (.iface 96 (.pointer (some ae)))) (hX : w.cell? ⟨8, 0, none⟩ = some (.iface 96 (.pointer (some au))))
    (hb : ∀ x ∈ L, 0 ≤ x ∧ x ≤ 255) (hL : L.take 12 = mag12 big) (hl : 28 ≤ L.length) (hmj : (L.drop 12).take 2 = b16 big 1) (hend : (L.drop 24).take 4 = b32 big 28) :
    Calls Ybaf.prog 20 #[.pointer (some ⟨Q, 0, none⟩)] w fun e w' => e = .returned .nilIface ∧ Kept (fun k => ¬ V k) w w' ∧ Cq w' V Q B Y U D cap L 28 (bo big) fr (.slice none 0 0) := by
  have HS : Hid (Calls Ybaf.prog 29 #[.pointer (some ⟨Q, 0, none⟩)] w (Rb V Q B Y U D cap L 0 28 16 168627466 (bo big) fr (.slice none 0 0) w)) := sec_ok big V Q B Y U D cap L t fr (.slice none 0 0) ae au w h hF hE hX hL hl hend
  have HB : Hid (∀ x ∈ L, 0 ≤ x ∧ x ≤ 255) := hb
  have HM : Hid (u16f big L[12] L[13] = 1) := u16_at big L 12 1 hmj (by omega)
  clear h hF hE hX hb hL hmj hend
  go_enter Ybaf.func20, Ybaf.ntmps20
  go_wp2_with fail
  refine Calls.mono HS.out ?_
  rintro _ w2 ⟨P, cp, qs, rfl, hcp, hql, hP, hqs, vP, nPQ, hk2, hC2⟩
  have d0 := blk_cell hP hqs 12 (by decide) (by omega)
  have d1 := blk_cell hP hqs 13 (by decide) (by omega)
  have d2 := blk_cell hP hqs 14 (by decide) (by omega)
  have d3 := blk_cell hP hqs 15 (by decide) (by omega)
  simp only [Nat.zero_add] at d0 d1 d2 d3
  have HT : Hid _ := ss_ok V Q B Y U D cap L 28 big fr P (cp - 8) _ _ _ _ w2 hC2 (by omega) d0 d1 d2 d3 (HB.out _ (List.getElem_mem _)) (HB.out _ (List.getElem_mem _)) (HB.out _ (List.getElem_mem _)) (HB.out _ (List.getElem_mem _)) HM.out
  have HK2 : Hid (Kept (fun k => ¬ V k) w w2) := hk2
  clear hC2 hP hqs hk2 d0 d1 d2 d3 HS HM
  go_wp2_with fail
  refine Calls.mono HT.out ?_
  rintro _ w3 ⟨rfl, hk3, hC3⟩
  have HZ : Hid (Kept (fun k => ¬ V k) w w3 ∧ Cq w3 V Q B Y U D cap L 28 (bo big) fr (.slice none 0 0)) := ⟨HK2.out.trans hk3, hC3⟩
  clear hk3 hC3 HT HK2
  go_wp2_with fail
  go_ret
  exact ⟨rfl, HZ.out⟩

theorem mk_cq {w : World} {M Q B Y U D cap t : Nat} {L vs : List Int} {rs : List Value} {lb lr pr : Int} (hQ : Row w Q 65 (crc B true .nilIface 0 0 (.slice none 0 0) 0 (.slice none 0 0) 0)) (hB : Row w B 79 (bfc U Y 0 t .nilIface lb lr)) (hY : Row w Y 73 [.slice (some ⟨D, 0, none⟩) L.length cap, .int .i64 (t : Int), .int .i64 pr]) (hvl : vs.length = 4096) (hU : Row w U 5 (by8 vs)) (hvt : vs.take t = L.take t) (hD : Row w D 5 (by8 L ++ rs))
    (ht : t ≤ 4096) (htL : t ≤ L.length) (ht12 : 12 ≤ t) (hLl : L.length ≤ 4000000) (hcap : L.length ≤ cap) (mQ : M ≤ Q) (mB : M ≤ B) (mY : M ≤ Y) (mU : M ≤ U) (mD : D < M) (m10 : 10 ≤ M) (nQB : Q ≠ B) (nQY : Q ≠ Y) (nQU : Q ≠ U) (nBY : B ≠ Y) (nBU : B ≠ U) (nYU : Y ≠ U) :
    Cq w (fun k => k < M) Q B Y U D cap L 0 .nilIface 0 (.slice none 0 0) ∧ First w B U Y t L := by
  have hQl := hQ.lt
  refine ⟨⟨⟨0, 0, 0, _, hQ, .inl rfl⟩, ⟨t, 0, t, ⟨⟨lb, lr, hB⟩, ⟨pr, hY⟩, ⟨vs, hvl, hU, ?_⟩, ⟨rs, hD⟩, by omega, ht, by omega, htL, hLl, hcap, nBY, nBU, by omega, nYU, by omega, by omega⟩, by omega⟩, by omega, by omega, by omega, by omega, mD, fun k hk => by omega, fun k hk => by omega, nQB, nQY, nQU⟩, ⟨⟨lb, lr, hB⟩, ⟨vs, hU, ?_⟩, ht12, ht, by omega⟩⟩
  · rw [Nat.sub_zero, Nat.sub_self, List.drop_zero, List.drop_zero]
    exact hvt
  · have := congrArg (List.take 12) hvt
    simpa [List.take_take, Nat.min_eq_left ht12] using this

set_option maxHeartbeats 2000000 in
set_option maxRecDepth 100000 in
/-- NewReader over a pcapng file. -/
theorem pn_ok (big : Bool) (M Y D cap : Nat) (L : List Int) (rs : List Value) (pr : Int) (ae au : Addr) (w : World) (hY : Row w Y 73 [.slice (some ⟨D, 0, none⟩) L.length cap, .int .i64 0, .int .i64 pr]) (hD : Row w D 5 (by8 L ++ rs)) (hLl : L.length ≤ 4000000) (hcap : L.length ≤ cap) (mY : M ≤ Y) (mD : D < M) (m10 : 10 ≤ M)
    (hE : w.cell? ⟨0, 0, none⟩ = some (.iface 96 (.pointer (some ae)))) (hX : w.cell? ⟨8, 0, none⟩ = some (.iface 96 (.pointer (some au)))) (hb : ∀ x ∈ L, 0 ≤ x ∧ x ≤ 255) (hL : L.take 12 = mag12 big) (hl : 28 ≤ L.length) (hmj : (L.drop 12).take 2 = b16 big 1) (hend : (L.drop 24).take 4 = b32 big 28) :
    Calls Ybaf.prog 7 #[.iface 34 (.pointer (some ⟨Y, 0, none⟩))] w fun e w' => ∃ Q B U : Nat, e = .returned (.tuple #[.pointer (some ⟨Q, 0, none⟩), .nilIface]) ∧ Kept (fun k => ¬ k < M) w w' ∧ Cq w' (fun k => k < M) Q B Y U D cap L 28 (bo big) 0 (.slice none 0 0) := by
  have HN : Hid _ := bufNew Y w
  go_enter Ybaf.func7, Ybaf.ntmps7
  have hYl := hY.lt
  have hDl := hD.lt
  go_wp2_with fail
  refine Calls.mono HN.out ?_
  rintro _ w2 ⟨rfl, hB, hU, hk2⟩
  have hs2 := hk2.size
  have hBl2 := hB.lt
  have hUl2 := hU.lt
  have kq : Kept (fun _ => False) w2 (qw w2 w.heap.size) := (Kept.refl _ w2).alloc _
  have hQ3 : Row (qw w2 w.heap.size) w2.heap.size 65 (crc w.heap.size false .nilIface 0 0 (.slice none 0 0) 0 (.slice none 0 0) 0) := Row.new w2 65 #[.pointer (some ⟨w.heap.size, 0, none⟩), .bool false, .nilIface, .int .i64 0, .int .i64 0, .slice none 0 0, .int .i64 0, .slice none 0 0, .int .i64 0]
  have hB3 := hB.kept kq (fun h => h)
  have hU3 := hU.kept kq (fun h => h)
  have hY3 := hY.kept (hk2.trans kq) (fun h => h)
  have hD3 := hD.kept (hk2.trans kq) (fun h => h)
  have hk3 : Kept (fun k => ¬ k < M) w (qw w2 w.heap.size) := Kept.mono (q := fun k => ¬ k < M) (hk2.trans kq) (fun _ _ h => h.elim)
  have mB : M ≤ w.heap.size := by omega
  clear hB hU HN hk2 hY hD kq
  generalize w.heap.size = B at *
  obtain ⟨t, ht⟩ : ∃ t, ((L.drop 0).take (4096 - 0)).length = t := ⟨_, rfl⟩
  have htl : t ≤ 4096 ∧ t ≤ L.length ∧ 28 ≤ t := by
    rw [← ht]
    simp
    omega
  have HP : Hid _ := peek_b B (B + 1) Y D 0 0 0 0 cap 4 (-1) (-1) pr L rs (List.replicate 4096 0) (qw w2 B) hB3 hY3 hD3 (by omega) hLl hcap List.length_replicate hU3 rfl (by decide) (by decide) (by decide) (by omega) (by omega) (by omega) (by omega) (by omega) (by omega) t ht (by omega)
  have HQ : Hid (Row (qw w2 B) w2.heap.size 65 (crc B false .nilIface 0 0 (.slice none 0 0) 0 (.slice none 0 0) 0) ∧ Row (qw w2 B) D 5 (by8 L ++ rs) ∧ Kept (fun k => ¬ k < M) w (qw w2 B)) := ⟨hQ3, hD3, hk3⟩
  have HE : Hid (w.cell? ⟨0, 0, none⟩ = some (.iface 96 (.pointer (some ae))) ∧ w.cell? ⟨8, 0, none⟩ = some (.iface 96 (.pointer (some au)))) := ⟨hE, hX⟩
  have HL : Hid ((∀ x ∈ L, 0 ≤ x ∧ x ≤ 255) ∧ L.take 12 = mag12 big ∧ 28 ≤ L.length ∧ (L.drop 12).take 2 = b16 big 1 ∧ (L.drop 24).take 4 = b32 big 28) := ⟨hb, hL, hl, hmj, hend⟩
  clear hQ3 hB3 hU3 hY3 hD3 hk3 hE hX hb hL hmj hend ht
  go_wp2_with fail
  refine Calls.mono HP.out ?_
  rintro _ w4 ⟨rfl, ⟨lb4, lr4, hB4⟩, hY4, ⟨vs, hvl, hU4, hvt⟩, hk4⟩
  have hQ4 := HQ.out.1.kept hk4 (by omega)
  have hD4 := HQ.out.2.1.kept hk4 (by omega)
  have hkw4 : Kept (fun k => ¬ k < M) w w4 := HQ.out.2.2.trans (Kept.mono (q := fun k => ¬ k < M) hk4 (fun k _ h => by omega))
  have hvt' : vs.take t = L.take t := by
    have e1 : (L.drop 0).take (4096 - 0) = L.take 4096 := by simp
    rw [Nat.zero_add, e1, List.take_zero, List.nil_append] at hvt
    have := congrArg (List.take t) hvt
    simpa [List.take_take, Nat.min_eq_left htl.1] using this
  have hv12 : vs.take 12 = mag12 big := by
    rw [← HL.out.2.1]
    have := congrArg (List.take 12) hvt'
    simpa [List.take_take, Nat.min_eq_left (show 12 ≤ t by omega)] using this
  have hcv : ∀ j x, j < 12 → (mag12 big)[j]? = some x → w4.cell? ⟨B + 1, j, none⟩ = some (.int .u8 x) := by
    intro j x hj hx
    rw [hU4.cell j]
    rw [← hv12, List.getElem?_take_of_lt hj] at hx
    simp [by8, hx]
  have HL4 : Hid (Calls Ybaf.prog 19 #[.agg #[], .slice (some ⟨B + 1, 0, none⟩) 4 4096] w4 fun e w' => e = .returned (.int .u32 168627466) ∧ Kept (fun _ => False) w4 w') := le32 (B + 1) 0 4 4096 10 13 13 10 w4 (by decide) (hcv 0 10 (by decide) (by cases big <;> rfl)) (hcv 1 13 (by decide) (by cases big <;> rfl)) (hcv 2 13 (by decide) (by cases big <;> rfl)) (hcv 3 10 (by decide) (by cases big <;> rfl)) (by decide) (by decide) (by decide) (by decide)
  have hYt : Row w4 Y 73 [.slice (some ⟨D, 0, none⟩) L.length cap, .int .i64 (t : Int), .int .i64 (-1)] := by simpa using hY4
  have hBt : Row w4 B 79 (bfc (B + 1) Y 0 t .nilIface lb4 lr4) := by simpa using hB4
  have HR4 : Hid (Row w4 w2.heap.size 65 (crc B false .nilIface 0 0 (.slice none 0 0) 0 (.slice none 0 0) 0) ∧ Row w4 B 79 (bfc (B + 1) Y 0 t .nilIface lb4 lr4) ∧ Row w4 Y 73 [.slice (some ⟨D, 0, none⟩) L.length cap, .int .i64 (t : Int), .int .i64 (-1)] ∧ Row w4 (B + 1) 5 (by8 vs) ∧ Row w4 D 5 (by8 L ++ rs) ∧ Kept (fun k => ¬ k < M) w w4 ∧ vs.length = 4096 ∧ vs.take t = L.take t) := ⟨hQ4, hBt, hYt, hU4, hD4, hkw4, hvl, hvt'⟩
  clear hQ4 hD4 hkw4 hvt hvt' hv12 hcv hYt hBt hB4 hY4 hU4 hk4 HP HQ
  go_wp2_with fail
  refine Calls.mono HL4.out ?_
  rintro _ w5 ⟨rfl, hk5⟩
  obtain ⟨r1, r2, r3, r4, r5, r6, r7, r8⟩ := HR4.out
  have hQ5 := r1.kept hk5 (fun h => h)
  have q1 : w5.cell? ⟨w2.heap.size, 1, none⟩ = some (.bool false) := hQ5.cell 1
  have g1 := hQ5.frozen 1
  have hk6 : Kept (fun k => k = w2.heap.size) w5 (w5.setCell ⟨w2.heap.size, 1, none⟩ (.bool true)) := (Kept.refl (fun k => k = w2.heap.size) w5).setCell (g := w2.heap.size) (j := 1) (fun _ => rfl) _
  have hmk := mk_cq (M := M) (hQ5.set 1 (.bool true)) ((r2.kept hk5 (fun h => h)).kept hk6 (by omega)) ((r3.kept hk5 (fun h => h)).kept hk6 (by omega)) r7 ((r4.kept hk5 (fun h => h)).kept hk6 (by omega)) r8 ((r5.kept hk5 (fun h => h)).kept hk6 (by omega)) htl.1 htl.2.1 (by omega) hLl hcap (by omega) mB mY (by omega) mD m10 (by omega) (by omega) (by omega) (by omega) (by omega) (by omega)
  have hkw6 : Kept (fun k => ¬ k < M) w (w5.setCell ⟨w2.heap.size, 1, none⟩ (.bool true)) := (r6.trans (Kept.mono (q := fun k => ¬ k < M) hk5 (fun _ _ h => h.elim))).trans (Kept.mono (q := fun k => ¬ k < M) hk6 (fun k _ h => by omega))
  have HZ : Hid _ := rsh_ok big (fun k => k < M) w2.heap.size B Y (B + 1) D cap L t 0 ae au _ hmk.1 hmk.2 (hkw6.cell HE.out.1 (by omega)) (hkw6.cell HE.out.2 (by omega)) HL.out.1 HL.out.2.1 HL.out.2.2.1 HL.out.2.2.2.1 HL.out.2.2.2.2
  have HK6 : Hid (Kept (fun k => ¬ k < M) w (w5.setCell ⟨w2.heap.size, 1, none⟩ (.bool true))) := hkw6
  clear r1 r2 r3 r4 r5 r6 r7 r8 hQ5 hk6 hmk hkw6 HR4 hk5 HL4 HL HE
  go_wp2_with fail
  refine Calls.mono HZ.out ?_
  rintro _ w7 ⟨rfl, hk7, hC7⟩
  have HF : Hid (Kept (fun k => ¬ k < M) w w7 ∧ Cq w7 (fun k => k < M) w2.heap.size B Y (B + 1) D cap L 28 (bo big) 0 (.slice none 0 0)) := ⟨HK6.out.trans hk7, hC7⟩
  clear hk7 hC7 HZ HK6
  go_wp2_with fail
  go_ret2
  exact ⟨_, _, _, rfl, HF.out⟩
end Go.Proofs.YbulkbgsmFmt
