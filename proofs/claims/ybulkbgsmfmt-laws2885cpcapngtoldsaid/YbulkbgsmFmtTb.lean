import Derived.Test.YbulkbgsmFmtCq
namespace Go.Proofs.YbulkbgsmFmt
open Go.RowKit
attribute [local go_sem] eq_same eq_nil m_u32le m_u32be m_u16le m_u16be

/-- The buffer's window begins at its start and holds the first octets. -/
def First (w : World) (B U Y t : Nat) (L : List Int) : Prop := (∃ lb lr : Int, Row w B 79 (bfc U Y 0 t .nilIface lb lr)) ∧ (∃ vs : List Int, Row w U 5 (by8 vs) ∧ vs.take 12 = L.take 12) ∧ 12 ≤ t ∧ t ≤ 4096 ∧ 12 ≤ L.length

theorem First.kept {w w' : World} {B U Y t : Nat} {L : List Int} {p : Nat → Prop} (h : First w B U Y t L) (hk : Kept p w w') (hB : ¬ p B) (hU : ¬ p U) : First w' B U Y t L := by
  obtain ⟨⟨lb, lr, h1⟩, ⟨vs, h2, h3⟩, h4⟩ := h
  exact ⟨⟨lb, lr, h1.kept hk hB⟩, ⟨vs, h2.kept hk hU, h3⟩, h4⟩

theorem Sp.reB {w w' : World} {B Y U D cap : Nat} {L : List Int} {p r v : Nat} {lb lr lb' lr' : Int} (h : Sp w B Y U D cap L p) (hB : Row w B 79 (bfc U Y r v .nilIface lb lr)) (hB' : Row w' B 79 (bfc U Y r v .nilIface lb' lr')) (hk : Kept (fun k => k = B) w w') : Sp w' B Y U D cap L p := by
  obtain ⟨i, r', v', h, rfl⟩ := h
  obtain ⟨⟨lb2, lr2, h1⟩, ⟨pr, h2⟩, ⟨us, h3, h4, h5⟩, ⟨rest, h6⟩, a1, a2, a3, a4, a5, a6, b1, b2, b3, b4, b5, b6⟩ := h
  have e2 := (h1.cell 2).symm.trans (hB.cell 2)
  have e3 := (h1.cell 3).symm.trans (hB.cell 3)
  simp [bfc] at e2 e3
  obtain rfl : r' = r := by omega
  obtain rfl : v' = v := by omega
  exact ⟨i, r', v', ⟨⟨lb', lr', hB'⟩, ⟨pr, h2.kept hk (fun h => b1 h.symm)⟩, ⟨us, h3, h4.kept hk (fun h => b2 h.symm), h5⟩, ⟨rest, h6.kept hk (fun h => b3 h.symm)⟩, a1, a2, a3, a4, a5, a6, b1, b2, b3, b4, b5, b6⟩, rfl⟩

theorem first_peek (V : Nat → Prop) (Q B Y U D cap : Nat) (L : List Int) (n t : Nat) (ord : Value) (fr : Int) (ifs : Value) (w : World) (h : Cq w V Q B Y U D cap L 0 ord fr ifs) (hF : First w B U Y t L) (hn0 : 0 < n) (hn : n ≤ 12) :
    Calls Ybaf.prog 17 #[.pointer (some ⟨B, 0, none⟩), .int .i64 (n : Int)] w fun e w' => e = .returned (.tuple #[.slice (some ⟨U, 0, none⟩) n 4096, .nilIface]) ∧ Cq w' V Q B Y U D cap L 0 ord fr ifs ∧ First w' B U Y t L ∧ Kept (fun k => k = B) w w' := by
  obtain ⟨⟨lb, lr, h1⟩, ⟨vs, h2, h3⟩, h4, h5, h6⟩ := hF
  refine (peek_a B U Y 0 t n lb lr w h1 h5 (by omega) hn0).mono ?_
  rintro e w' ⟨rfl, hB', hk⟩
  have hs := h.sp.reB h1 hB' hk
  have hUB : ¬ U = B := by
    obtain ⟨i, r, v, hs, _⟩ := h.sp
    exact fun e => hs.nBU e.symm
  exact ⟨rfl, h.turn (Kept.mono (q := fun k => k = B ∨ k = Y ∨ k = U) hk (fun _ _ h => .inl h)) hs, ⟨⟨-1, -1, hB'⟩, ⟨vs, h2.kept hk hUB, h3⟩, h4, h5, h6⟩, hk⟩

theorem First.cell {w : World} {B U Y t : Nat} {L : List Int} (h : First w B U Y t L) (j : Nat) (hj : j < 12) (x : Int) (hx : (L.take 12)[j]? = some x) : w.cell? ⟨U, j, none⟩ = some (.int .u8 x) := by
  obtain ⟨_, ⟨vs, h2, h3⟩, _⟩ := h
  rw [h2.cell j]
  rw [← h3, List.getElem?_take_of_lt hj] at hx
  simp [by8, hx]

/-- The first octets of a pcapng file. -/
def mag12 (big : Bool) : List Int := if big then [10, 13, 13, 10, 0, 0, 0, 28, 26, 43, 60, 77] else [10, 13, 13, 10, 28, 0, 0, 0, 77, 60, 43, 26]

set_option maxHeartbeats 1000000 in
set_option maxRecDepth 100000 in
/-- takeByteOrder at the file's start. -/
theorem tb_big (V : Nat → Prop) (Q B Y U D cap : Nat) (L : List Int) (t : Nat) (at' : Value) (fr : Int) (ifs : Value) (w : World) (h : Cq w V Q B Y U D cap L 0 .nilIface fr ifs) (hF : First w B U Y t L) (hL : L.take 12 = mag12 true) :
    Calls Ybaf.prog 37 #[.pointer (some ⟨Q, 0, none⟩), at'] w fun e w' => e = .returned .nilIface ∧ Cq w' V Q B Y U D cap L 0 (bo true) fr ifs ∧ First w' B U Y t L ∧ Kept (fun k => ¬ V k) w w' := by
  obtain ⟨offs, lk, at2, bv, hQ, _⟩ := h.row
  have HP : Hid _ := first_peek V Q B Y U D cap L 12 t .nilIface fr ifs w h hF (by decide) (by decide)
  have HV : Hid (¬ V Q ∧ ¬ V B ∧ Q ≠ B ∧ Q ≠ U) := ⟨h.vQ, h.vB, h.nB, h.nU⟩
  have c0 : w.cell? ⟨Q, 0, none⟩ = some (.pointer (some ⟨B, 0, none⟩)) := hQ.cell 0
  clear h hF hQ
  go_enter Ybaf.func37, Ybaf.ntmps37
  go_wp2_with fail
  refine Calls.mono HP.out ?_
  rintro _ w2 ⟨rfl, hC2, hF2, hk2⟩
  have b8 := hF2.cell 8 (by decide) 26 (by rw [hL]; rfl)
  have b9 := hF2.cell 9 (by decide) 43 (by rw [hL]; rfl)
  have b10 := hF2.cell 10 (by decide) 60 (by rw [hL]; rfl)
  have b11 := hF2.cell 11 (by decide) 77 (by rw [hL]; rfl)
  have HS : Hid (∀ w0, Kept (fun _ => False) w2 w0 → Calls Ybaf.prog 19 #[.agg #[], .slice (some ⟨U, 8, none⟩) 4 4088] w0 fun e w' => e = .returned (.int .u32 1295788826) ∧ Kept (fun _ => False) w2 w') := u32_step false U 8 4088 _ _ _ _ w2 b8 b9 b10 b11 (by decide) (by decide) (by decide) (by decide)
  have HT : Hid (∀ w0, Kept (fun _ => False) w2 w0 → Calls Ybaf.prog 39 #[.agg #[], .slice (some ⟨U, 8, none⟩) 4 4088] w0 fun e w' => e = .returned (.int .u32 439041101) ∧ Kept (fun _ => False) w2 w') := u32_step true U 8 4088 _ _ _ _ w2 b8 b9 b10 b11 (by decide) (by decide) (by decide) (by decide)
  have HC2 : Hid (Cq w2 V Q B Y U D cap L 0 .nilIface fr ifs) := hC2
  have HF2 : Hid (First w2 B U Y t L ∧ Kept (fun k => k = B) w w2) := ⟨hF2, hk2⟩
  clear hC2 hF2 hk2 b8 b9 b10 b11 HP c0
  go_wp2_with fail
  refine still_tail 3 mixed (by kernel_rfl) ?_
  simp only [List.take_succ_cons, List.take_zero, List.drop_succ_cons, List.drop_zero]
  repeat still_step
  try refine wpStill_nil ?_
  go_wp2_with fail
  refine Calls.mono (HS.out _ ((Kept.refl _ w2).drew)) ?_
  rintro _ w3 ⟨rfl, hk3⟩
  go_wp2_with fail
  refine still_tail 3 mixed (by kernel_rfl) ?_
  simp only [List.take_succ_cons, List.take_zero, List.drop_succ_cons, List.drop_zero]
  repeat still_step
  try refine wpStill_nil ?_
  go_wp2_with fail
  refine Calls.mono (HT.out _ hk3.drew) ?_
  rintro _ w4 ⟨rfl, hk4⟩
  clear hk3
  have hC3 := HC2.out.kept hk4
  obtain ⟨o3, l3, a3, v3, hQ3, _⟩ := hC3.row
  have q2 : w4.cell? ⟨Q, 2, none⟩ = some .nilIface := hQ3.cell 2
  have f2 := hQ3.frozen 2
  have hkq : Kept (fun k => k = Q) w4 (w4.setCell ⟨Q, 2, none⟩ (.iface 53 (.agg #[]))) := (Kept.refl (fun k => k = Q) w4).setCell (g := Q) (j := 2) (fun _ => rfl) _
  have HZ : Hid (Cq (w4.setCell ⟨Q, 2, none⟩ (.iface 53 (.agg #[]))) V Q B Y U D cap L 0 (bo true) fr ifs ∧ First (w4.setCell ⟨Q, 2, none⟩ (.iface 53 (.agg #[]))) B U Y t L ∧ Kept (fun k => ¬ V k) w (w4.setCell ⟨Q, 2, none⟩ (.iface 53 (.agg #[])))) := ⟨hC3.setOrd _, (HF2.out.1.kept hk4 (fun h => h) (fun h => h)).kept hkq (fun h => HV.out.2.2.1 h.symm) (fun h => HV.out.2.2.2 h.symm), ((Kept.mono (q := fun k => ¬ V k) HF2.out.2 (fun k _ h => by rw [h]; exact HV.out.2.1)).trans (Kept.mono (q := fun k => ¬ V k) hk4 (fun _ _ h => h.elim))).trans (Kept.mono (q := fun k => ¬ V k) hkq (fun k _ h => by rw [h]; exact HV.out.1))⟩
  clear hC3 hQ3 hkq hk4 HC2 HF2
  go_wp2_with fail
  go_ret
  exact ⟨rfl, HZ.out⟩

set_option maxHeartbeats 1000000 in
set_option maxRecDepth 100000 in
/-- takeByteOrder at the file's start. -/
theorem tb_little (V : Nat → Prop) (Q B Y U D cap : Nat) (L : List Int) (t : Nat) (at' : Value) (fr : Int) (ifs : Value) (w : World) (h : Cq w V Q B Y U D cap L 0 .nilIface fr ifs) (hF : First w B U Y t L) (hL : L.take 12 = mag12 false) :
    Calls Ybaf.prog 37 #[.pointer (some ⟨Q, 0, none⟩), at'] w fun e w' => e = .returned .nilIface ∧ Cq w' V Q B Y U D cap L 0 (bo false) fr ifs ∧ First w' B U Y t L ∧ Kept (fun k => ¬ V k) w w' := by
  obtain ⟨offs, lk, at2, bv, hQ, _⟩ := h.row
  have HP : Hid _ := first_peek V Q B Y U D cap L 12 t .nilIface fr ifs w h hF (by decide) (by decide)
  have HV : Hid (¬ V Q ∧ ¬ V B ∧ Q ≠ B ∧ Q ≠ U) := ⟨h.vQ, h.vB, h.nB, h.nU⟩
  have c0 : w.cell? ⟨Q, 0, none⟩ = some (.pointer (some ⟨B, 0, none⟩)) := hQ.cell 0
  clear h hF hQ
  go_enter Ybaf.func37, Ybaf.ntmps37
  go_wp2_with fail
  refine Calls.mono HP.out ?_
  rintro _ w2 ⟨rfl, hC2, hF2, hk2⟩
  have b8 := hF2.cell 8 (by decide) 77 (by rw [hL]; rfl)
  have b9 := hF2.cell 9 (by decide) 60 (by rw [hL]; rfl)
  have b10 := hF2.cell 10 (by decide) 43 (by rw [hL]; rfl)
  have b11 := hF2.cell 11 (by decide) 26 (by rw [hL]; rfl)
  have HS : Hid (∀ w0, Kept (fun _ => False) w2 w0 → Calls Ybaf.prog 19 #[.agg #[], .slice (some ⟨U, 8, none⟩) 4 4088] w0 fun e w' => e = .returned (.int .u32 439041101) ∧ Kept (fun _ => False) w2 w') := u32_step false U 8 4088 _ _ _ _ w2 b8 b9 b10 b11 (by decide) (by decide) (by decide) (by decide)
  have HC2 : Hid (Cq w2 V Q B Y U D cap L 0 .nilIface fr ifs) := hC2
  have HF2 : Hid (First w2 B U Y t L ∧ Kept (fun k => k = B) w w2) := ⟨hF2, hk2⟩
  clear hC2 hF2 hk2 b8 b9 b10 b11 HP c0
  go_wp2_with fail
  refine still_tail 3 mixed (by kernel_rfl) ?_
  simp only [List.take_succ_cons, List.take_zero, List.drop_succ_cons, List.drop_zero]
  repeat still_step
  try refine wpStill_nil ?_
  go_wp2_with fail
  refine Calls.mono (HS.out _ ((Kept.refl _ w2).drew)) ?_
  rintro _ w3 ⟨rfl, hk3⟩
  have hC3 := HC2.out.kept hk3
  obtain ⟨o3, l3, a3, v3, hQ3, _⟩ := hC3.row
  have q2 : w3.cell? ⟨Q, 2, none⟩ = some .nilIface := hQ3.cell 2
  have f2 := hQ3.frozen 2
  have hkq : Kept (fun k => k = Q) w3 (w3.setCell ⟨Q, 2, none⟩ (.iface 55 (.agg #[]))) := (Kept.refl (fun k => k = Q) w3).setCell (g := Q) (j := 2) (fun _ => rfl) _
  have HZ : Hid (Cq (w3.setCell ⟨Q, 2, none⟩ (.iface 55 (.agg #[]))) V Q B Y U D cap L 0 (bo false) fr ifs ∧ First (w3.setCell ⟨Q, 2, none⟩ (.iface 55 (.agg #[]))) B U Y t L ∧ Kept (fun k => ¬ V k) w (w3.setCell ⟨Q, 2, none⟩ (.iface 55 (.agg #[])))) := ⟨hC3.setOrd _, (HF2.out.1.kept hk3 (fun h => h) (fun h => h)).kept hkq (fun h => HV.out.2.2.1 h.symm) (fun h => HV.out.2.2.2 h.symm), ((Kept.mono (q := fun k => ¬ V k) HF2.out.2 (fun k _ h => by rw [h]; exact HV.out.2.1)).trans (Kept.mono (q := fun k => ¬ V k) hk3 (fun _ _ h => h.elim))).trans (Kept.mono (q := fun k => ¬ V k) hkq (fun k _ h => by rw [h]; exact HV.out.1))⟩
  clear hC3 hQ3 hkq hk3 HC2 HF2
  go_wp2_with fail
  go_ret
  exact ⟨rfl, HZ.out⟩

end Go.Proofs.YbulkbgsmFmt
