import Derived.Test.YbulkbgsmFmtNr
namespace Go.Proofs.YbulkbgsmFmt
open Go.RowKit

theorem read_ok (M X Q B Y U D cap : Nat) (L : List Int) (p n : Nat) (pn : Bool) (ord : Value) (fr lk : Int) (ifs : Value) (ae au : Addr) (w : World) (h : Cr w M X Q B Y U D cap L p pn ord fr lk ifs) (hn : n ≤ 100000000)
    (hroom : n = 0 → ∃ (offs at' : Int) (P cp : Nat), Row w Q 65 (crc B pn ord fr offs (.slice (some ⟨P, 0, none⟩) cp cp) lk ifs at'))
    (hG : Gl w M ae au) (hp : p + n ≤ L.length) :
    Calls Ybaf.prog 31 #[.pointer (some ⟨Q, 0, none⟩), .int .i64 (n : Int)] w fun e w' => ∃ (P cp : Nat) (qs : List Int), e = .returned (.tuple #[.slice (some ⟨P, 0, none⟩) n cp, .nilIface]) ∧ n ≤ cp ∧ Kept (Kp M X) w w' ∧ qs.length = cp ∧ Row w' P 5 (by8 qs) ∧ qs.take n = (L.drop p).take n ∧ M ≤ P ∧ P ≠ Q ∧ P ≠ X ∧ (∃ offs at' : Int, Row w' Q 65 (crc B pn ord fr offs (.slice (some ⟨P, 0, none⟩) cp cp) lk ifs at')) ∧ Cr w' M X Q B Y U D cap L (p + n) pn ord fr lk ifs := by
  refine (read_walk M X Q B Y U D cap L p n pn ord fr lk ifs ae au w h hn hroom hG.e0 hG.e8).mono ?_
  rintro e w' ⟨x, y, rfl, hk, ⟨_, rfl, ⟨P, cp, qs, rfl, h1, h2, h3, h4, h5, h6, h7, h9⟩, h8⟩ | ⟨h1, _⟩⟩
  · exact ⟨P, cp, qs, rfl, h1, hk, h2, h3, h4, h5, h6, h7, h9, h8⟩
  · omega

theorem read_eof (M X Q B Y U D cap : Nat) (L : List Int) (p n : Nat) (pn : Bool) (ord : Value) (fr lk : Int) (ifs : Value) (ae au : Addr) (w : World) (h : Cr w M X Q B Y U D cap L p pn ord fr lk ifs) (hn : n ≤ 100000000) (hn0 : 0 < n) (hG : Gl w M ae au) (hp : p = L.length) :
    Calls Ybaf.prog 31 #[.pointer (some ⟨Q, 0, none⟩), .int .i64 (n : Int)] w fun e w' => e = .returned (.tuple #[.slice none 0 0, .iface 96 (.pointer (some ae))]) ∧ Kept (Kp M X) w w' ∧ Cr w' M X Q B Y U D cap L L.length pn ord fr lk ifs := by
  refine (read_walk M X Q B Y U D cap L p n pn ord fr lk ifs ae au w h hn (by omega) hG.e0 hG.e8).mono ?_
  rintro e w' ⟨x, y, rfl, hk, ⟨h1, _⟩ | ⟨_, rfl, rfl, h8⟩⟩
  · omega
  · rw [if_pos hp]; exact ⟨rfl, hk, h8⟩

theorem read_un (M X Q B Y U D cap : Nat) (L : List Int) (p n : Nat) (pn : Bool) (ord : Value) (fr lk : Int) (ifs : Value) (ae au : Addr) (w : World) (h : Cr w M X Q B Y U D cap L p pn ord fr lk ifs) (hn : n ≤ 100000000) (hG : Gl w M ae au) (hp : p < L.length) (hp2 : L.length < p + n) :
    Calls Ybaf.prog 31 #[.pointer (some ⟨Q, 0, none⟩), .int .i64 (n : Int)] w fun e w' => e = .returned (.tuple #[.slice none 0 0, .iface 96 (.pointer (some au))]) ∧ Kept (Kp M X) w w' ∧ Cr w' M X Q B Y U D cap L L.length pn ord fr lk ifs := by
  refine (read_walk M X Q B Y U D cap L p n pn ord fr lk ifs ae au w h hn (by omega) hG.e0 hG.e8).mono ?_
  rintro e w' ⟨x, y, rfl, hk, ⟨h1, _⟩ | ⟨_, rfl, rfl, h8⟩⟩
  · omega
  · rw [if_neg (by omega)]; exact ⟨rfl, hk, h8⟩

theorem hdr_cell {w : World} {P n p : Nat} {qs L : List Int} (h : Row w P 5 (by8 qs)) (e : qs.take n = (L.drop p).take n) (k : Nat) (hk : k < n) (hl : p + k < L.length) : w.cell? ⟨P, k, none⟩ = some (.int .u8 L[p + k]) := by
  have e1 : (qs.take n)[k]? = ((L.drop p).take n)[k]? := by rw [e]
  rw [List.getElem?_take_of_lt hk, List.getElem?_take_of_lt hk, List.getElem?_drop] at e1
  refine (h.cell k).trans ?_
  simp only [by8, List.getElem?_map, e1]
  simp [hl]

/-- The byte order's value. -/
def bo (big : Bool) : Value := if big then .iface 53 (.agg #[]) else .iface 55 (.agg #[])

/-- Four octets as a number. -/
def u32f (big : Bool) (a b c d : Int) : Int := if big then d + 256 * c + 65536 * b + 16777216 * a else a + 256 * b + 65536 * c + 16777216 * d

theorem eq_nil (v : Value) (w : World) : (binOp .eql 31 .nilIface (.iface 96 v)).run Ybaf.prog w = .ok (.bool false) w := run_eql_iface_nil_left w 96 v Ybaf.underlying31
theorem m_u32le (p : Value) (w : World) : (method 231 55 p "Uint32").run Ybaf.prog w = .ok (19, p) w := by kernel_rfl
theorem m_u32be (p : Value) (w : World) : (method 231 53 p "Uint32").run Ybaf.prog w = .ok (39, p) w := by kernel_rfl

/-- A capture reader's state, moved on by what leaves it alone. -/
theorem Cr.kept {w w' : World} {M X Q B Y U D cap : Nat} {L : List Int} {p : Nat} {pn : Bool} {ord : Value} {fr lk : Int} {ifs : Value} (h : Cr w M X Q B Y U D cap L p pn ord fr lk ifs) (hk : Kept (fun _ => False) w w') : Cr w' M X Q B Y U D cap L p pn ord fr lk ifs := by
  obtain ⟨⟨offs, at', bv, hQ, hr⟩, hsp, a1, a2, a3, a4, a5, a6, a7, a8, a9, x1, x2, x3, x4, x5⟩ := h
  refine ⟨⟨offs, at', bv, hQ.kept hk (fun h => h), ?_⟩, hsp.kept hk (fun h => h) (fun h => h) (fun h => h) (fun h => h), a1, a2, a3, a4, a5, a6, a7, a8, a9, x1, x2, x3, x4, Nat.lt_of_lt_of_le x5 hk.size⟩
  rcases hr with h | ⟨P, cp, qs, h1, h2, h3, h4⟩
  · exact .inl h
  · exact .inr ⟨P, cp, qs, h1, h2, h3.kept hk (fun h => h), h4⟩

attribute [local go_sem] eq_same eq_nil m_u32le m_u32be

set_option maxHeartbeats 1000000 in
set_option maxRecDepth 100000 in
/-- nextRecord at the end. -/
theorem nr_eof (M X Q B Y U D cap : Nat) (L : List Int) (p : Nat) (big : Bool) (fr : Nat) (lk : Int) (ifs : Value) (ae au : Addr) (w : World) (h : Cr w M X Q B Y U D cap L p false (bo big) (fr : Int) lk ifs) (hG : Gl w M ae au) (hp : p = L.length) :
    Calls Ybaf.prog 23 #[.pointer (some ⟨Q, 0, none⟩)] w fun e w' => e = .returned (.tuple #[.int .i64 0, .slice none 0 0, .iface 96 (.pointer (some ae))]) ∧ Kept (Kp M X) w w' ∧ Cr w' M X Q B Y U D cap L L.length false (bo big) (fr : Int) lk ifs := by
  have HC : Hid _ := read_eof M X Q B Y U D cap L p 16 false (bo big) fr lk ifs ae au w h (by decide) (by decide) hG hp
  have HG : Hid (Gl w M ae au) := hG
  clear h hG hp
  go_enter Ybaf.func23, Ybaf.ntmps23
  go_wp2_with fail
  refine Calls.mono HC.out ?_
  rintro _ w2 ⟨rfl, hk, hC⟩
  have e0 := (HG.out.kept hk).e0
  have HF : Hid (Kept (Kp M X) w w2 ∧ Cr w2 M X Q B Y U D cap L L.length false (bo big) (fr : Int) lk ifs) := ⟨hk, hC⟩
  clear hk hC HC HG
  go_wp2_with fail
  go_quiet (fail)
  go_wp2_with fail
  go_ret3
  exact ⟨rfl, HF.out.1.drewN _, HF.out.2.kept ((Kept.refl _ w2).drewN _)⟩

set_option maxHeartbeats 1000000 in
set_option maxRecDepth 100000 in
/-- nextRecord where the record's header is cut. -/
theorem nr_short (M X Q B Y U D cap : Nat) (L : List Int) (p : Nat) (big : Bool) (fr : Nat) (lk : Int) (ifs : Value) (ae au : Addr) (w : World) (h : Cr w M X Q B Y U D cap L p false (bo big) (fr : Int) lk ifs) (hG : Gl w M ae au) (hfr : fr ≤ 1000000) (hp : p < L.length) (hp2 : L.length < p + 16) :
    Calls Ybaf.prog 23 #[.pointer (some ⟨Q, 0, none⟩)] w fun e w' => ∃ T : Nat, e = .returned (.tuple #[.int .i64 0, .slice none 0 0, .iface 40 (.pointer (some ⟨T, 0, none⟩))]) ∧ M ≤ T ∧ Row w' T 43 [.int .i64 ((fr : Int) + 1), .bool true] ∧ Kept (Kp M X) w w' ∧ Cr w' M X Q B Y U D cap L L.length false (bo big) (fr : Int) lk ifs := by
  have HC : Hid _ := read_un M X Q B Y U D cap L p 16 false (bo big) fr lk ifs ae au w h (by decide) hG hp hp2
  have HG : Hid (Gl w M ae au) := hG
  clear h hG hp hp2
  go_enter Ybaf.func23, Ybaf.ntmps23
  go_wp2_with fail
  refine Calls.mono HC.out ?_
  rintro _ w3 ⟨rfl, hk, hC⟩
  clear HC
  obtain ⟨offs, at', bv, hQ, _⟩ := hC.row
  have hk3 : Kept (Kp M X) w w3 := hk
  have HC2 : Hid _ := cut_uneof M Q B false (bo big) fr offs lk at' bv ifs ae au true w3 hQ hfr (HG.out.kept hk3)
  have e0 := (HG.out.kept hk3).e0
  have heq := eq_other (HG.out.kept hk3)
  have hM3 : M ≤ w3.heap.size := Nat.le_trans hC.mQ (Nat.le_of_lt hQ.lt)
  have HF : Hid (Kept (Kp M X) w (w3.alloc (.cells #[.int .i64 ((fr : Int) + 1), .bool true] 43)) ∧ Cr (w3.alloc (.cells #[.int .i64 ((fr : Int) + 1), .bool true] 43)) M X Q B Y U D cap L L.length false (bo big) (fr : Int) lk ifs) := ⟨hk3.alloc _, hC.kept ((Kept.refl _ w3).alloc _)⟩
  clear hk hC hQ HG hk3
  go_wp2_with fail
  refine Calls.mono HC2.out ?_
  rintro _ w4 ⟨rfl, rfl⟩
  go_wp2_with fail
  go_ret3
  exact ⟨_, rfl, hM3, Row.new w3 43 #[.int .i64 ((fr : Int) + 1), .bool true], HF.out.1, HF.out.2⟩

end Go.Proofs.YbulkbgsmFmt
