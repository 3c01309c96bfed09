import Derived.Test.YbulkbgsmFmtPl
namespace Go.Proofs.YbulkbgsmFmt
open Go.RowKit

theorem Row.same {w : World} {g h : Nat} {e1 e2 : TypeId} {xs ys : List Value} (h1 : Row w g e1 xs) (h2 : Row w h e2 ys) (he : e1 ≠ e2) : g ≠ h := by
  rintro rfl
  have := h1.symm.trans h2
  simp only [Option.some.injEq, Obj.cells.injEq] at this
  exact he this.2.1

theorem Gl.alloc {w : World} {M X : Nat} {ae au : Addr} (h : Gl w M ae au) (hk : Kept (fun _ => False) w (nw w)) : Gl (nw w) M ae au := h.kept (X := X) (Kept.mono (q := Kp M X) hk (fun _ _ h => h.elim))

/-- Next at the end of the cut file. -/
theorem nx_eof (M Q B Y U D cap : Nat) (L : List Int) (p : Nat) (big : Bool) (fr : Nat) (lk : Int) (ifs : Value) (ae au : Addr) (w : World) (h : Cr w M D Q B Y U D cap L p false (bo big) (fr : Int) lk ifs) (hG : Gl w M ae au) (hp : p = L.length) :
    Calls Ybaf.prog 9 #[.pointer (some ⟨Q, 0, none⟩)] w fun e w' => e = .returned (.tuple #[.agg #[.int .i64 0, .int .i64 0, .slice none 0 0], .iface 96 (.pointer (some ae))]) ∧ Kept (fun k => M ≤ k) w w' := by
  have hG' := hG.alloc (X := D) (nw_kept w)
  refine (next_err M Q B Y U D cap L p L.length big fr lk ifs w h 96 (fun _ v => v = .pointer (some ae)) (fun _ _ _ h _ _ => h) ?_).mono ?_
  · refine (nr_eof M w.heap.size Q B Y U D cap L p big fr lk ifs ae au (nw w) h.widen hG' hp).mono ?_
    rintro e w' ⟨rfl, hk, hC⟩
    exact ⟨_, rfl, rfl, hk, hC⟩
  · rintro e w' ⟨v, rfl, rfl, hk, _⟩
    exact ⟨rfl, hk⟩

/-- Next where the cut falls into the record. -/
theorem nx_cut (M Q B Y U D cap : Nat) (L : List Int) (p : Nat) (big : Bool) (fr : Nat) (lk : Int) (ifs : Value) (ae au : Addr) (w : World) (h : Cr w M D Q B Y U D cap L p false (bo big) (fr : Int) lk ifs) (hG : Gl w M ae au) (hfr : fr ≤ 1000000) (n : Nat) (hn : n ≤ 16777216) (hb : ∀ x ∈ L, 0 ≤ x ∧ x ≤ 255) (hp : p < L.length) (hp2 : L.length < p + 16 + n) (hu : ∀ hp : p + 16 ≤ L.length, u32f big L[p + 8] L[p + 9] L[p + 10] L[p + 11] = (n : Int)) :
    Calls Ybaf.prog 9 #[.pointer (some ⟨Q, 0, none⟩)] w fun e w' => ∃ T : Nat, e = .returned (.tuple #[.agg #[.int .i64 0, .int .i64 0, .slice none 0 0], .iface 40 (.pointer (some ⟨T, 0, none⟩))]) ∧ Row w' T 43 [.int .i64 ((fr : Int) + 1), .bool true] ∧ Kept (fun k => M ≤ k) w w' := by
  have hG' := hG.alloc (X := D) (nw_kept w)
  refine (next_err M Q B Y U D cap L p L.length big fr lk ifs w h 40 (fun w' v => ∃ T : Nat, v = .pointer (some ⟨T, 0, none⟩) ∧ Row w' T 43 [.int .i64 ((fr : Int) + 1), .bool true]) ?_ ?_).mono ?_
  · rintro w1 w2 v ⟨T, rfl, hT⟩ hX hk
    exact ⟨T, rfl, hT.kept hk (fun e => hT.same hX (by decide) e)⟩
  · have fin : ∀ e w', (∃ T : Nat, e = Ending.returned (.tuple #[.int .i64 0, .slice none 0 0, .iface 40 (.pointer (some ⟨T, 0, none⟩))]) ∧ M ≤ T ∧ Row w' T 43 [.int .i64 ((fr : Int) + 1), .bool true] ∧ Kept (Kp M w.heap.size) (nw w) w' ∧ Cr w' M w.heap.size Q B Y U D cap L L.length false (bo big) (fr : Int) lk ifs) →
        ∃ v : Value, e = .returned (.tuple #[.int .i64 0, .slice none 0 0, .iface 40 v]) ∧ (∃ T : Nat, v = .pointer (some ⟨T, 0, none⟩) ∧ Row w' T 43 [.int .i64 ((fr : Int) + 1), .bool true]) ∧ Kept (Kp M w.heap.size) (nw w) w' ∧ Cr w' M w.heap.size Q B Y U D cap L L.length false (bo big) (fr : Int) lk ifs := by
      rintro e w' ⟨T, rfl, _, hT, hk, hC⟩
      exact ⟨_, rfl, ⟨T, rfl, hT⟩, hk, hC⟩
    by_cases h16 : L.length < p + 16
    · exact (nr_short M w.heap.size Q B Y U D cap L p big fr lk ifs ae au (nw w) h.widen hG' hfr hp h16).mono fin
    · by_cases he : p + 16 = L.length
      · exact (nr_cut1 M w.heap.size Q B Y U D cap L p big fr lk ifs ae au (nw w) h.widen hG' hfr n hn hb (by omega) (hu (by omega)) (by omega) he).mono fin
      · exact (nr_cut2 M w.heap.size Q B Y U D cap L p big fr lk ifs ae au (nw w) h.widen hG' hfr n hn hb (by omega) (hu (by omega)) (by omega) hp2).mono fin
  · rintro e w' ⟨v, rfl, ⟨T, rfl, hT⟩, hk, _⟩
    exact ⟨T, rfl, hT, hk⟩

/-- Next, a whole record. -/
theorem nx_ok (M Q B Y U D cap : Nat) (L : List Int) (p : Nat) (big : Bool) (fr : Nat) (lk : Int) (ifs : Value) (ae au : Addr) (w : World) (h : Cr w M D Q B Y U D cap L p false (bo big) (fr : Int) lk ifs) (hG : Gl w M ae au) (hfr : fr ≤ 1000000) (n : Nat) (hn : n ≤ 16777216) (hb : ∀ x ∈ L, 0 ≤ x ∧ x ≤ 255) (hp2 : p + 16 + n ≤ L.length) (hu : ∀ hp : p + 16 ≤ L.length, u32f big L[p + 8] L[p + 9] L[p + 10] L[p + 11] = (n : Int)) :
    Calls Ybaf.prog 9 #[.pointer (some ⟨Q, 0, none⟩)] w fun e w' => ∃ (P cp : Nat) (qs : List Int), e = .returned (.tuple #[.agg #[.int .i64 ((fr : Int) + 1), .int .i64 lk, .slice (some ⟨P, 0, none⟩) n cp], .nilIface]) ∧ n ≤ cp ∧ qs.length = cp ∧ Row w' P 5 (by8 qs) ∧ qs.take n = (L.drop (p + 16)).take n ∧ Kept (fun k => M ≤ k) w w' ∧ Cr w' M D Q B Y U D cap L (p + 16 + n) false (bo big) ((fr : Int) + 1) lk ifs := by
  have hG' := hG.alloc (X := D) (nw_kept w)
  exact next_ok M Q B Y U D cap L p (p + 16 + n) big fr lk ifs w h hfr n ((L.drop (p + 16)).take n) (nr_ok M w.heap.size Q B Y U D cap L p big fr lk ifs ae au (nw w) h.widen hG' n hn hb (by omega) (hu (by omega)) hp2)

set_option maxHeartbeats 400000 in
/-- bytes.Equal of two slices of the same bytes. -/
theorem beq_same (v1 v2 : Value) (s : ByteArray) (w : World) (h1 : (convert 24 9 v1).run Ybaf.prog w = .ok (.string s) w) (h2 : (convert 24 9 v2).run Ybaf.prog w = .ok (.string s) w) :
    Calls Ybaf.prog 10 #[v1, v2] w fun e w' => e = .returned (.bool true) ∧ w' = w := by
  go_enter Ybaf.func10, Ybaf.ntmps10
  go_wp2
  go_ret
  exact ⟨by simp, rfl⟩

/-- A slice of the bytes xs, in blocks before N. -/
def Bs (w : World) (N : Nat) (v : Value) (xs : List Int) : Prop := ∃ (a : Option Addr) (c : Nat), v = .slice a xs.length c ∧ (a = none → xs = [] ∧ c = 0) ∧ ∀ b, a = some b → ∀ j x, xs[j]? = some x → b.block < N ∧ w.cell? (b.add j) = some (.int .u8 x)

theorem Bs.kept {w w' : World} {N : Nat} {v : Value} {xs : List Int} (h : Bs w N v xs) (hk : Kept (fun k => N ≤ k) w w') : Bs w' N v xs := by
  obtain ⟨a, c, rfl, h1, h2⟩ := h
  refine ⟨a, c, rfl, h1, fun b hb j x hx => ⟨(h2 b hb j x hx).1, ?_⟩⟩
  have hc := (h2 b hb j x hx).2
  have hbl : (b.add j).block = b.block := by unfold Addr.add; split <;> rfl
  exact (World.cell?_of_block (hk.block _ (World.block_lt_of_cell? w _ hc) (fun h => by rw [hbl] at h; have := (h2 b hb j x hx).1; omega))).trans hc

theorem Bs.conv {w : World} {N : Nat} {v : Value} {xs : List Int} (h : Bs w N v xs) : (convert 24 9 v).run Ybaf.prog w = .ok (.string (strOfNums xs)) w := by
  obtain ⟨a, c, rfl, h1, h2⟩ := h
  cases a with
  | none =>
    obtain ⟨rfl, _⟩ := h1 rfl
    exact run_convert_bytes_nil (P := Ybaf.prog) w 24 5 Ybaf.underlying24 Ybaf.underlying5 0 c 9 Ybaf.underlying9
  | some b =>
    have hl : (loadCells b xs.length).run Ybaf.prog w = .ok (xs.map (Value.int .u8)).toArray w := by
      have := run_loadCells_list (P := Ybaf.prog) w b (xs.map (Value.int .u8)) (fun j v hj => by
        rw [List.getElem?_map, Option.map_eq_some_iff] at hj
        obtain ⟨x, hx, rfl⟩ := hj
        exact (h2 b rfl j x hx).2)
      simpa using this
    rw [run_convert_bytes_string w 24 9 5 _ xs.length c Ybaf.underlying24 Ybaf.underlying5 Ybaf.underlying9, run_bytesToString w _ xs.length c xs hl, foldl_push_bytes]
    simp [strOfNums, ByteArray.empty, ByteArray.emptyWithCapacity]
    rfl

theorem Row.bs {w : World} {P n cp : Nat} {qs xs : List Int} (h : Row w P 5 (by8 qs)) (hn : n ≤ qs.length) (e : qs.take n = xs) : Bs w (P + 1) (.slice (some ⟨P, 0, none⟩) n cp) xs := by
  have hl : xs.length = n := by rw [← e]; simp; omega
  refine ⟨some ⟨P, 0, none⟩, cp, by rw [hl], (fun h => by cases h), fun b hb j x hx => ?_⟩
  cases hb
  refine ⟨Nat.lt_succ_self _, ?_⟩
  have hadd : (⟨P, 0, none⟩ : Addr).add j = ⟨P, j, none⟩ := by unfold Addr.add; split <;> simp_all
  rw [hadd, h.cell j]
  rw [← e, List.getElem?_take] at hx
  split at hx
  · simp [by8, hx]
  · cases hx

/-- The frames: a slice of slices of bytes in blocks before N. -/
def Fs (w : World) (N : Nat) (fa : Option Addr) (F : List (List Int)) : Prop := (fa = none → F = []) ∧ ∀ b, fa = some b → ∀ j f, F[j]? = some f → b.block < N ∧ ∃ v, w.cell? (b.add j) = some v ∧ Bs w N v f

theorem Fs.kept {w w' : World} {N : Nat} {fa : Option Addr} {F : List (List Int)} (h : Fs w N fa F) (hk : Kept (fun k => N ≤ k) w w') : Fs w' N fa F := by
  refine ⟨h.1, fun b hb j f hf => ?_⟩
  obtain ⟨hbN, v, hc, hB⟩ := h.2 b hb j f hf
  have hbl : (b.add j).block = b.block := by unfold Addr.add; split <;> rfl
  exact ⟨hbN, v, (World.cell?_of_block (hk.block _ (World.block_lt_of_cell? w _ hc) (fun h' => by rw [hbl] at h'; omega))).trans hc, hB.kept hk⟩

theorem Fs.at {w : World} {N : Nat} {fa : Option Addr} {F : List (List Int)} (h : Fs w N fa F) (j : Nat) (hj : j < F.length) : ∃ b a c, fa = some b ∧ b.block < N ∧ w.cell? (b.add j) = some (.slice a (F.getD j []).length c) ∧ Bs w N (.slice a (F.getD j []).length c) (F.getD j []) := by
  cases fa with
  | none => rw [h.1 rfl] at hj; simp at hj
  | some b =>
    obtain ⟨hbN, v, hc, hB⟩ := h.2 b rfl j F[j] (List.getElem?_eq_getElem hj)
    have e : F.getD j [] = F[j] := by simp [List.getD, hj]
    rw [e]
    obtain ⟨a, c, rfl, h1, h2⟩ := hB
    exact ⟨b, a, c, rfl, hbN, hc, ⟨a, c, rfl, h1, h2⟩⟩
end Go.Proofs.YbulkbgsmFmt
