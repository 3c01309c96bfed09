import Derived.Test.YbulkbgsmFmtNr3
namespace Go.Proofs.YbulkbgsmFmt
open Go.RowKit

theorem results_cell_tmp {fn : Func} {p t : Tmp} {ty : TypeId} (h : fn.results = #[.cell p ty, .tmp t]) (tmps : Array Value) (P : Program) (w : World) :
    (results fn tmps).run P w = ((asAddr (tmps.getD p undef)).run P w).andThen fun a w₁ => ((loadVar ty a).run P w₁).andThen fun v w₂ => .ok (.tuple #[v, tmps.getD t undef]) w₂ := by
  simp only [results, h]
  simp [Sem.run_bind, Result.andThen]

/-- The world in which Next calls on. -/
def nw (w : World) : World := w.alloc (.cells #[.int .i64 0, .int .i64 0, .slice none 0 0] 37)
theorem nw_kept (w : World) : Kept (fun _ => False) w (nw w) := (Kept.refl _ w).alloc _
theorem nw_row (w : World) : Row (nw w) w.heap.size 37 [.int .i64 0, .int .i64 0, .slice none 0 0] := Row.new w 37 #[.int .i64 0, .int .i64 0, .slice none 0 0]

theorem Cr.widen {w : World} {M D' Q B Y U D cap : Nat} {L : List Int} {p : Nat} {pn : Bool} {ord : Value} {fr lk : Int} {ifs : Value} (h : Cr w M D' Q B Y U D cap L p pn ord fr lk ifs) : Cr (nw w) M w.heap.size Q B Y U D cap L p pn ord fr lk ifs := by
  have h1 := h.kept (nw_kept w)
  obtain ⟨⟨offs0, at0, bv0, hQ0, hr0⟩, hsp0, _⟩ := h
  obtain ⟨⟨offs, at', bv, hQ, hr⟩, hsp, a1, a2, a3, a4, a5, a6, a7, a8, a9, _⟩ := h1
  have lts : B < w.heap.size ∧ Y < w.heap.size ∧ U < w.heap.size := by
    obtain ⟨i, r, v, hs, _⟩ := hsp0
    obtain ⟨⟨_, _, h1⟩, ⟨_, h2⟩, ⟨_, _, h3, _⟩, _⟩ := hs
    exact ⟨h1.lt, h2.lt, h3.lt⟩
  refine ⟨⟨offs0, at0, bv0, hQ0.kept (nw_kept w) (fun h => h), ?_⟩, hsp, a1, a2, a3, a4, a5, a6, a7, a8, a9, Nat.ne_of_lt hQ0.lt, Nat.ne_of_lt lts.1, Nat.ne_of_lt lts.2.1, Nat.ne_of_lt lts.2.2, (nw_row w).lt⟩
  rcases hr0 with h | ⟨P, cp, qs, h1, h2, h3, h4, h5, h6, h7, h8, h9, _⟩
  · exact .inl h
  · exact .inr ⟨P, cp, qs, h1, h2, h3.kept (nw_kept w) (fun h => h), h4, h5, h6, h7, h8, h9, Nat.ne_of_lt h3.lt⟩

theorem Cr.narrow {w : World} {M X Q B Y U D cap : Nat} {L : List Int} {p : Nat} {pn : Bool} {ord : Value} {fr lk : Int} {ifs : Value} (h : Cr w M X Q B Y U D cap L p pn ord fr lk ifs) : Cr w M D Q B Y U D cap L p pn ord fr lk ifs := by
  obtain ⟨⟨offs, at', bv, hQ, hr⟩, hsp, a1, a2, a3, a4, a5, a6, a7, a8, a9, _⟩ := h
  refine ⟨⟨offs, at', bv, hQ, ?_⟩, hsp, a1, a2, a3, a4, a5, a6, a7, a8, a9, by omega, by omega, by omega, by omega, Nat.lt_of_lt_of_le a5 (Nat.le_trans a1 (Nat.le_of_lt hQ.lt))⟩
  rcases hr with h | ⟨P, cp, qs, h1, h2, h3, h4, h5, h6, h7, h8, h9, _⟩
  · exact .inl h
  · exact .inr ⟨P, cp, qs, h1, h2, h3, h4, h5, h6, h7, h8, h9, by omega⟩

theorem Cr.other {w : World} {M X Q B Y U D cap : Nat} {L : List Int} {p : Nat} {pn : Bool} {ord : Value} {fr lk : Int} {ifs : Value} (h : Cr w M X Q B Y U D cap L p pn ord fr lk ifs) (hm : M ≤ X) (j : Nat) (u : Value) : Cr (w.setCell ⟨X, j, none⟩ u) M X Q B Y U D cap L p pn ord fr lk ifs := by
  obtain ⟨⟨offs, at', bv, hQ, hr⟩, hsp, a1, a2, a3, a4, a5, a6, a7, a8, a9, x1, x2, x3, x4, x5⟩ := h
  refine ⟨⟨offs, at', bv, hQ.other X j u x1, ?_⟩, hsp.setOther X j u (fun h => x2 h.symm) (fun h => x3 h.symm) (fun h => x4 h.symm) (by omega), a1, a2, a3, a4, a5, a6, a7, a8, a9, x1, x2, x3, x4, by simpa using x5⟩
  rcases hr with h | ⟨P, cp, qs, h1, h2, h3, h4, h5, h6, h7, h8, h9, h10⟩
  · exact .inl h
  · exact .inr ⟨P, cp, qs, h1, h2, h3.other X j u h10, h4, h5, h6, h7, h8, h9, h10⟩

theorem Cr.setFr {w : World} {M X Q B Y U D cap : Nat} {L : List Int} {p : Nat} {pn : Bool} {ord : Value} {fr lk : Int} {ifs : Value} (h : Cr w M X Q B Y U D cap L p pn ord fr lk ifs) (fr' : Int) : Cr (w.setCell ⟨Q, 3, none⟩ (.int .i64 fr')) M X Q B Y U D cap L p pn ord fr' lk ifs := by
  obtain ⟨⟨offs, at', bv, hQ, hr⟩, hsp, a1, a2, a3, a4, a5, a6, a7, a8, a9, x1, x2, x3, x4, x5⟩ := h
  refine ⟨⟨offs, at', bv, hQ.set 3 _, ?_⟩, hsp.setOther Q 3 _ a7 a8 a9 (by omega), a1, a2, a3, a4, a5, a6, a7, a8, a9, x1, x2, x3, x4, by simpa using x5⟩
  rcases hr with h | ⟨P, cp, qs, h1, h2, h3, h4, h5, h6⟩
  · exact .inl h
  · exact .inr ⟨P, cp, qs, h1, h2, h3.other Q 3 _ h5, h4, h5, h6⟩

set_option maxHeartbeats 1000000 in
set_option maxRecDepth 100000 in
/-- Next where nextRecord answers an error. -/
theorem next_err (M Q B Y U D cap : Nat) (L : List Int) (p p' : Nat) (big : Bool) (fr : Nat) (lk : Int) (ifs : Value) (w : World) (h : Cr w M D Q B Y U D cap L p false (bo big) (fr : Int) lk ifs) (et : TypeId) (S : World → Value → Prop)
    (hS : ∀ w1 w2 v, S w1 v → Row w1 w.heap.size 37 [.int .i64 0, .int .i64 0, .slice none 0 0] → Kept (fun k => k = w.heap.size) w1 w2 → S w2 v)
    (HN : Calls Ybaf.prog 23 #[.pointer (some ⟨Q, 0, none⟩)] (nw w) fun e w' => ∃ v : Value, e = .returned (.tuple #[.int .i64 0, .slice none 0 0, .iface et v]) ∧ S w' v ∧ Kept (Kp M w.heap.size) (nw w) w' ∧ Cr w' M w.heap.size Q B Y U D cap L p' false (bo big) (fr : Int) lk ifs) :
    Calls Ybaf.prog 9 #[.pointer (some ⟨Q, 0, none⟩)] w fun e w' => ∃ v : Value, e = .returned (.tuple #[.agg #[.int .i64 0, .int .i64 0, .slice none 0 0], .iface et v]) ∧ S w' v ∧ Kept (fun k => M ≤ k) w w' ∧ Cr w' M D Q B Y U D cap L p' false (bo big) (fr : Int) lk ifs := by
  have HS : Hid (∀ w1 w2 v, S w1 v → Row w1 w.heap.size 37 [.int .i64 0, .int .i64 0, .slice none 0 0] → Kept (fun k => k = w.heap.size) w1 w2 → S w2 v) := hS
  clear hS
  have hM : M ≤ w.heap.size := by
    obtain ⟨⟨_, _, _, hQ, _⟩, _, mQ, _⟩ := h
    exact Nat.le_trans mQ (Nat.le_of_lt hQ.lt)
  have HN' : Hid _ := HN
  have hn := nw_row w
  obtain ⟨⟨offs, at', bv, hQ, _⟩, _⟩ := h
  have c1 : w.cell? ⟨Q, 1, none⟩ = some (.bool false) := hQ.cell 1
  have hQl := hQ.lt
  clear HN
  go_enter Ybaf.func9, Ybaf.ntmps9
  go_wp2_with fail
  refine Calls.mono HN'.out ?_
  rintro _ w2 ⟨v, rfl, hs, hk, hC⟩
  have hR : Row w2 w.heap.size 37 [.int .i64 0, .int .i64 0, .slice none 0 0] := hn.kept hk (fun h => h.2 rfl)
  have hkX : Kept (fun k => k = w.heap.size) w2 (((w2.setCell ⟨w.heap.size, 0, none⟩ (.int .i64 0)).setCell ⟨w.heap.size, 1, none⟩ (.int .i64 0)).setCell ⟨w.heap.size, 2, none⟩ (.slice none 0 0)) := (((Kept.refl (fun k => k = w.heap.size) w2).setCell (g := w.heap.size) (j := 0) (fun _ => rfl) _).setCell (g := w.heap.size) (j := 1) (fun _ => rfl) _).setCell (g := w.heap.size) (j := 2) (fun _ => rfl) _
  have HF : Hid (S (((w2.setCell ⟨w.heap.size, 0, none⟩ (.int .i64 0)).setCell ⟨w.heap.size, 1, none⟩ (.int .i64 0)).setCell ⟨w.heap.size, 2, none⟩ (.slice none 0 0)) v ∧ Kept (fun k => M ≤ k) w (((w2.setCell ⟨w.heap.size, 0, none⟩ (.int .i64 0)).setCell ⟨w.heap.size, 1, none⟩ (.int .i64 0)).setCell ⟨w.heap.size, 2, none⟩ (.slice none 0 0)) ∧ Cr (((w2.setCell ⟨w.heap.size, 0, none⟩ (.int .i64 0)).setCell ⟨w.heap.size, 1, none⟩ (.int .i64 0)).setCell ⟨w.heap.size, 2, none⟩ (.slice none 0 0)) M D Q B Y U D cap L p' false (bo big) (fr : Int) lk ifs) := ⟨HS.out _ _ _ hs hR hkX, (((nw_kept w).mono (fun _ _ h => h.elim)).trans (hk.mono (fun _ _ h => h.1))).trans (hkX.mono (fun k _ h => by omega)), (((hC.other hM 0 _).other hM 1 _).other hM 2 _).narrow⟩
  have d0 : w2.cell? ⟨w.heap.size, 0, none⟩ = some (.int .i64 0) := hR.cell 0
  have d1 : w2.cell? ⟨w.heap.size, 1, none⟩ = some (.int .i64 0) := hR.cell 1
  have d2 : w2.cell? ⟨w.heap.size, 2, none⟩ = some (.slice none 0 0) := hR.cell 2
  have g0 := hR.frozen 0
  have g1 := hR.frozen 1
  have g2 := hR.frozen 2
  clear hs hk hC hR hkX HS HN' hn hQ c1
  go_wp2_with fail
  refine bodyPost_ret (v := .tuple #[.agg #[.int .i64 0, .int .i64 0, .slice none 0 0], .iface et v]) ?_ rfl ?_
  · rw [results_cell_tmp rfl]
    go_simp
  · exact ⟨v, rfl, HF.out⟩

set_option maxHeartbeats 1000000 in
set_option maxRecDepth 100000 in
/-- Next, a whole record. -/
theorem next_ok (M Q B Y U D cap : Nat) (L : List Int) (p p' : Nat) (big : Bool) (fr : Nat) (lk : Int) (ifs : Value) (w : World) (h : Cr w M D Q B Y U D cap L p false (bo big) (fr : Int) lk ifs) (hfr : fr ≤ 1000000) (n : Nat) (xs : List Int)
    (HN : Calls Ybaf.prog 23 #[.pointer (some ⟨Q, 0, none⟩)] (nw w) fun e w' => ∃ (P cp : Nat) (qs : List Int), e = .returned (.tuple #[.int .i64 lk, .slice (some ⟨P, 0, none⟩) n cp, .nilIface]) ∧ n ≤ cp ∧ qs.length = cp ∧ Row w' P 5 (by8 qs) ∧ qs.take n = xs ∧ M ≤ P ∧ P ≠ Q ∧ P ≠ w.heap.size ∧ Kept (Kp M w.heap.size) (nw w) w' ∧ Cr w' M w.heap.size Q B Y U D cap L p' false (bo big) (fr : Int) lk ifs) :
    Calls Ybaf.prog 9 #[.pointer (some ⟨Q, 0, none⟩)] w fun e w' => ∃ (P cp : Nat) (qs : List Int), e = .returned (.tuple #[.agg #[.int .i64 ((fr : Int) + 1), .int .i64 lk, .slice (some ⟨P, 0, none⟩) n cp], .nilIface]) ∧ n ≤ cp ∧ qs.length = cp ∧ Row w' P 5 (by8 qs) ∧ qs.take n = xs ∧ Kept (fun k => M ≤ k) w w' ∧ Cr w' M D Q B Y U D cap L p' false (bo big) ((fr : Int) + 1) lk ifs := by
  have hM : M ≤ w.heap.size := by
    obtain ⟨⟨_, _, _, hQ, _⟩, _, mQ, _⟩ := h
    exact Nat.le_trans mQ (Nat.le_of_lt hQ.lt)
  have HN' : Hid _ := HN
  have hn := nw_row w
  obtain ⟨⟨offs, at', bv, hQ, _⟩, _⟩ := h
  have c1 : w.cell? ⟨Q, 1, none⟩ = some (.bool false) := hQ.cell 1
  have hQl := hQ.lt
  clear HN
  go_enter Ybaf.func9, Ybaf.ntmps9
  go_wp2_with fail
  refine Calls.mono HN'.out ?_
  rintro _ w2 ⟨P, cp, qs, rfl, h1, h2, h3, h4, h5, h6, h7, hk, hC⟩
  have hR : Row w2 w.heap.size 37 [.int .i64 0, .int .i64 0, .slice none 0 0] := hn.kept hk (fun h => h.2 rfl)
  have hQ2 : ∃ (offs at' : Int) (bv : Value), Row w2 Q 65 (crc B false (bo big) (fr : Int) offs bv lk ifs at') := by
    obtain ⟨⟨o, a, b, hq, _⟩, _⟩ := hC
    exact ⟨o, a, b, hq⟩
  obtain ⟨offs2, at2, bv2, hQ2⟩ := hQ2
  have hQX : Q ≠ w.heap.size := Nat.ne_of_lt hQl
  have hkX : Kept (fun k => k = w.heap.size ∨ k = Q) w2 ((((w2.setCell ⟨Q, 3, none⟩ (.int .i64 ((fr : Int) + 1))).setCell ⟨w.heap.size, 0, none⟩ (.int .i64 ((fr : Int) + 1))).setCell ⟨w.heap.size, 1, none⟩ (.int .i64 lk)).setCell ⟨w.heap.size, 2, none⟩ (.slice (some ⟨P, 0, none⟩) n cp)) := ((((Kept.refl (fun k => k = w.heap.size ∨ k = Q) w2).setCell (g := Q) (j := 3) (fun _ => .inr rfl) _).setCell (g := w.heap.size) (j := 0) (fun _ => .inl rfl) _).setCell (g := w.heap.size) (j := 1) (fun _ => .inl rfl) _).setCell (g := w.heap.size) (j := 2) (fun _ => .inl rfl) _
  have mQ := hC.mQ
  have HF : Hid (n ≤ cp ∧ qs.length = cp ∧ Row ((((w2.setCell ⟨Q, 3, none⟩ (.int .i64 ((fr : Int) + 1))).setCell ⟨w.heap.size, 0, none⟩ (.int .i64 ((fr : Int) + 1))).setCell ⟨w.heap.size, 1, none⟩ (.int .i64 lk)).setCell ⟨w.heap.size, 2, none⟩ (.slice (some ⟨P, 0, none⟩) n cp)) P 5 (by8 qs) ∧ qs.take n = xs ∧ Kept (fun k => M ≤ k) w ((((w2.setCell ⟨Q, 3, none⟩ (.int .i64 ((fr : Int) + 1))).setCell ⟨w.heap.size, 0, none⟩ (.int .i64 ((fr : Int) + 1))).setCell ⟨w.heap.size, 1, none⟩ (.int .i64 lk)).setCell ⟨w.heap.size, 2, none⟩ (.slice (some ⟨P, 0, none⟩) n cp)) ∧ Cr ((((w2.setCell ⟨Q, 3, none⟩ (.int .i64 ((fr : Int) + 1))).setCell ⟨w.heap.size, 0, none⟩ (.int .i64 ((fr : Int) + 1))).setCell ⟨w.heap.size, 1, none⟩ (.int .i64 lk)).setCell ⟨w.heap.size, 2, none⟩ (.slice (some ⟨P, 0, none⟩) n cp)) M D Q B Y U D cap L p' false (bo big) ((fr : Int) + 1) lk ifs) := ⟨h1, h2, h3.kept hkX (fun h => h.elim h7 h6), h4, (((nw_kept w).mono (fun _ _ h => h.elim)).trans (hk.mono (fun _ _ h => h.1))).trans (hkX.mono (fun k _ h => by omega)), ((((hC.setFr ((fr : Int) + 1)).other hM 0 _).other hM 1 _).other hM 2 _).narrow⟩
  have d0 : w2.cell? ⟨w.heap.size, 0, none⟩ = some (.int .i64 0) := hR.cell 0
  have d1 : w2.cell? ⟨w.heap.size, 1, none⟩ = some (.int .i64 0) := hR.cell 1
  have d2 : w2.cell? ⟨w.heap.size, 2, none⟩ = some (.slice none 0 0) := hR.cell 2
  have g0 := hR.frozen 0
  have g1 := hR.frozen 1
  have g2 := hR.frozen 2
  have q3 : w2.cell? ⟨Q, 3, none⟩ = some (.int .i64 (fr : Int)) := hQ2.cell 3
  have qf := hQ2.frozen 3
  have hw : IntKind.i64.wrap ((fr : Int) + 1) = (fr : Int) + 1 := IntWalk.i64_in _ (by omega)
  clear hk hC hR hkX HN' hn hQ c1 hQ2 h1 h2 h3 h4 h5 h6 h7
  go_wp2_with fail
  refine bodyPost_ret (v := .tuple #[.agg #[.int .i64 ((fr : Int) + 1), .int .i64 lk, .slice (some ⟨P, 0, none⟩) n cp], .nilIface]) ?_ rfl ?_
  · rw [results_cell_tmp rfl]
    go_simp
  · exact ⟨P, cp, qs, rfl, HF.out⟩

end Go.Proofs.YbulkbgsmFmt
