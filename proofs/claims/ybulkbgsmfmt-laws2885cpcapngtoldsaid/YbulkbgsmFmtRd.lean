import Derived.Test.YbulkbgsmFmtMem
namespace Go.Proofs.YbulkbgsmFmt
open Go.RowKit

theorem Ybaf.size5 : (Ybaf.prog.info? 5).map (·.size) = some 1 := by kernel_rfl

theorem by8_at {w : World} {D : Nat} {L : List Int} {rest : List Value} (h : Row w D 5 (by8 L ++ rest)) (i n : Nat) : ∀ j v, (by8 ((L.drop i).take n))[j]? = some v → w.cell? ((⟨D, i, none⟩ : Addr).add j) = some v := by
  intro j v hv
  have e : w.cell? ((⟨D, i, none⟩ : Addr).add j) = (by8 L ++ rest)[i + j]? := by
    rcases j with _ | j
    · exact h.cell i
    · exact h.cell (i + (j + 1))
  rw [e]
  simp only [by8, List.getElem?_map, List.getElem?_take, List.getElem?_drop] at hv
  split at hv
  · rw [List.getElem?_append_left]
    · simpa [by8] using hv
    · simp only [by8, List.length_map]
      cases h2 : L[i + j]? with
      | none => simp [h2] at hv
      | some _ => exact (List.getElem?_eq_some_iff.1 h2).1
  · simp at hv

set_option maxHeartbeats 1000000 in
set_option maxRecDepth 100000 in
/-- (*bytes.Reader).Read at the end. -/
theorem rd_eof (Y D n len cap c : Nat) (pp : Option Addr) (i pr : Int) (eof : Value) (w : World) (hY : Row w Y 73 [.slice (some ⟨D, 0, none⟩) len cap, .int .i64 i, .int .i64 pr]) (hi : (len : Int) ≤ i)
    (hE : w.cell? ⟨0, 0, none⟩ = some eof) :
    Calls Ybaf.prog 57 #[.pointer (some ⟨Y, 0, none⟩), .slice pp n c] w fun e w' => e = .returned (.tuple #[.int .i64 0, eof]) ∧ ∃ q, w' = w.drewN q := by
  go_enter Ybaf.func57, Ybaf.ntmps57
  have c0 : w.cell? ⟨Y, 0, none⟩ = some (.slice (some ⟨D, 0, none⟩) len cap) := hY.cell 0
  have c1 : w.cell? ⟨Y, 1, none⟩ = some (.int .i64 i) := hY.cell 1
  go_wp2_with fail
  go_quiet (fail)
  go_wp2_with fail
  go_quiet (fail)
  go_wp2_with fail
  go_ret2
  exact ⟨rfl, _, World.drewN_drewN _ _ _⟩

set_option maxHeartbeats 1000000 in
set_option maxRecDepth 100000 in
/-- (*bytes.Reader).Read ahead of the end. -/
theorem rd_read (Y D P off n c cap i : Nat) (pr : Int) (L : List Int) (rest ps : List Value) (w : World) (hY : Row w Y 73 [.slice (some ⟨D, 0, none⟩) L.length cap, .int .i64 i, .int .i64 pr]) (hi : i < L.length) (hL : L.length ≤ 4000000) (hcap : L.length ≤ cap)
    (hD : Row w D 5 (by8 L ++ rest)) (hP : Row w P 5 ps) (hfit : off + n ≤ ps.length) (hYP : Y ≠ P) (hDY : D ≠ Y) (m : Nat) (hm : ((L.drop i).take n).length = m) :
    Calls Ybaf.prog 57 #[.pointer (some ⟨Y, 0, none⟩), .slice (some ⟨P, off, none⟩) n c] w fun e w' => e = .returned (.tuple #[.int .i64 (m : Int), .nilIface]) ∧
      Row w' Y 73 [.slice (some ⟨D, 0, none⟩) L.length cap, .int .i64 ((i : Int) + (m : Int)), .int .i64 (-1)] ∧ Row w' P 5 (splice ps off (by8 ((L.drop i).take n))) ∧ Kept (fun k => k = Y ∨ k = P) w w' := by
  go_enter Ybaf.func57, Ybaf.ntmps57
  have c0 : w.cell? ⟨Y, 0, none⟩ = some (.slice (some ⟨D, 0, none⟩) L.length cap) := hY.cell 0
  have c1 : w.cell? ⟨Y, 1, none⟩ = some (.int .i64 i) := hY.cell 1
  have c2 : w.cell? ⟨Y, 2, none⟩ = some (.int .i64 pr) := hY.cell 2
  have f1 := hY.frozen 1
  have f2 := hY.frozen 2
  have hi1 : (i : Int) < (L.length : Int) := by omega
  have hi2 : (i : Int) ≤ (L.length : Int) := by omega
  have hi3 : (0 : Int) ≤ (i : Int) := by omega
  have hci : ¬ cap = i := by omega
  have hmn : m ≤ n := by rw [← hm]; simp; omega
  have hmL : i + m ≤ L.length := by rw [← hm]; simp; omega
  have hwr : IntKind.i64.wrap ((i : Int) + (m : Int)) = (i : Int) + (m : Int) := IntWalk.i64_in _ (by omega)
  go_wp2_with fail
  go_quiet (fail)
  go_wp2_with fail
  refine still_tail 10 mixed (by kernel_rfl) ?_
  simp only [List.take_succ_cons, List.take_zero, List.drop_succ_cons, List.drop_zero]
  repeat still_step
  try refine wpStill_nil ?_
  have hYd : Row ((w.drewN nq).setCell ⟨Y, 2, none⟩ (.int .i64 (-1))).drew Y 73 [.slice (some ⟨D, 0, none⟩) L.length cap, .int .i64 i, .int .i64 (-1)] := (hY.drewN nq).set 2 _
  have hPd : Row ((w.drewN nq).setCell ⟨Y, 2, none⟩ (.int .i64 (-1))).drew P 5 ps := (hP.drewN nq).other Y 2 _ (fun h => hYP h.symm)
  have hDd : Row ((w.drewN nq).setCell ⟨Y, 2, none⟩ (.int .i64 (-1))).drew D 5 (by8 L ++ rest) := (Row.drewN hD nq).other Y 2 _ hDY
  refine wpList_copy_kept rfl (.tmp 20) (.tmp 29) 24 24 rfl 5 Ybaf.underlying24 Ybaf.size5 _ _ _ _ _ _ rfl rfl P off ps 5 hPd (by8 ((L.drop i).take n)) ?c1 ?c2 ?c3 (by8_one _) ?_
  case c1 => rw [by8_len, List.length_take, List.length_drop]; exact Nat.min_comm _ _
  case c2 => exact fun _ => ⟨rfl, _, rfl, by8_at hDd i n⟩
  case c3 => rw [by8_len, hm]; omega
  rw [by8_len, hm]
  intro w' hP' hk'
  have hY' := hYd.kept hk' hYP
  have d1 : w'.cell? ⟨Y, 1, none⟩ = some (.int .i64 i) := hY'.cell 1
  have g1 := hY'.frozen 1
  have hfin : Row (w'.setCell ⟨Y, 1, none⟩ (.int .i64 ((i : Int) + (m : Int)))) Y 73 [.slice (some ⟨D, 0, none⟩) L.length cap, .int .i64 ((i : Int) + (m : Int)), .int .i64 (-1)] ∧ Row (w'.setCell ⟨Y, 1, none⟩ (.int .i64 ((i : Int) + (m : Int)))) P 5 (splice ps off (by8 ((L.drop i).take n))) ∧ Kept (fun k => k = Y ∨ k = P) w (w'.setCell ⟨Y, 1, none⟩ (.int .i64 ((i : Int) + (m : Int)))) :=
    ⟨hY'.set 1 _, hP'.other Y 1 _ (fun h => hYP h.symm), ((((Kept.refl _ w).drewN nq).setCell (g := Y) (j := 2) (fun _ => .inl rfl) _).drew.trans (hk'.mono (fun _ _ h => .inr h))).setCell (g := Y) (j := 1) (fun _ => .inl rfl) _⟩
  have HF : Hid _ := hfin
  clear hfin hP' hk' hY' hYd hPd hDd hY hP hD
  go_wp2_with fail
  go_ret2
  exact ⟨rfl, HF⟩
end Go.Proofs.YbulkbgsmFmt
