import Derived.Test.YbulkbgveFmtEnd
namespace Go.Proofs.YbulkbgveFmt
open Go.RowKit Go.Extern.Stop Go.Stop Go.Extern

set_option maxHeartbeats 1000000 in
set_option maxRecDepth 100000 in
theorem end_okj (R b I j : Nat) (hj : j < 8) (l c i v : Int) (hv : v < i) (hl : l ≠ 0) (W : World) (xs : List Value) (hR : Row W R 43 xs) (h5 : xs[5]? = some (.pointer (some ⟨b, 0, none⟩))) (hb : W.cell? ⟨b, 1, none⟩ = some (.slice none 0 0)) (hbR : b ≠ R)
    (h9 : xs[9]? = some (.int .i64 l)) (h10 : xs[10]? = some (.int .i64 c)) (h11 : xs[11]? = some (.int .i64 i)) (h12 : xs[12]? = some (.int .i64 ((j : Int) + 1))) (h13 : xs[13]? = some (.slice none 0 0)) (h23 : xs[23]? = some (.int .i64 0))
    (h31 : xs[31]? = some (.slice (some ⟨I, 0, none⟩) (j + 1) (j + 1))) (hI : W.cell? ⟨I, j, none⟩ = some (.int .i64 v)) :
    Calls Ybaf.prog 6 #[.pointer (some ⟨R, 0, none⟩)] W fun e w' => e = .returned (.tuple #[]) ∧
      ∃ (G gc : Nat) (ys : List Value), Row w' R 43 (cur0 (xs.set 13 (.slice (some ⟨G, 0, none⟩) 1 gc))) ∧ Row w' G 49 ys ∧ ys[0]? = some (.int .i64 ((j : Int) + 1)) ∧ ys[1]? = some (.int .i64 l) ∧ ys[2]? = some (.int .i64 c) ∧ ys[3]? = some (.int .i64 i) ∧ ys[4]? = some (.int .i64 ((j : Int) + 1)) ∧ W.heap.size ≤ G ∧ Kept (fun k => k = R) W w' := by
  go_enter Ybaf.func6, Ybaf.ntmps6
  have c9 := (hR.cell 9).trans h9
  have c10 := (hR.cell 10).trans h10
  have c11 := (hR.cell 11).trans h11
  have c12 := (hR.cell 12).trans h12
  have c23 := (hR.cell 23).trans h23
  have c31 := (hR.cell 31).trans h31
  have hw : IntKind.i64.wrap ((j : Int)) = (j : Int) := IntWalk.i64_in _ (by omega)
  have hj0 : (0 : Int) < (j : Int) + 1 := by omega
  have hj1 : (j : Int) < (j : Int) + 1 := by omega
  have hj2 : (0 : Int) ≤ (j : Int) := by omega
  go_wp2_with fail
  go_quiet ((go_at_call 5; exact Calls.quiet_of_same (empty_walk R 0 _ c23)))
  go_wp2_with fail
  refine (line_ok R l c i ((j : Int) + 1) (fun h => absurd h.1 (by omega)) _ xs (hR.drewN _) h13).mono ?_
  rintro _ w2 ⟨rfl, G, gc, ys, hR2, hG, y0, y1, y2, y3, y4, hle, hk2⟩
  have hk : Kept (fun k => k = R) W w2 := ((Kept.refl _ W).drewN _).trans hk2
  have hb2 : w2.cell? ⟨b, 1, none⟩ = some (.slice none 0 0) := hk.cell hb hbR
  have nGR : G ≠ R := fun h => absurd hle (by rw [h]; exact Nat.not_le.2 hR.lt)
  have e5 := (set13 (u := .slice (some ⟨G, 0, none⟩) 1 gc) h5 (by decide))
  have e9 := (set13 (u := .slice (some ⟨G, 0, none⟩) 1 gc) h9 (by decide))
  have e10 := (set13 (u := .slice (some ⟨G, 0, none⟩) 1 gc) h10 (by decide))
  have e11 := (set13 (u := .slice (some ⟨G, 0, none⟩) 1 gc) h11 (by decide))
  have e12 := (set13 (u := .slice (some ⟨G, 0, none⟩) 1 gc) h12 (by decide))
  have hfin := fin_end hR2 hk rfl
  have hG9 := (((hG.other R 9 (.int .i64 0) nGR).other R 10 (.int .i64 0) nGR).other R 11 (.int .i64 0) nGR).other R 12 (.int .i64 0) nGR
  clear hk2 h5 h9 h10 h11 h12 hb c9 c10 c11 c12 c23 hG
  have c5 := (hR2.cell 5).trans e5
  have c9 := (hR2.cell 9).trans e9
  have c10 := (hR2.cell 10).trans e10
  have c11 := (hR2.cell 11).trans e11
  have c12 := (hR2.cell 12).trans e12
  have f9 := hR2.frozen 9
  have f10 := hR2.frozen 10
  have f11 := hR2.frozen 11
  have f12 := hR2.frozen 12
  go_wp2_with fail
  refine (len_walk b w2 hb2).mono ?_
  rintro _ w9 ⟨rfl, rfl⟩
  go_wp2_with fail
  go_end0
  exact ⟨rfl, G, gc, ys, hfin.1, hG9, y0, y1, y2, y3, y4, hle, hfin.2⟩

set_option maxHeartbeats 1000000 in
set_option maxRecDepth 100000 in
theorem end_ok0 (R b : Nat) (l c : Int) (hl : l ≠ 0) (W : World) (xs : List Value) (hR : Row W R 43 xs) (h5 : xs[5]? = some (.pointer (some ⟨b, 0, none⟩))) (hb : W.cell? ⟨b, 1, none⟩ = some (.slice none 0 0)) (hbR : b ≠ R)
    (h9 : xs[9]? = some (.int .i64 l)) (h10 : xs[10]? = some (.int .i64 c)) (h11 : xs[11]? = some (.int .i64 0)) (h12 : xs[12]? = some (.int .i64 0)) (h13 : xs[13]? = some (.slice none 0 0)) (h23 : xs[23]? = some (.int .i64 0)) :
    Calls Ybaf.prog 6 #[.pointer (some ⟨R, 0, none⟩)] W fun e w' => e = .returned (.tuple #[]) ∧
      ∃ (G gc : Nat) (ys : List Value), Row w' R 43 (cur0 (xs.set 13 (.slice (some ⟨G, 0, none⟩) 1 gc))) ∧ Row w' G 49 ys ∧ ys[0]? = some (.int .i64 0) ∧ ys[1]? = some (.int .i64 l) ∧ ys[2]? = some (.int .i64 c) ∧ ys[3]? = some (.int .i64 0) ∧ ys[4]? = some (.int .i64 0) ∧ W.heap.size ≤ G ∧ Kept (fun k => k = R) W w' := by
  go_enter Ybaf.func6, Ybaf.ntmps6
  have c9 := (hR.cell 9).trans h9
  have c10 := (hR.cell 10).trans h10
  have c11 := (hR.cell 11).trans h11
  have c12 := (hR.cell 12).trans h12
  have c23 := (hR.cell 23).trans h23
  go_wp2_with fail
  go_quiet ((go_at_call 5; exact Calls.quiet_of_same (empty_walk R 0 _ c23)))
  go_wp2_with fail
  refine (line_ok R l c 0 0 (fun h => h.2 rfl) _ xs (hR.drewN _) h13).mono ?_
  rintro _ w2 ⟨rfl, G, gc, ys, hR2, hG, y0, y1, y2, y3, y4, hle, hk2⟩
  have hk : Kept (fun k => k = R) W w2 := ((Kept.refl _ W).drewN _).trans hk2
  have hb2 : w2.cell? ⟨b, 1, none⟩ = some (.slice none 0 0) := hk.cell hb hbR
  have nGR : G ≠ R := fun h => absurd hle (by rw [h]; exact Nat.not_le.2 hR.lt)
  have e5 := (set13 (u := .slice (some ⟨G, 0, none⟩) 1 gc) h5 (by decide))
  have e9 := (set13 (u := .slice (some ⟨G, 0, none⟩) 1 gc) h9 (by decide))
  have e10 := (set13 (u := .slice (some ⟨G, 0, none⟩) 1 gc) h10 (by decide))
  have e11 := (set13 (u := .slice (some ⟨G, 0, none⟩) 1 gc) h11 (by decide))
  have e12 := (set13 (u := .slice (some ⟨G, 0, none⟩) 1 gc) h12 (by decide))
  have hfin := fin_end hR2 hk rfl
  have hG9 := (((hG.other R 9 (.int .i64 0) nGR).other R 10 (.int .i64 0) nGR).other R 11 (.int .i64 0) nGR).other R 12 (.int .i64 0) nGR
  clear hk2 h5 h9 h10 h11 h12 hb c9 c10 c11 c12 c23 hG
  have c5 := (hR2.cell 5).trans e5
  have c9 := (hR2.cell 9).trans e9
  have c10 := (hR2.cell 10).trans e10
  have c11 := (hR2.cell 11).trans e11
  have c12 := (hR2.cell 12).trans e12
  have f9 := hR2.frozen 9
  have f10 := hR2.frozen 10
  have f11 := hR2.frozen 11
  have f12 := hR2.frozen 12
  go_wp2_with fail
  refine (len_walk b w2 hb2).mono ?_
  rintro _ w9 ⟨rfl, rfl⟩
  go_wp2_with fail
  go_end0
  exact ⟨rfl, G, gc, ys, hfin.1, hG9, y0, y1, y2, y3, y4, hle, hfin.2⟩

theorem sb (xs : List Value) (v6 v8 v13 v14 v15 v16 v17 v18 v19 v20 : Value) (j : Nat) (hj : j < 13) (h6 : 6 ≠ j) (h8 : 8 ≠ j) : ((((((((((xs.set 13 v13).set 14 v14).set 15 v15).set 16 v16).set 17 v17).set 18 v18).set 19 v19).set 20 v20).set 6 v6).set 8 v8)[j]? = xs[j]? := by
  rw [List.getElem?_set_ne h8, List.getElem?_set_ne h6]
  exact sx xs _ _ _ _ _ _ _ _ j hj

set_option maxHeartbeats 1000000 in
set_option maxRecDepth 100000 in
theorem end_bad (F : Interp) (R b : Nat) (l c i : Int) (hi : Hid (i ≠ 0)) (m : ByteArray) (hm : FmtStop.textOf (F "fmt.Sprintf" (reading i) 0) = m) (hm0 : m.toList.isEmpty = false) (hl : l ≠ 0) (W : World) (hF : F.answers W.tape) (xs : List Value) (hR : Row W R 43 xs) (h5 : xs[5]? = some (.pointer (some ⟨b, 0, none⟩))) (hb : W.cell? ⟨b, 1, none⟩ = some (.slice none 0 0)) (hbR : b ≠ R)
    (h9 : xs[9]? = some (.int .i64 l)) (h10 : xs[10]? = some (.int .i64 c)) (h11 : xs[11]? = some (.int .i64 i)) (h12 : xs[12]? = some (.int .i64 0)) (h13 : xs[13]? = some (.slice none 0 0)) (h23 : xs[23]? = some (.int .i64 0))
    (h6 : xs[6]? = some (.slice none 0 0)) (h8 : xs[8]? = some (.int .i64 0)) (h14 : xs[14]? = some (.int .i64 0)) (h15 : xs[15]? = some (.int .i64 0)) (h16 : xs[16]? = some (.int .i64 0)) (h17 : xs[17]? = some (.int .i64 0)) (h18 : xs[18]? = some (.int .i64 0)) (h19 : xs[19]? = some (.int .i64 0)) (h20 : xs[20]? = some (.string ⟨#[]⟩)) :
    Calls Ybaf.prog 6 #[.pointer (some ⟨R, 0, none⟩)] W fun e w' => e = .returned (.tuple #[]) ∧
      ∃ (G gc M mc : Nat) (ys : List Value), Row w' R 43 (cur0 ((((((((((xs.set 13 (.slice (some ⟨G, 0, none⟩) 0 gc)).set 14 (.int .i64 1)).set 15 (.int .i64 i)).set 16 (.int .i64 0)).set 17 (.int .i64 0)).set 18 (.int .i64 0)).set 19 (.int .i64 0)).set 20 (.string m)).set 6 (.slice (some ⟨M, 0, none⟩) 1 mc)).set 8 (.int .i64 1))) ∧ Row w' M 47 ys ∧ ys[0]? = some (.int .i64 l) ∧ ys[1]? = some (.int .i64 c) ∧ W.heap.size ≤ M ∧ Kept (fun k => k = R) W w' := by
  go_enter Ybaf.func6, Ybaf.ntmps6
  have c9 := (hR.cell 9).trans h9
  have c10 := (hR.cell 10).trans h10
  have c11 := (hR.cell 11).trans h11
  have c12 := (hR.cell 12).trans h12
  have c23 := (hR.cell 23).trans h23
  go_wp2_with fail
  go_quiet ((go_at_call 5; exact Calls.quiet_of_same (empty_walk R 0 _ c23)))
  go_wp2_with fail
  refine (line_bad F R l c i 0 ⟨rfl, hi⟩ m hm hm0 (W.drewN _) hF xs (hR.drewN _) h6 h8 h13 h14 h15 h16 h17 h18 h19 h20).mono ?_
  rintro _ w2 ⟨rfl, G, gc, M, mc, ys, hR2, hM, y0, y1, hle, hk2⟩
  have hk : Kept (fun k => k = R) W w2 := ((Kept.refl _ W).drewN _).trans hk2
  have hb2 : w2.cell? ⟨b, 1, none⟩ = some (.slice none 0 0) := hk.cell hb hbR
  have nMR : M ≠ R := fun h => absurd hle (by rw [h]; exact Nat.not_le.2 hR.lt)
  have e5 := (sb xs (.slice (some ⟨M, 0, none⟩) 1 mc) (.int .i64 1) (.slice (some ⟨G, 0, none⟩) 0 gc) (.int .i64 1) (.int .i64 i) (.int .i64 0) (.int .i64 0) (.int .i64 0) (.int .i64 0) (.string m) 5 (by decide) (by decide) (by decide)).trans h5
  have e9 := (sb xs (.slice (some ⟨M, 0, none⟩) 1 mc) (.int .i64 1) (.slice (some ⟨G, 0, none⟩) 0 gc) (.int .i64 1) (.int .i64 i) (.int .i64 0) (.int .i64 0) (.int .i64 0) (.int .i64 0) (.string m) 9 (by decide) (by decide) (by decide)).trans h9
  have e10 := (sb xs (.slice (some ⟨M, 0, none⟩) 1 mc) (.int .i64 1) (.slice (some ⟨G, 0, none⟩) 0 gc) (.int .i64 1) (.int .i64 i) (.int .i64 0) (.int .i64 0) (.int .i64 0) (.int .i64 0) (.string m) 10 (by decide) (by decide) (by decide)).trans h10
  have e11 := (sb xs (.slice (some ⟨M, 0, none⟩) 1 mc) (.int .i64 1) (.slice (some ⟨G, 0, none⟩) 0 gc) (.int .i64 1) (.int .i64 i) (.int .i64 0) (.int .i64 0) (.int .i64 0) (.int .i64 0) (.string m) 11 (by decide) (by decide) (by decide)).trans h11
  have e12 := (sb xs (.slice (some ⟨M, 0, none⟩) 1 mc) (.int .i64 1) (.slice (some ⟨G, 0, none⟩) 0 gc) (.int .i64 1) (.int .i64 i) (.int .i64 0) (.int .i64 0) (.int .i64 0) (.int .i64 0) (.string m) 12 (by decide) (by decide) (by decide)).trans h12
  have hfin := fin_end hR2 hk rfl
  have hM9 := (((hM.other R 9 (.int .i64 0) nMR).other R 10 (.int .i64 0) nMR).other R 11 (.int .i64 0) nMR).other R 12 (.int .i64 0) nMR
  clear hk2 h5 h6 h8 h9 h10 h11 h12 h13 h14 h15 h16 h17 h18 h19 h20 hb c9 c10 c11 c12 c23 hM hm hF
  have c5 := (hR2.cell 5).trans e5
  have c9 := (hR2.cell 9).trans e9
  have c10 := (hR2.cell 10).trans e10
  have c11 := (hR2.cell 11).trans e11
  have c12 := (hR2.cell 12).trans e12
  have f9 := hR2.frozen 9
  have f10 := hR2.frozen 10
  have f11 := hR2.frozen 11
  have f12 := hR2.frozen 12
  go_wp2_with fail
  refine (len_walk b w2 hb2).mono ?_
  rintro _ w9 ⟨rfl, rfl⟩
  go_wp2_with fail
  go_end0
  exact ⟨rfl, G, gc, M, mc, ys, hfin.1, hM9, y0, y1, hle, hfin.2⟩

end Go.Proofs.YbulkbgveFmt
