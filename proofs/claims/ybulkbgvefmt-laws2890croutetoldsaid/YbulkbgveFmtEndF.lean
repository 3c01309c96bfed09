import Derived.Test.YbulkbgveFmtEnd
namespace Go.Proofs.YbulkbgveFmt
open Go.RowKit Go.Extern.Stop Go.Stop Go.Extern

theorem s10 (xs : List Value) (v21 v22 v23 v24 v25 v26 v27 v28 v29 v30 : Value) (j : Nat) (hj : j < 21) : ((((((((((xs.set 21 v21).set 22 v22).set 23 v23).set 24 v24).set 25 v25).set 26 v26).set 27 v27).set 28 v28).set 29 v29).set 30 v30)[j]? = xs[j]? := by
  repeat rw [List.getElem?_set_ne (by omega)]

set_option maxHeartbeats 1000000 in
set_option maxRecDepth 100000 in
theorem end_first (R b I j : Nat) (hj : j < 8) (l c i v : Int) (hl : l ≠ 0) (hv : i ≤ v) (W : World) (xs : List Value) (hR : Row W R 43 xs) (h5 : xs[5]? = some (.pointer (some ⟨b, 0, none⟩))) (hb : W.cell? ⟨b, 1, none⟩ = some (.slice none 0 0)) (hbR : b ≠ R)
    (h9 : xs[9]? = some (.int .i64 l)) (h10 : xs[10]? = some (.int .i64 c)) (h11 : xs[11]? = some (.int .i64 i)) (h12 : xs[12]? = some (.int .i64 ((j : Int) + 1)))
    (h31 : xs[31]? = some (.slice (some ⟨I, 0, none⟩) (j + 1) (j + 1))) (hI : W.cell? ⟨I, j, none⟩ = some (.int .i64 v))
    (h21 : xs[21]? = some (.slice none 0 0)) (h22 : xs[22]? = some (.int .i64 0)) (h23 : xs[23]? = some (.int .i64 0)) (h24 : xs[24]? = some (.int .i64 0)) (h25 : xs[25]? = some (.int .i64 0)) (h26 : xs[26]? = some (.int .i64 0))
    (h27 : xs[27]? = some (.int .i64 0)) (h28 : xs[28]? = some (.int .i64 0)) (h29 : xs[29]? = some (.int .i64 0)) (h30 : xs[30]? = some (.int .i64 0)) :
    Calls Ybaf.prog 6 #[.pointer (some ⟨R, 0, none⟩)] W fun e w' => e = .returned (.tuple #[]) ∧
      ∃ (C cc : Nat), Row w' R 43 (cur0 ((((((((((xs.set 21 (.slice (some ⟨C, 0, none⟩) 1 cc)).set 22 (.int .i64 1)).set 23 (.int .i64 l)).set 24 (.int .i64 c)).set 25 (.int .i64 i)).set 26 (.int .i64 ((j : Int) + 1))).set 27 (.int .i64 l)).set 28 (.int .i64 c)).set 29 (.int .i64 i)).set 30 (.int .i64 ((j : Int) + 1)))) ∧ Kept (fun k => k = R) W w' := by
  go_enter Ybaf.func6, Ybaf.ntmps6
  have c9 := (hR.cell 9).trans h9
  have c10 := (hR.cell 10).trans h10
  have c11 := (hR.cell 11).trans h11
  have c12 := (hR.cell 12).trans h12
  have c23 := (hR.cell 23).trans h23
  have c31 := (hR.cell 31).trans h31
  have hw : IntKind.i64.wrap ((j : Int)) = (j : Int) := IntWalk.i64_in _ (by omega)
  have hj0 : (0 : Int) < (j : Int) + 1 := by omega
  have hj1 : (j : Int) < (j : Int) + 1 := by omega
  have hj2 : (0 : Int) ≤ (j : Int) := by omega
  go_wp2_with fail
  go_quiet ((go_at_call 5; exact Calls.quiet_of_same (empty_walk R 0 _ c23)))
  go_wp2_with fail
  refine still_tail 7 mixed (by kernel_rfl) ?_
  simp only [List.take_succ_cons, List.take_zero, List.drop_succ_cons, List.drop_zero]
  repeat still_step
  try refine wpStill_nil ?_
  go_wp2_with fail
  refine (add_first R l c i ((j : Int) + 1) 0 0 0 _ xs (hR.drewN _) h21 h22 h23 h24 h25 h26 h27 h28 h29 h30).mono ?_
  rintro _ w2 ⟨rfl, C, K, n, cc, ys, hR2, _, _, _, _, _, _, hk2⟩
  have hk : Kept (fun k => k = R) W w2 := ((Kept.refl _ W).drewN _).trans hk2
  have hb2 : w2.cell? ⟨b, 1, none⟩ = some (.slice none 0 0) := hk.cell hb hbR
  have e5 := (s10 xs (.slice (some ⟨C, 0, none⟩) 1 cc) (.int .i64 1) (.int .i64 l) (.int .i64 c) (.int .i64 i) (.int .i64 ((j : Int) + 1)) (.int .i64 l) (.int .i64 c) (.int .i64 i) (.int .i64 ((j : Int) + 1)) 5 (by decide)).trans h5
  have e9 := (s10 xs (.slice (some ⟨C, 0, none⟩) 1 cc) (.int .i64 1) (.int .i64 l) (.int .i64 c) (.int .i64 i) (.int .i64 ((j : Int) + 1)) (.int .i64 l) (.int .i64 c) (.int .i64 i) (.int .i64 ((j : Int) + 1)) 9 (by decide)).trans h9
  have e10 := (s10 xs (.slice (some ⟨C, 0, none⟩) 1 cc) (.int .i64 1) (.int .i64 l) (.int .i64 c) (.int .i64 i) (.int .i64 ((j : Int) + 1)) (.int .i64 l) (.int .i64 c) (.int .i64 i) (.int .i64 ((j : Int) + 1)) 10 (by decide)).trans h10
  have e11 := (s10 xs (.slice (some ⟨C, 0, none⟩) 1 cc) (.int .i64 1) (.int .i64 l) (.int .i64 c) (.int .i64 i) (.int .i64 ((j : Int) + 1)) (.int .i64 l) (.int .i64 c) (.int .i64 i) (.int .i64 ((j : Int) + 1)) 11 (by decide)).trans h11
  have e12 := (s10 xs (.slice (some ⟨C, 0, none⟩) 1 cc) (.int .i64 1) (.int .i64 l) (.int .i64 c) (.int .i64 i) (.int .i64 ((j : Int) + 1)) (.int .i64 l) (.int .i64 c) (.int .i64 i) (.int .i64 ((j : Int) + 1)) 12 (by decide)).trans h12
  clear hk2 h5 h9 h10 h11 h12 h21 h22 h23 h24 h25 h26 h27 h28 h29 h30 hb c9 c10 c11 c12 c23 c31 hI h31
  have c5 := (hR2.cell 5).trans e5
  have c9 := (hR2.cell 9).trans e9
  have c10 := (hR2.cell 10).trans e10
  have c11 := (hR2.cell 11).trans e11
  have c12 := (hR2.cell 12).trans e12
  have f9 := hR2.frozen 9
  have f10 := hR2.frozen 10
  have f11 := hR2.frozen 11
  have f12 := hR2.frozen 12
  go_wp2_with fail
  refine (len_walk b w2 hb2).mono ?_
  rintro _ w9 ⟨rfl, rfl⟩
  go_wp2_with fail
  go_end0
  exact ⟨rfl, C, cc, fin_end hR2 hk rfl⟩

end Go.Proofs.YbulkbgveFmt
