import Derived.Test.YbulkbgveFmtEnd
namespace Go.Proofs.YbulkbgveFmt
open Go.RowKit Go.Extern.Stop Go.Stop Go.Extern

theorem s4 (xs : List Value) (v27 v28 v29 v30 : Value) (j : Nat) (hj : j < 27) : ((((xs.set 27 v27).set 28 v28).set 29 v29).set 30 v30)[j]? = xs[j]? := by
  repeat rw [List.getElem?_set_ne (by omega)]

set_option maxHeartbeats 1000000 in
set_option maxRecDepth 100000 in
theorem end_more (R b : Nat) (l c i d : Int) (hl : l ≠ 0) (W : World) (xs : List Value) (hR : Row W R 43 xs) (h5 : xs[5]? = some (.pointer (some ⟨b, 0, none⟩))) (hb : W.cell? ⟨b, 1, none⟩ = some (.slice none 0 0)) (hbR : b ≠ R)
    (h9 : xs[9]? = some (.int .i64 l)) (h10 : xs[10]? = some (.int .i64 c)) (h11 : xs[11]? = some (.int .i64 i)) (h12 : xs[12]? = some (.int .i64 d))
    (B C K n cc : Nat) (f p p2 p3 q : Int) (ys : List Value)
    (h21 : xs[21]? = some (.slice (some ⟨C, 0, none⟩) 1 cc)) (h22 : xs[22]? = some (.int .i64 1)) (h23 : xs[23]? = some (.int .i64 f)) (hf : f ≠ 0)
    (h27 : xs[27]? = some (.int .i64 p)) (h28 : xs[28]? = some (.int .i64 p2)) (h29 : xs[29]? = some (.int .i64 p3)) (h30 : xs[30]? = some (.int .i64 q)) (hC : Row W C 40 ys) (hC0 : ys[0]? = some (.slice (some ⟨K, 0, none⟩) n 4096)) (hB : Buf W B K n) (hn : n ≤ 50) (hRK : R ≠ K) (hCK : C ≠ K) (hRC : R ≠ C) (hbC : b ≠ C) (hbK : b ≠ K) :
    Calls Ybaf.prog 6 #[.pointer (some ⟨R, 0, none⟩)] W fun e w' => e = .returned (.tuple #[]) ∧ Row w' R 43 (cur0 ((((xs.set 27 (.int .i64 l)).set 28 (.int .i64 c)).set 29 (.int .i64 i)).set 30 (.int .i64 d))) ∧ Kept (fun k => k = R ∨ k = C ∨ k = K) W w' := by
  go_enter Ybaf.func6, Ybaf.ntmps6
  have c9 := (hR.cell 9).trans h9
  have c10 := (hR.cell 10).trans h10
  have c11 := (hR.cell 11).trans h11
  have c12 := (hR.cell 12).trans h12
  have c23 := (hR.cell 23).trans h23
  go_wp2_with fail
  go_quiet ((go_at_call 5; exact Calls.quiet_of_same (empty_walk R f _ c23)))
  go_wp2_with fail
  refine still_tail 7 mixed (by kernel_rfl) ?_
  simp only [List.take_succ_cons, List.take_zero, List.drop_succ_cons, List.drop_zero]
  repeat still_step
  try refine wpStill_nil ?_
  go_wp2_with fail
  refine (add_more B R C K n cc l c i d f p p2 p3 q _ xs ys (hR.drewN _) h21 h22 h23 hf h27 h28 h29 h30 (Row.drewN hC _) hC0 hB hn hRK hCK hRC).mono ?_
  rintro _ w2 ⟨rfl, hR2, hk2⟩
  have hk : Kept (fun k => k = R ∨ k = C ∨ k = K) W w2 := ((Kept.refl _ W).drewN _).trans hk2
  have hb2 : w2.cell? ⟨b, 1, none⟩ = some (.slice none 0 0) := hk.cell hb (fun h => h.elim hbR (fun h => h.elim hbC hbK))
  have e5 := (s4 xs (.int .i64 l) (.int .i64 c) (.int .i64 i) (.int .i64 d) 5 (by decide)).trans h5
  have e9 := (s4 xs (.int .i64 l) (.int .i64 c) (.int .i64 i) (.int .i64 d) 9 (by decide)).trans h9
  have e10 := (s4 xs (.int .i64 l) (.int .i64 c) (.int .i64 i) (.int .i64 d) 10 (by decide)).trans h10
  have e11 := (s4 xs (.int .i64 l) (.int .i64 c) (.int .i64 i) (.int .i64 d) 11 (by decide)).trans h11
  have e12 := (s4 xs (.int .i64 l) (.int .i64 c) (.int .i64 i) (.int .i64 d) 12 (by decide)).trans h12
  clear hk2 h5 h9 h10 h11 h12 h21 h22 h23 h27 h28 h29 h30 hC hC0 hB hb c9 c10 c11 c12 c23
  have c5 := (hR2.cell 5).trans e5
  have c9 := (hR2.cell 9).trans e9
  have c10 := (hR2.cell 10).trans e10
  have c11 := (hR2.cell 11).trans e11
  have c12 := (hR2.cell 12).trans e12
  have f9 := hR2.frozen 9
  have f10 := hR2.frozen 10
  have f11 := hR2.frozen 11
  have f12 := hR2.frozen 12
  go_wp2_with fail
  refine (len_walk b w2 hb2).mono ?_
  rintro _ w9 ⟨rfl, rfl⟩
  go_wp2_with fail
  go_end0
  exact ⟨rfl, fin_end hR2 hk (.inl rfl)⟩

end Go.Proofs.YbulkbgveFmt
