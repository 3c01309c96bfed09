import Derived.Test.YbulkbgveFmtCheck
import Derived.Test.YbulkbgveFmtCheckB
namespace Go.Proofs.YbulkbgveFmt
open Go.RowKit Go.Extern.Stop Go.Stop Go.Extern

theorem Ybaf.info47 : (Ybaf.prog.info? 47).map (fun i => (i.zero, i.size, i.bytes)) = some (some (.agg #[.int .i64 0, .int .i64 0, .string ⟨#[]⟩]), 3, 32) := by kernel_rfl

theorem fin_at {W w1 : World} {R M mc : Nat} {xs : List Value} {l c : Int} {m : ByteArray} (hlt : R < W.heap.size) (hR1 : Row w1 R 43 xs) (hown : w1.ownsRow W.heap.size 47 3 (.slice (some ⟨M, 0, none⟩) 1 mc) 1 [.int .i64 l, .int .i64 c, .string m]) (hk : Kept (fun k => k = R) W w1) :
    ∃ (ys : List Value), Row (w1.setCell ⟨R, 6, none⟩ (.slice (some ⟨M, 0, none⟩) 1 mc)) R 43 (xs.set 6 (.slice (some ⟨M, 0, none⟩) 1 mc)) ∧ Row (w1.setCell ⟨R, 6, none⟩ (.slice (some ⟨M, 0, none⟩) 1 mc)) M 47 ys ∧ ys[0]? = some (.int .i64 l) ∧ ys[1]? = some (.int .i64 c) ∧ W.heap.size ≤ M ∧ Kept (fun k => k = R) W (w1.setCell ⟨R, 6, none⟩ (.slice (some ⟨M, 0, none⟩) 1 mc)) := by
  obtain ⟨hlen, hown2⟩ := hown
  rcases hown2 with ⟨h, _⟩ | ⟨g, cap, cur, hv, hge, hrow, h4, h5, h6, h7⟩
  · cases h
  · cases hv
    have hget : ∀ j, j < 3 → cur.toList[j]? = ([Value.int .i64 l, .int .i64 c, .string m] : List Value)[j]? := by
      intro j hj
      have h8 : (cur.toList.take (1 * 3))[j]? = ([Value.int .i64 l, .int .i64 c, .string m] : List Value)[j]? := by rw [h7]
      rw [List.getElem?_take_of_lt (by omega)] at h8
      exact h8
    have hM : Row w1 M 47 cur.toList := by unfold Row; simpa using hrow
    exact ⟨cur.toList, hR1.set 6 _, hM.other R 6 _ (by omega), hget 0 (by decide), hget 1 (by decide), hge, hk.setCell (g := R) (j := 6) (fun _ => rfl) _⟩

set_option maxHeartbeats 1000000 in
set_option maxRecDepth 100000 in
theorem at_walk (R : Nat) (l c : Int) (m : ByteArray) (W : World) (xs : List Value) (hR : Row W R 43 xs) (h6 : xs[6]? = some (.slice none 0 0)) :
    Calls Ybaf.prog 12 #[.pointer (some ⟨R, 0, none⟩), .int .i64 l, .int .i64 c, .string m] W fun e w' => e = .returned (.tuple #[]) ∧
      ∃ (M mc : Nat) (ys : List Value), Row w' R 43 (xs.set 6 (.slice (some ⟨M, 0, none⟩) 1 mc)) ∧ Row w' M 47 ys ∧ ys[0]? = some (.int .i64 l) ∧ ys[1]? = some (.int .i64 c) ∧ W.heap.size ≤ M ∧ Kept (fun k => k = R) W w' := by
  obtain ⟨i0, hi, hz0, hz1, hz2⟩ := info_parts Ybaf.info47
  go_enter Ybaf.func12, Ybaf.ntmps12
  have c6 := (hR.cell 6).trans h6
  have hRl := hR.lt
  go_wp2_with (at_builtin; refine wpList_append_own _ rfl (.tmp 12) (.tmp 17) 29 rfl W.heap.size 47 i0 _ 3 32 Ybaf.underlying29 hi hz0 hz1 hz2 rfl (by decide) (.slice none 0 0) 0 [] rfl (World.ownsRow_nil _ _ _ _) ⟨W.heap.size, 0, none⟩ 1 1 [.int .i64 l, .int .i64 c, .string m] rfl rfl ?c1 ?c2 ?c3 ?c4 ?c5 ?_)
  case c1 => exact new_cells _ _ [.int .i64 l, .int .i64 c, .string m] _ (by simp)
  case c2 =>
    intro u hu
    simp only [List.mem_cons, List.not_mem_nil, or_false] at hu
    rcases hu with rfl | rfl | rfl <;> rfl
  case c3 => decide
  case c4 => decide
  case c5 => simp
  intro v' w1 hown hgrow _
  obtain ⟨M, mc, rfl⟩ := Joins.ownsRow_form hown (by decide)
  have hR1 : Row w1 R 43 xs := (hgrow.block R (by simp <;> omega) (by simp [Value.ownBlock])).trans (hR.alloc _)
  have hk : Kept (fun k => k = R) W w1 := ((Kept.refl _ W).alloc _).grown hgrow (fun k h => by simp [Value.ownBlock] at h)
  have c6' := (hR1.cell 6).trans h6
  have f6' := hR1.frozen 6
  go_wp2_with fail
  go_end0
  obtain ⟨ys, hy⟩ := fin_at hRl hR1 hown hk
  exact ⟨rfl, M, mc, ys, hy⟩

set_option maxHeartbeats 1000000 in
set_option maxRecDepth 100000 in
theorem line_ok (R : Nat) (l c i d : Int) (hd : ¬ (d = 0 ∧ i ≠ 0)) (W : World) (xs : List Value) (hR : Row W R 43 xs) (h13 : xs[13]? = some (.slice none 0 0)) :
    Calls Ybaf.prog 9 #[.pointer (some ⟨R, 0, none⟩), .agg #[.int .i64 l, .int .i64 c, .int .i64 i, .int .i64 d]] W fun e w' => e = .returned (.tuple #[]) ∧
      ∃ (G gc : Nat) (ys : List Value), Row w' R 43 (xs.set 13 (.slice (some ⟨G, 0, none⟩) 1 gc)) ∧ Row w' G 49 ys ∧ ys[0]? = some (.int .i64 d) ∧ ys[1]? = some (.int .i64 l) ∧ ys[2]? = some (.int .i64 c) ∧ ys[3]? = some (.int .i64 i) ∧ ys[4]? = some (.int .i64 d) ∧ W.heap.size ≤ G ∧ Kept (fun k => k = R) W w' := by
  go_enter Ybaf.func9, Ybaf.ntmps9
  have hRl := hR.lt
  go_wp2_with fail
  refine still_tail 4 mixed (by kernel_rfl) ?_
  simp only [List.take_succ_cons, List.take_zero, List.drop_succ_cons, List.drop_zero]
  repeat still_step
  try refine wpStill_nil ?_
  go_wp2_with fail
  refine (check_ok R l c i d hd _ xs (hR.alloc _).drew h13).mono ?_
  rintro _ w2 ⟨rfl, G, gc, ys, hR2, hG, y0, y1, y2, y3, y4, hle, hk⟩
  go_wp2_with fail
  go_end0
  refine ⟨rfl, G, gc, ys, hR2, hG, y0, y1, y2, y3, y4, ?_, ((((Kept.refl _ W).alloc _).drew).trans hk)⟩
  exact Nat.le_trans ((Kept.refl (fun _ => False) W).alloc _).size hle

theorem sx (xs : List Value) (v13 v14 v15 v16 v17 v18 v19 v20 : Value) (j : Nat) (hj : j < 13) : ((((((((xs.set 13 v13).set 14 v14).set 15 v15).set 16 v16).set 17 v17).set 18 v18).set 19 v19).set 20 v20)[j]? = xs[j]? := by
  repeat rw [List.getElem?_set_ne (by omega)]

set_option maxHeartbeats 1000000 in
set_option maxRecDepth 100000 in
theorem line_bad (F : Interp) (R : Nat) (l c i d : Int) (hd : Hid (d = 0 ∧ i ≠ 0)) (m : ByteArray) (hm : FmtStop.textOf (F "fmt.Sprintf" (reading i) 0) = m) (hm0 : m.toList.isEmpty = false) (W : World) (hF : F.answers W.tape) (xs : List Value) (hR : Row W R 43 xs) (h6 : xs[6]? = some (.slice none 0 0)) (h8 : xs[8]? = some (.int .i64 0)) (h13 : xs[13]? = some (.slice none 0 0)) (h14 : xs[14]? = some (.int .i64 0)) (h15 : xs[15]? = some (.int .i64 0)) (h16 : xs[16]? = some (.int .i64 0)) (h17 : xs[17]? = some (.int .i64 0)) (h18 : xs[18]? = some (.int .i64 0)) (h19 : xs[19]? = some (.int .i64 0)) (h20 : xs[20]? = some (.string ⟨#[]⟩)) :
    Calls Ybaf.prog 9 #[.pointer (some ⟨R, 0, none⟩), .agg #[.int .i64 l, .int .i64 c, .int .i64 i, .int .i64 d]] W fun e w' => e = .returned (.tuple #[]) ∧
      ∃ (G gc M mc : Nat) (ys : List Value), Row w' R 43 ((((((((((xs.set 13 (.slice (some ⟨G, 0, none⟩) 0 gc)).set 14 (.int .i64 1)).set 15 (.int .i64 i)).set 16 (.int .i64 0)).set 17 (.int .i64 0)).set 18 (.int .i64 0)).set 19 (.int .i64 0)).set 20 (.string m)).set 6 (.slice (some ⟨M, 0, none⟩) 1 mc)).set 8 (.int .i64 1)) ∧ Row w' M 47 ys ∧ ys[0]? = some (.int .i64 l) ∧ ys[1]? = some (.int .i64 c) ∧ W.heap.size ≤ M ∧ Kept (fun k => k = R) W w' := by
  go_enter Ybaf.func9, Ybaf.ntmps9
  have hRl := hR.lt
  go_wp2_with fail
  refine still_tail 4 mixed (by kernel_rfl) ?_
  simp only [List.take_succ_cons, List.take_zero, List.drop_succ_cons, List.drop_zero]
  repeat still_step
  try refine wpStill_nil ?_
  go_wp2_with fail
  refine (check_bad F R l c i d hd (W.alloc (.cells #[.int .i64 l, .int .i64 c, .int .i64 i, .int .i64 d] 31)).drew hF xs (hR.alloc _).drew h13 h14 h15 h16 h17 h18 h19 h20).mono ?_
  rw [hm]
  rintro _ w2 ⟨rfl, G, gc, hR2, hk⟩
  have hb := Row.new W 31 #[.int .i64 l, .int .i64 c, .int .i64 i, .int .i64 d]
  have hL2 : Row w2 W.heap.size 31 [.int .i64 l, .int .i64 c, .int .i64 i, .int .i64 d] := hb.drew.kept hk (fun h => absurd hRl (by rw [h]; exact Nat.lt_irrefl _))
  have b0 : w2.cell? ⟨W.heap.size, 0, none⟩ = some (.int .i64 l) := hL2.cell 0
  have b1 : w2.cell? ⟨W.heap.size, 1, none⟩ = some (.int .i64 c) := hL2.cell 1
  clear h14 h15 h16 h17 h18 h19 h20 hb hL2 hm hF
  go_wp2_with fail
  have e6 := (sx xs (.slice (some ⟨G, 0, none⟩) 0 gc) (.int .i64 1) (.int .i64 i) (.int .i64 0) (.int .i64 0) (.int .i64 0) (.int .i64 0) (.string m) 6 (by decide)).trans h6
  have e8 := (sx xs (.slice (some ⟨G, 0, none⟩) 0 gc) (.int .i64 1) (.int .i64 i) (.int .i64 0) (.int .i64 0) (.int .i64 0) (.int .i64 0) (.string m) 8 (by decide)).trans h8
  have hR2l : W.heap.size ≤ w2.heap.size := Nat.le_trans ((Kept.refl (fun _ => False) W).alloc _).size hk.size
  have hk0 : Kept (fun k => k = R) W w2 := (((Kept.refl _ W).alloc _).drew).trans hk
  refine (at_walk R l c m w2 _ hR2 e6).mono ?_
  clear hk
  rintro _ w3 ⟨rfl, M, mc, ys, hR3, hM, y0, y1, hle, hk3⟩
  have c8 := (hR3.cell 8).trans ((List.getElem?_set_ne (by decide)).trans e8)
  have f8 := hR3.frozen 8
  have nMR : M ≠ R := fun h => absurd hle (by rw [h]; exact Nat.not_le.2 hR2.lt)
  have hfin : ∃ (G gc M mc : Nat) (ys : List Value), Row (w3.setCell ⟨R, 8, none⟩ (.int .i64 1)) R 43 (((((((((((xs.set 13 (.slice (some ⟨G, 0, none⟩) 0 gc)).set 14 (.int .i64 1)).set 15 (.int .i64 i)).set 16 (.int .i64 0)).set 17 (.int .i64 0)).set 18 (.int .i64 0)).set 19 (.int .i64 0)).set 20 (.string m))).set 6 (.slice (some ⟨M, 0, none⟩) 1 mc)).set 8 (.int .i64 1)) ∧ Row (w3.setCell ⟨R, 8, none⟩ (.int .i64 1)) M 47 ys ∧ ys[0]? = some (.int .i64 l) ∧ ys[1]? = some (.int .i64 c) ∧ W.heap.size ≤ M ∧ Kept (fun k => k = R) W (w3.setCell ⟨R, 8, none⟩ (.int .i64 1)) :=
    ⟨G, gc, M, mc, ys, hR3.set 8 _, hM.other R 8 _ nMR, y0, y1, Nat.le_trans hR2l hle, (hk0.trans hk3).setCell (g := R) (j := 8) (fun _ => rfl) _⟩
  clear hR3 hk3 hk0 hM
  go_wp2_with fail
  go_end0
  exact ⟨rfl, hfin⟩
end Go.Proofs.YbulkbgveFmt
