import Derived.Test.YbulkbgveFmtAdd
import Derived.Lib.SmallJoins
import Derived.Deep.Cut
namespace Go.Proofs.YbulkbgveFmt
open Go.RowKit

theorem Ybaf.info40 : (Ybaf.prog.info? 40).map (fun i => (i.zero, i.size, i.bytes)) = some (some (.slice none 0 0), 1, 24) := by kernel_rfl

theorem set_same {xs : List Value} {j : Nat} {u v : Value} (h : xs[j]? = some v) : (xs.set j u)[j]? = some u := by
  have := (List.getElem?_eq_some_iff.1 h).1
  simp [this]
theorem set_ne {xs : List Value} {j k : Nat} {u : Value} (h : j ≠ k) : (xs.set j u)[k]? = xs[k]? := List.getElem?_set_ne h
theorem make_ex (w : World) : ∃ w', (Instr.makeSlice 40 (.int .i64 0) (.int .i64 4096)).run Ybaf.prog w = .ok (.slice (some ⟨w.heap.size, 0, none⟩) 0 4096) w' ∧ Buf w' w.heap.size w.heap.size 0 ∧ w.grownBy w' none := by
  obtain ⟨i0, hi, hz0, hz1, hz2⟩ := info_parts Ybaf.info5
  obtain ⟨w', h1, h2, h3⟩ := run_make_own (P := Ybaf.prog) w w.heap.size 40 5 i0 (.int .u8 0) 1 Ybaf.underlying40 hi hz0 hz1 .i64 .i64 4096 (by rw [hz2]; decide) (by decide) (Nat.le_refl _)
  exact ⟨w', h1, ⟨_, h2⟩, h3⟩
theorem make_fn : ∃ mk : World → World, ∀ w, (Instr.makeSlice 40 (.int .i64 0) (.int .i64 4096)).run Ybaf.prog w = .ok (.slice (some ⟨w.heap.size, 0, none⟩) 0 4096) (mk w) ∧ Buf (mk w) w.heap.size w.heap.size 0 ∧ w.grownBy (mk w) none := by
  refine ⟨fun w => match (Instr.makeSlice 40 (.int .i64 0) (.int .i64 4096)).run Ybaf.prog w with | .ok _ w' => w' | _ => w, fun w => ?_⟩
  obtain ⟨w', h1, h2, h3⟩ := make_ex w
  have e : (match (Instr.makeSlice 40 (.int .i64 0) (.int .i64 4096)).run Ybaf.prog w with | .ok _ w' => w' | _ => w) = w' := by rw [h1]
  dsimp only
  rw [e]
  exact ⟨h1, h2, h3⟩

set_option maxHeartbeats 8000000 in
set_option maxRecDepth 100000 in
theorem add_first (R : Nat) (l c i d p2 p3 p4 : Int) (W : World) (xs : List Value) (hR : Row W R 43 xs)
    (h21 : xs[21]? = some (.slice none 0 0)) (h22 : xs[22]? = some (.int .i64 0)) (h23 : xs[23]? = some (.int .i64 0)) (h24 : xs[24]? = some (.int .i64 p2)) (h25 : xs[25]? = some (.int .i64 p3)) (h26 : xs[26]? = some (.int .i64 p4))
    (h27 : xs[27]? = some (.int .i64 0)) (h28 : xs[28]? = some (.int .i64 0)) (h29 : xs[29]? = some (.int .i64 0)) (h30 : xs[30]? = some (.int .i64 0)) :
    Calls Ybaf.prog 4 #[.pointer (some ⟨R, 21, none⟩), .agg #[.int .i64 l, .int .i64 c, .int .i64 i, .int .i64 d]] W fun e w' => e = .returned (.tuple #[]) ∧
      ∃ (C K n cc : Nat) (ys : List Value), Row w' R 43 ((((((((((xs.set 21 (.slice (some ⟨C, 0, none⟩) 1 cc)).set 22 (.int .i64 1)).set 23 (.int .i64 l)).set 24 (.int .i64 c)).set 25 (.int .i64 i)).set 26 (.int .i64 d)).set 27 (.int .i64 l)).set 28 (.int .i64 c)).set 29 (.int .i64 i)).set 30 (.int .i64 d)) ∧
        Row w' C 40 ys ∧ ys[0]? = some (.slice (some ⟨K, 0, none⟩) n 4096) ∧ Buf w' W.heap.size K n ∧ n ≤ 50 ∧ W.heap.size < K ∧ K < C ∧ Kept (fun k => k = R) W w' := by
  obtain ⟨i0, hi, hz0, hz1, hz2⟩ := info_parts Ybaf.info40
  go_enter Ybaf.func4, Ybaf.ntmps4
  have hRl := hR.lt
  have hw0 : IntKind.i64.wrap 0 = 0 := by decide
  have c21 := (hR.cell 21).trans h21
  have c22 := (hR.cell 22).trans h22
  have c27 := (hR.cell 27).trans h27
  have f21 := hR.frozen 21
  have f22 := hR.frozen 22
  go_wp2_with fail
  go_quiet (fail)
  go_wp2_with fail
  go_quiet (fail)
  go_wp2_with fail
  generalize hW1 : World.drewN _ _ = W1
  have hR1 : Row W1 R 43 xs := by rw [← hW1]; exact ((hR.alloc _).drewN _).drewN _
  have hL1 : Row W1 W.heap.size 31 [.int .i64 l, .int .i64 c, .int .i64 i, .int .i64 d] := by rw [← hW1]; exact Row.new W 31 _
  have hK1 : Kept (fun k => k = R) W W1 := by rw [← hW1]; exact (((Kept.refl _ W).alloc _).drewN _).drewN _
  clear hW1 c21 c22 c27 f21 f22
  have c21 := (hR1.cell 21).trans h21
  have c22 := (hR1.cell 22).trans h22
  have f21 := hR1.frozen 21
  go_cut [] from 50 (fun wc => ∃ (C cc : Nat) (ys : List Value), At (fun k => k = R) W W.heap.size R C W1.heap.size W.heap.size (xs.set 21 (.slice (some ⟨C, 0, none⟩) 1 cc)) ys l c i d 0 wc ∧ ys[0]? = some (.slice (some ⟨W1.heap.size, 0, none⟩) 0 4096) ∧ W1.heap.size < C ∧ R < W1.heap.size)
  case first =>
    obtain ⟨mk, hmk⟩ := make_fn
    have hmk1 := fun w => (hmk w).1
    obtain ⟨-, hbuf, hg⟩ := hmk W1.drew
    have hKs : W1.heap.size < (mk W1.drew).heap.size := hbuf.lt
    have hRm : Row (mk W1.drew) R 43 xs := (hg.block R hR1.lt (by simp)).trans hR1
    have c21m := (hRm.cell 21).trans h21
    have c21v : ∀ o, ((mk W1.drew).alloc o).cell? ⟨R, 21, none⟩ = some (.slice none 0 0) := fun o => ((hRm.alloc o).cell 21).trans h21
    clear hmk
    go_region_law (refine step_append_grows rfl (.tmp 54) (.tmp 56) 37 rfl 40 i0 (.slice none 0 0) 1 24 Ybaf.underlying37 hi hz0 hz1 hz2 rfl (by decide) none 0 0 [] (by simp [Act.eval]) (fun _ => ⟨rfl, rfl⟩) rfl (by intro b h; cases h) ⟨(mk W1.drew).heap.size, 0, none⟩ 1 1 [.slice (some ⟨W1.heap.size, 0, none⟩) 0 4096] (by simp [Act.eval]) rfl (by intro j u hj; match j, hj with | 0, hj => simp at hj; subst hj; simp [Addr.add]) (by intro u hu; simp at hu; subst hu; rfl) (by decide) (by decide) (by decide) ?_; intro v' w' hown hgrow; obtain ⟨C, cc, rfl⟩ := Joins.ownsRow_form hown (by decide); have hR2 : Row w' R 43 xs := (hgrow.block R (hRm.alloc _).lt (by simp)).trans (hRm.alloc _); have c21' := (hR2.cell 21).trans h21; have f21' := hR2.frozen 21)

    all_goals go_wp2_with fail
    all_goals
      go_meet
      case rel =>
        have hK2 : Kept (fun k => k = R) W w' := ((hK1.drew.grown hg (fun k h => by cases h)).alloc _).grown hgrow (fun k h => by cases h)
        have hL2 : Row w' W.heap.size 31 [.int .i64 l, .int .i64 c, .int .i64 i, .int .i64 d] := by
          have h1 : Row (mk W1.drew) W.heap.size 31 [.int .i64 l, .int .i64 c, .int .i64 i, .int .i64 d] := (hg.block _ hL1.lt (by simp)).trans hL1
          exact (hgrow.block _ (h1.alloc _).lt (by simp)).trans (h1.alloc _)
        have hB2 : Buf w' W.heap.size W1.heap.size 0 := by
          have h1 : Buf (mk W1.drew) W.heap.size W1.heap.size 0 := by
            obtain ⟨zs, hz, hrest⟩ := hbuf
            refine ⟨zs, hz, ?_⟩
            rcases hrest with ⟨h, _⟩ | ⟨g, cap, cur, hv, h2, h3⟩
            · cases h
            · exact .inr ⟨g, cap, cur, hv, by have := hL1.lt; have : W1.drew.heap.size = W1.heap.size := rfl; omega, h3⟩
          have h2 := h1.kept ((Kept.refl (fun _ => False) _).alloc (Obj.cells #[Value.slice (some ⟨W1.heap.size, 0, none⟩) 0 4096] 40)) (fun h => h)
          exact h2.kept ((Kept.refl (fun _ => False) _).grown hgrow (fun k h => by cases h)) (fun h => h)
        obtain ⟨hlen, hown2⟩ := hown
        rcases hown2 with ⟨h, _⟩ | ⟨g, cap, cur, hv, hge, hrow, h4, h5, h6, h7⟩
        · cases h
        · cases hv
          have hCR : R ≠ C := by have := hRm.lt; simp at hge; omega
          have hCb : W.heap.size ≠ C := by have := hL1.lt; simp at hge; omega
          have hCK : W1.heap.size ≠ C := by simp at hge; omega
          have hRow : Row w' C 40 cur.toList := by unfold Row; simpa using hrow
          refine ⟨C, cc, cur.toList, ⟨hR2.set 21 _, hRow.other R 21 _ (Ne.symm hCR), hL2.other R 21 _ (by omega), ?_, hK2.setCell (fun _ => rfl) _⟩, ?_, by simp at hge; omega, hR1.lt⟩
          · refine hB2.kept (p := fun k => k = R) ((Kept.refl (fun k => k = R) _).setCell (fun _ => rfl) _) (by have := hR1.lt; omega)
          · have h8 : (cur.toList.take ((0 + 1) * 1))[0]? = some (Value.slice (some ⟨W1.heap.size, 0, none⟩) 0 4096) := by rw [h7]; rfl
            simpa using h8
  case rest =>
    obtain ⟨C, cc, ys, hA, hy0, hKC, hRK⟩ := hcut
    have hRb : R ≠ W.heap.size := by omega
    clear hR1 hK1 c21 c22 f21 hRl hR
    have hbl := hL1.lt
    clear hL1
    generalize hKK : W1.heap.size = K at hA hy0 hKC hbl hRK
    clear hKK
    generalize hxs : xs.set 21 (.slice (some ⟨C, 0, none⟩) 1 cc) = xs1 at hA
    have k21 : xs1[21]? = some (.slice (some ⟨C, 0, none⟩) 1 cc) := by rw [← hxs]; exact set_same h21
    have k22 : xs1[22]? = some (.int .i64 0) := by rw [← hxs]; exact (set_ne (by decide)).trans h22
    have c21 := (hA.row.cell 21).trans k21
    have c22 := (hA.row.cell 22).trans k22
    have cC := (hA.chunks.cell 0).trans hy0
    have fC := hA.chunks.frozen 0
    have f22 := hA.row.frozen 22
    have hRC : R ≠ C := by omega
    go_wp2_with fail
    refine still_tail 20 mixed (by kernel_rfl) ?_
    simp only [List.take_succ_cons, List.take_zero, List.drop_succ_cons, List.drop_zero]
    repeat still_step
    try refine wpStill_nil ?_
    go_wp2_with fail
    generalize hW5 : World.drew (World.setCell _ _ _) = w5
    have hCR : C ≠ R := by omega
    have hCK : C ≠ K := by omega
    have hbK : W.heap.size ≠ K := by omega
    have hRK' : R ≠ K := by omega
    have hbC : W.heap.size ≠ C := by omega
    have hKp : K < W.heap.size → K = R := fun h => by omega
    generalize hxs2 : xs1.set 22 (.int .i64 1) = xs2
    generalize hys1 : ys.set 0 (.slice (some ⟨K, 0, none⟩) 0 4096) = ys1
    have hy1 : ys1[0]? = some (.slice (some ⟨K, 0, none⟩) 0 4096) := by rw [← hys1]; exact set_same hy0
    have h5 : At (fun k => k = R) W W.heap.size R C K W.heap.size xs2 ys1 l c i d 0 w5 := by
      rw [← hW5, ← hxs2, ← hys1]
      refine ⟨((hA.row.other C 0 _ hRC).set 22 _).drew, ((hA.chunks.set 0 _).other R 22 _ hCR).drew, ((hA.line.other C 0 _ hbC).other R 22 _ (Ne.symm hRb)).drew, ?_, ((hA.kept.setCell (fun h => by omega) _).setCell (fun _ => rfl) _).drew⟩
      exact hA.buf.kept (p := fun k => k = R ∨ k = C) ((((Kept.refl _ _).setCell (fun _ => .inr rfl) _).setCell (fun _ => .inl rfl) _).drew) (by omega)
    have q21 := k21
    clear k21
    have k21 : xs2[21]? = some (.slice (some ⟨C, 0, none⟩) 1 cc) := by rw [← hxs2]; exact (set_ne (by decide)).trans q21
    have q22 := k22
    clear k22
    have k22 : xs2[22]? = some (.int .i64 1) := by rw [← hxs2]; exact set_same q22
    have kk : ∀ {j : Nat} {v : Value}, 21 ≠ j → 22 ≠ j → xs[j]? = some v → xs2[j]? = some v := fun e1 e2 h => by rw [← hxs2, ← hxs]; exact ((set_ne e2).trans (set_ne e1)).trans h
    have k23 := kk (by decide) (by decide) h23
    have k24 := kk (by decide) (by decide) h24
    have k25 := kk (by decide) (by decide) h25
    have k26 := kk (by decide) (by decide) h26
    have k27 := kk (by decide) (by decide) h27
    have k28 := kk (by decide) (by decide) h28
    have k29 := kk (by decide) (by decide) h29
    have k30 := kk (by decide) (by decide) h30
    subst hxs
    clear kk q21 q22 c21 c22 cC fC f22 hA hW5 h21 h22 h23 h24 h25 h26 h27 h28 h29 h30 hys1 hy0
    have c21 := (h5.row.cell 21).trans k21
    have c22 := (h5.row.cell 22).trans k22
    have c27 := (h5.row.cell 27).trans k27
    have cC := (h5.chunks.cell 0).trans hy1
    have b0 : w5.cell? ⟨W.heap.size, 0, none⟩ = some (.int .i64 l) := h5.line.cell 0
    have b1 : w5.cell? ⟨W.heap.size, 1, none⟩ = some (.int .i64 c) := h5.line.cell 1
    have b2 : w5.cell? ⟨W.heap.size, 2, none⟩ = some (.int .i64 i) := h5.line.cell 2
    go_quiet (fail)
    go_wp2_with fail
    go_quiet (fail)
    go_wp2_with fail
    rotate_left
    · refine (uvarI W.heap.size K 0 _ (ru_bits _ _ _) _ (h5.drewN _).buf (by omega)).mono ?_
      rintro _ w1 ⟨n1, rfl, hn1, hb1, hk1⟩
      have h1 := (h5.drewN _).step hk1 hb1 hRK' hCK hbK hKp
      clear h5 hk1 hb1 c21 c22 c27 cC b0 b1 b2
      go_wp2_with fail
      refine (uvarI W.heap.size K n1 _ (ru_wrap _) _ h1.buf (by omega)).mono ?_
      rintro _ w2 ⟨n2, rfl, hn2, hb2, hk2⟩
      have h2 := h1.step hk2 hb2 hRK' hCK hbK hKp
      have hn2' : n2 ≤ 20 := by omega
      clear h1 hk2 hb2 hn1 hn2
      have b2 : w2.cell? ⟨W.heap.size, 2, none⟩ = some (.int .i64 i) := h2.line.cell 2
      go_wp2_with fail
      refine (uvarI W.heap.size K n2 _ (ru_wrap _) _ h2.buf (by omega)).mono ?_
      rintro _ w3 ⟨n3, rfl, hn3, hb3, hk3⟩
      have h3 := h2.step hk3 hb3 hRK' hCK hbK hKp
      clear h2 hk3 hb3 b2
      have b3 : w3.cell? ⟨W.heap.size, 3, none⟩ = some (.int .i64 d) := h3.line.cell 3
      have c30 := (h3.row.cell 30).trans k30
      go_wp2_with fail
      refine still_tail 9 mixed (by kernel_rfl) ?_
      simp only [List.take_succ_cons, List.take_zero, List.drop_succ_cons, List.drop_zero]
      repeat still_step
      try refine wpStill_nil ?_
      go_wp2_with fail
      refine (varI W.heap.size K n3 _ (ri_wrap _) _ h3.drew.buf (by omega)).mono ?_
      rintro _ w4 ⟨n4, rfl, hn4, hb4, hk4⟩
      have h4 := h3.drew.step hk4 hb4 hRK' hCK hbK hKp
      clear h3 hk4 hb4 b3 c30
      have c21 := (h4.row.cell 21).trans k21
      have c22 := (h4.row.cell 22).trans k22
      have c23 := (h4.row.cell 23).trans k23
      have cC := (h4.chunks.cell 0).trans hy1
      have fC := h4.chunks.frozen 0
      have b0 : w4.cell? ⟨W.heap.size, 0, none⟩ = some (.int .i64 l) := h4.line.cell 0
      have b1 : w4.cell? ⟨W.heap.size, 1, none⟩ = some (.int .i64 c) := h4.line.cell 1
      have b2 : w4.cell? ⟨W.heap.size, 2, none⟩ = some (.int .i64 i) := h4.line.cell 2
      have b3 : w4.cell? ⟨W.heap.size, 3, none⟩ = some (.int .i64 d) := h4.line.cell 3
      have c24 := (h4.row.cell 24).trans k24
      have c25 := (h4.row.cell 25).trans k25
      have c26 := (h4.row.cell 26).trans k26
      have c27 := (h4.row.cell 27).trans k27
      have c28 := (h4.row.cell 28).trans k28
      have c29 := (h4.row.cell 29).trans k29
      have c30 := (h4.row.cell 30).trans k30
      have f23 := h4.row.frozen 23
      have f24 := h4.row.frozen 24
      have f25 := h4.row.frozen 25
      have f26 := h4.row.frozen 26
      have f27 := h4.row.frozen 27
      have f28 := h4.row.frozen 28
      have f29 := h4.row.frozen 29
      have f30 := h4.row.frozen 30
      go_wp2_with fail
      refine still_tail 11 mixed (by kernel_rfl) ?_
      simp only [List.take_succ_cons, List.take_zero, List.drop_succ_cons, List.drop_zero]
      repeat still_step
      try refine wpStill_nil ?_
      go_wp2_with fail
      go_end0
      refine ⟨rfl, C, K, n4, cc, ys1.set 0 (.slice (some ⟨K, 0, none⟩) n4 4096), ?_, ?_, ?_, ?_, by omega, hbl, hKC, ?_⟩
      · rw [hxs2]
        exact Row.drew (((((((((h4.row.other C 0 _ hRC).set 23 _).set 24 _).set 25 _).set 26 _).set 27 _).set 28 _).set 29 _).set 30 _)
      · exact Row.drew (((((((((h4.chunks.set 0 _).other R 23 _ hCR).other R 24 _ hCR).other R 25 _ hCR).other R 26 _ hCR).other R 27 _ hCR).other R 28 _ hCR).other R 29 _ hCR).other R 30 _ hCR)
      · exact set_same hy1
      · refine h4.buf.kept (p := fun k => k = R ∨ k = C) (Kept.drew ?_) (by omega)
        exact ((((((((((Kept.refl _ _).setCell (fun _ => .inr rfl) _).setCell (fun _ => .inl rfl) _).setCell (fun _ => .inl rfl) _).setCell (fun _ => .inl rfl) _).setCell (fun _ => .inl rfl) _).setCell (fun _ => .inl rfl) _).setCell (fun _ => .inl rfl) _).setCell (fun _ => .inl rfl) _).setCell (fun _ => .inl rfl) _)
      · refine Kept.drew ?_
        exact (((((((((h4.kept.setCell (fun h => by omega) _).setCell (fun _ => rfl) _).setCell (fun _ => rfl) _).setCell (fun _ => rfl) _).setCell (fun _ => rfl) _).setCell (fun _ => rfl) _).setCell (fun _ => rfl) _).setCell (fun _ => rfl) _).setCell (fun _ => rfl) _)
    · refine (uvarI W.heap.size K 0 _ (ru_wrap _) _ (h5.drewN _).buf (by omega)).mono ?_
      rintro _ w2 ⟨n2, rfl, hn2, hb2, hk2⟩
      have h2 := (h5.drewN _).step hk2 hb2 hRK' hCK hbK hKp
      have hn2' : n2 ≤ 20 := by omega
      clear h5 hk2 hb2 hn2 c21 c22 c27 cC b0 b1 b2
      have b2 : w2.cell? ⟨W.heap.size, 2, none⟩ = some (.int .i64 i) := h2.line.cell 2
      go_wp2_with fail
      refine (uvarI W.heap.size K n2 _ (ru_wrap _) _ h2.buf (by omega)).mono ?_
      rintro _ w3 ⟨n3, rfl, hn3, hb3, hk3⟩
      have h3 := h2.step hk3 hb3 hRK' hCK hbK hKp
      clear h2 hk3 hb3 b2
      have b3 : w3.cell? ⟨W.heap.size, 3, none⟩ = some (.int .i64 d) := h3.line.cell 3
      have c30 := (h3.row.cell 30).trans k30
      go_wp2_with fail
      refine still_tail 9 mixed (by kernel_rfl) ?_
      simp only [List.take_succ_cons, List.take_zero, List.drop_succ_cons, List.drop_zero]
      repeat still_step
      try refine wpStill_nil ?_
      go_wp2_with fail
      refine (varI W.heap.size K n3 _ (ri_wrap _) _ h3.drew.buf (by omega)).mono ?_
      rintro _ w4 ⟨n4, rfl, hn4, hb4, hk4⟩
      have h4 := h3.drew.step hk4 hb4 hRK' hCK hbK hKp
      clear h3 hk4 hb4 b3 c30
      have c21 := (h4.row.cell 21).trans k21
      have c22 := (h4.row.cell 22).trans k22
      have c23 := (h4.row.cell 23).trans k23
      have cC := (h4.chunks.cell 0).trans hy1
      have fC := h4.chunks.frozen 0
      have b0 : w4.cell? ⟨W.heap.size, 0, none⟩ = some (.int .i64 l) := h4.line.cell 0
      have b1 : w4.cell? ⟨W.heap.size, 1, none⟩ = some (.int .i64 c) := h4.line.cell 1
      have b2 : w4.cell? ⟨W.heap.size, 2, none⟩ = some (.int .i64 i) := h4.line.cell 2
      have b3 : w4.cell? ⟨W.heap.size, 3, none⟩ = some (.int .i64 d) := h4.line.cell 3
      have c24 := (h4.row.cell 24).trans k24
      have c25 := (h4.row.cell 25).trans k25
      have c26 := (h4.row.cell 26).trans k26
      have c27 := (h4.row.cell 27).trans k27
      have c28 := (h4.row.cell 28).trans k28
      have c29 := (h4.row.cell 29).trans k29
      have c30 := (h4.row.cell 30).trans k30
      have f23 := h4.row.frozen 23
      have f24 := h4.row.frozen 24
      have f25 := h4.row.frozen 25
      have f26 := h4.row.frozen 26
      have f27 := h4.row.frozen 27
      have f28 := h4.row.frozen 28
      have f29 := h4.row.frozen 29
      have f30 := h4.row.frozen 30
      go_wp2_with fail
      refine still_tail 11 mixed (by kernel_rfl) ?_
      simp only [List.take_succ_cons, List.take_zero, List.drop_succ_cons, List.drop_zero]
      repeat still_step
      try refine wpStill_nil ?_
      go_wp2_with fail
      go_end0
      refine ⟨rfl, C, K, n4, cc, ys1.set 0 (.slice (some ⟨K, 0, none⟩) n4 4096), ?_, ?_, ?_, ?_, by omega, hbl, hKC, ?_⟩
      · rw [hxs2]
        exact Row.drew (((((((((h4.row.other C 0 _ hRC).set 23 _).set 24 _).set 25 _).set 26 _).set 27 _).set 28 _).set 29 _).set 30 _)
      · exact Row.drew (((((((((h4.chunks.set 0 _).other R 23 _ hCR).other R 24 _ hCR).other R 25 _ hCR).other R 26 _ hCR).other R 27 _ hCR).other R 28 _ hCR).other R 29 _ hCR).other R 30 _ hCR)
      · exact set_same hy1
      · refine h4.buf.kept (p := fun k => k = R ∨ k = C) (Kept.drew ?_) (by omega)
        exact ((((((((((Kept.refl _ _).setCell (fun _ => .inr rfl) _).setCell (fun _ => .inl rfl) _).setCell (fun _ => .inl rfl) _).setCell (fun _ => .inl rfl) _).setCell (fun _ => .inl rfl) _).setCell (fun _ => .inl rfl) _).setCell (fun _ => .inl rfl) _).setCell (fun _ => .inl rfl) _).setCell (fun _ => .inl rfl) _)
      · refine Kept.drew ?_
        exact (((((((((h4.kept.setCell (fun h => by omega) _).setCell (fun _ => rfl) _).setCell (fun _ => rfl) _).setCell (fun _ => rfl) _).setCell (fun _ => rfl) _).setCell (fun _ => rfl) _).setCell (fun _ => rfl) _).setCell (fun _ => rfl) _).setCell (fun _ => rfl) _)
end Go.Proofs.YbulkbgveFmt
