import Derived.Test.YbulkbgyyWhole1
namespace Go.Proofs.Ybulkbgyy
open Go.RowKit Go.Shelf
attribute [local go_sem] Oper.semAt_some

theorem model_none (g P p : Nat) (w : World) :
    Calls Yba.prog 16 #[.slice (some ⟨g, 0, none⟩) 0 0, .int .i64 P, .int .i64 p] w fun e w' => e = .returned (.slice none 0 0) ∧ Below w.heap.size w w' := by
  have hmk : ∀ W : World, (Instr.makeSlice 76 (.int .i64 0) (.int .i64 0)).run Yba.prog W = .ok (.slice (some ⟨W.heap.size, 0, none⟩) 0 0) (W.alloc (.cells #[] 4)) := fun _ => by kernel_rfl
  go_enter Yba.func16, Yba.ntmps16
  go_wp2
  refine wp_loop_rounds 1 ?_
  rw [rounds_succ]
  go_wp2
  go_ret
  exact ⟨rfl, (Below.refl _ _).alloc (Nat.le_refl _) _⟩

theorem iter_none (n g bm bp bP p : Nat) (w : World) (r : Loop) (cm : w.cell? ⟨bm, 0, none⟩ = some (.slice (some ⟨g, 0, none⟩) 0 0)) (cp : w.cell? ⟨bp, 0, none⟩ = some (.int .i64 p)) :
    CallsIn Fence.wide n Yba.prog 22 (#[.func (.yield (w.heap.size + 1)) #[] #[]] ++ #[.pointer (some ⟨bm, 0, none⟩), .pointer (some ⟨bp, 0, none⟩), .pointer (some ⟨bP, 0, none⟩)]) ((w.alloc (.deferred (some []))).alloc (.loop r)) fun e W =>
      (∃ v, e = .returned v) ∧ W.heap[w.heap.size + 1]? = some (.loop r) ∧ W.heap[w.heap.size]? = some (.deferred (some [])) ∧ Below w.heap.size w W := by
  have lm := lt_of_cell cm
  have lp := lt_of_cell cp
  refine walk_none n (w.heap.size + 1) g bm bp bP p (fun W => W.heap[w.heap.size + 1]? = some (.loop r) ∧ W.heap[w.heap.size]? = some (.deferred (some [])) ∧ Below w.heap.size w W) _ ?_ ?_ (fun q => ⟨?_, ?_, ?_⟩)
  · exact (World.cell?_alloc_past _ _ _ (by simp; omega)).trans ((World.cell?_alloc_past _ _ _ lm).trans cm)
  · exact (World.cell?_alloc_past _ _ _ (by simp; omega)).trans ((World.cell?_alloc_past _ _ _ lp).trans cp)
  · exact (Below.heap_alloc _ _ _ (by simp)).trans (by have := World.alloc_heap_new (w.alloc (.deferred (some []))) (.loop r); simpa using this)
  · exact (Below.heap_alloc _ _ _ (by simp; omega)).trans ((Below.heap_alloc _ _ _ (by simp)).trans (World.alloc_heap_new w _))
  · exact below_drewN ((((Below.refl _ _).alloc (Nat.le_refl _) _).alloc (by simp) _).alloc (by simp; omega) _) _

set_option maxRecDepth 100000 in
set_option maxHeartbeats 2000000 in
theorem whole_zero (a : Option Addr) (cap : Nat) (ex pu : Nat) (w : World) (hex : ex ≤ 255) (hpu : pu ≤ 18446744073709551615) (hz : ex = 0) :
    Calls Yba.prog 5 #[.slice a 0 cap, .int .u8 ex, .int .u64 pu] w fun e w' => e = .returned (.bool true) ∧ Below w.heap.size w w' := by
  have HM := hide' (members_none a cap w)
  subst hz
  obtain ⟨p, hp⟩ : ∃ p : Nat, p = pu % 2 := ⟨_, rfl⟩
  have hp2 : p < 2 := by rw [hp]; exact Nat.mod_lt _ (by omega)
  have ep : (pu : Int) % 2 = (p : Int) := by rw [hp]; push_cast; rfl
  clear hp
  refine (callsIn_wide (n := 5)).1 ?_
  refine callsIn_of_wp_marks Yba.func5 rfl trivial ?_ rfl
  simp only [Yba.ntmps5, List.size_toArray, List.length_cons, List.length_nil, Nat.reduceAdd, Nat.reduceSub, Array.replicate_succ, Array.replicate_zero, List.push_toArray, List.append_toArray, List.nil_append, List.cons_append]
  gi_wp2_with fail
  refine ⟨trivial, (callsIn_wide.2 HM.out).mono ?_⟩
  rintro e w1 ⟨rfl, hrow, hbel⟩
  gi_wp2_with fail
  refine ⟨trivial, (callsIn_wide.2 (walk_any _ _ _ _ _ _)).mono ?_⟩
  rintro e w2 ⟨rfl, rfl⟩
  gi_wp2_with fail
  have hgw : w.heap.size < w1.heap.size := hrow.lt
  obtain ⟨W2, hW2⟩ : ∃ W2, W2 = ((((w1.alloc (.cells #[.slice none 0 0] 59)).alloc (.cells #[.slice (some ⟨w.heap.size, 0, none⟩) 0 0] 59)).alloc (.cells #[.int .i64 1] 3)).alloc (.cells #[.int .i64 p] 3)) := ⟨_, rfl⟩
  rw [← hW2]
  have cl : W2.cell? ⟨w1.heap.size, 0, none⟩ = some (.slice none 0 0) := by rw [hW2]; simp [go_sem]
  have cm : W2.cell? ⟨w1.heap.size + 1, 0, none⟩ = some (.slice (some ⟨w.heap.size, 0, none⟩) 0 0) := by rw [hW2]; simp [go_sem]
  have cp : W2.cell? ⟨w1.heap.size + 1 + 1 + 1, 0, none⟩ = some (.int .i64 p) := by rw [hW2]; simp [go_sem]
  have hb2 : Below w.heap.size w W2 := by rw [hW2]; exact (((hbel.alloc (by omega) _).alloc (by simp; omega) _).alloc (by simp; omega) _).alloc (by simp; omega) _
  have hz2 : w1.heap.size + 4 ≤ W2.heap.size := by rw [hW2]; simp
  clear hW2 hrow hbel
  refine range_wide (gf := 22) (lb := #[.pointer (some ⟨w1.heap.size + 1, 0, none⟩), .pointer (some ⟨w1.heap.size + 1 + 1 + 1, 0, none⟩), .pointer (some ⟨w1.heap.size + 1 + 1, 0, none⟩)]) rfl (enters_of Yba.func22 (by kernel_rfl) rfl) fun fn => ?_
  refine (iter_none 4 w.heap.size (w1.heap.size + 1) (w1.heap.size + 1 + 1 + 1) (w1.heap.size + 1 + 1) p W2 _ cm cp).mono ?_
  · rintro e W3 ⟨⟨v, rfl⟩, hbk, hdf, hb3⟩
    refine ⟨none, _, run_endLoop (P := Yba.prog) hbk (by intro e; exact ready_ne e), ?_⟩
    have hsz3 : W2.heap.size + 1 < W3.heap.size := (Array.getElem?_eq_some_iff.1 hbk).1
    generalize hW4 : World.putObj W3 (W2.heap.size + 1) _ = W4
    have hsz4 : W2.heap.size + 1 < W4.heap.size := by rw [← hW4, size_put]; exact hsz3
    have c4 : W4.cell? ⟨w1.heap.size, 0, none⟩ = some (.slice none 0 0) := by rw [← hW4]; exact (cell_put _ (by omega)).trans ((hb3.cell (p := ⟨w1.heap.size, 0, none⟩) (by show w1.heap.size < W2.heap.size; omega)).trans cl)
    have hd4 : W4.heap[W2.heap.size]? = some (.deferred (some [])) := by rw [← hW4]; exact (heap_put_other _ (by omega)).trans hdf
    have hb4 : Below w.heap.size w W4 := by
      rw [← hW4]
      exact below_put (hb2.trans (hb3.mono (by omega))) (by omega) _
    have HD4 := hide' hd4
    have HB4 := hide' hb4
    clear hW4 hd4 hb4 hb2 hb3 hbk hdf cm cp cl
    have HM4 := hide' (model_none w.heap.size 1 p W4.drew)
    have hmx : Yba.prog.follows .mixedOrders = true := by kernel_rfl
    have c5of : ∀ {w5 : World}, Below W4.drew.heap.size W4.drew w5 → w5.cell? ⟨w1.heap.size, 0, none⟩ = some (.slice none 0 0) := fun hb => (hb.cell (p := ⟨w1.heap.size, 0, none⟩) (by show w1.heap.size < W4.heap.size; omega)).trans c4
    gi_wp2
    refine wpIn_calm ?_
    gi_region_with_o (first
      | (refine ⟨trivial, ?_⟩; gi_at_call 16; refine (callsIn_wide.2 HM4.out).mono ?_; rintro e w5 ⟨rfl, hbel5⟩; have c5 := c5of hbel5)
      | (refine ⟨trivial, ?_⟩; gi_at_call 15; refine (callsIn_wide.2 (eq_any (.slice none 0 0) (.slice none 0 0) [] _ (by simp) ⟨none, 0, rfl, .inl rfl⟩ ⟨none, 0, rfl, .inl rfl⟩)).mono ?_; rintro e w6 ⟨rfl, q6, rfl⟩))
    all_goals
      have hd5 : w5.heap[W2.heap.size]? = some (.deferred (some [])) := (hbel5.block _ (by show W2.heap.size < W4.heap.size; omega)).trans HD4.out
      have hb5 : Below w.heap.size w w5 := HB4.out.drew.trans (hbel5.mono (by show w.heap.size ≤ W4.heap.size; omega))
      have HD5 := hide' hd5
      have HB5 := hide' hb5
      clear hd5 hb5 hbel5
      gi_wp2
      refine ⟨by simp, .inl ⟨_, _, rfl, run_takeDeferred HD5.out, ?_⟩⟩
      exact ⟨_, results_tmp rfl _ _ _, rfl, below_put (below_drewN HB5.out _) (by omega) _⟩

set_option maxRecDepth 100000 in
set_option maxHeartbeats 2000000 in
theorem whole_some (a : Option Addr) (cap : Nat) (ex pu : Nat) (w : World) (hex : ex ≤ 255) (hpu : pu ≤ 18446744073709551615) (hz : 0 < ex) :
    Calls Yba.prog 5 #[.slice a 0 cap, .int .u8 ex, .int .u64 pu] w fun e w' => e = .returned (.bool true) ∧ Below w.heap.size w w' := by
  have HM := hide' (members_none a cap w)
  obtain ⟨p, hp⟩ : ∃ p : Nat, p = pu % (2 * ex) := ⟨_, rfl⟩
  have hp2 : p < 2 * ex := by rw [hp]; exact Nat.mod_lt _ (by omega)
  have ep : (pu : Int) % (2 * (ex : Int)) = (p : Int) := by rw [hp]; push_cast; rfl
  have hP0 : ((ex : Int) == 0) = false := by simp; omega
  clear hp
  refine (callsIn_wide (n := 5)).1 ?_
  refine callsIn_of_wp_marks Yba.func5 rfl trivial ?_ rfl
  simp only [Yba.ntmps5, List.size_toArray, List.length_cons, List.length_nil, Nat.reduceAdd, Nat.reduceSub, Array.replicate_succ, Array.replicate_zero, List.push_toArray, List.append_toArray, List.nil_append, List.cons_append]
  gi_wp2_with fail
  refine ⟨trivial, (callsIn_wide.2 HM.out).mono ?_⟩
  rintro e w1 ⟨rfl, hrow, hbel⟩
  gi_wp2_with fail
  refine ⟨trivial, (callsIn_wide.2 (walk_any _ _ _ _ _ _)).mono ?_⟩
  rintro e w2 ⟨rfl, rfl⟩
  gi_wp2_with fail
  have hgw : w.heap.size < w1.heap.size := hrow.lt
  obtain ⟨W2, hW2⟩ : ∃ W2, W2 = ((((w1.alloc (.cells #[.slice none 0 0] 59)).alloc (.cells #[.slice (some ⟨w.heap.size, 0, none⟩) 0 0] 59)).alloc (.cells #[.int .i64 ex] 3)).alloc (.cells #[.int .i64 p] 3)) := ⟨_, rfl⟩
  rw [← hW2]
  have cl : W2.cell? ⟨w1.heap.size, 0, none⟩ = some (.slice none 0 0) := by rw [hW2]; simp [go_sem]
  have cm : W2.cell? ⟨w1.heap.size + 1, 0, none⟩ = some (.slice (some ⟨w.heap.size, 0, none⟩) 0 0) := by rw [hW2]; simp [go_sem]
  have cp : W2.cell? ⟨w1.heap.size + 1 + 1 + 1, 0, none⟩ = some (.int .i64 p) := by rw [hW2]; simp [go_sem]
  have hb2 : Below w.heap.size w W2 := by rw [hW2]; exact (((hbel.alloc (by omega) _).alloc (by simp; omega) _).alloc (by simp; omega) _).alloc (by simp; omega) _
  have hz2 : w1.heap.size + 4 ≤ W2.heap.size := by rw [hW2]; simp
  clear hW2 hrow hbel
  refine range_wide (gf := 22) (lb := #[.pointer (some ⟨w1.heap.size + 1, 0, none⟩), .pointer (some ⟨w1.heap.size + 1 + 1 + 1, 0, none⟩), .pointer (some ⟨w1.heap.size + 1 + 1, 0, none⟩)]) rfl (enters_of Yba.func22 (by kernel_rfl) rfl) fun fn => ?_
  refine (iter_none 4 w.heap.size (w1.heap.size + 1) (w1.heap.size + 1 + 1 + 1) (w1.heap.size + 1 + 1) p W2 _ cm cp).mono ?_
  · rintro e W3 ⟨⟨v, rfl⟩, hbk, hdf, hb3⟩
    refine ⟨none, _, run_endLoop (P := Yba.prog) hbk (by intro e; exact ready_ne e), ?_⟩
    have hsz3 : W2.heap.size + 1 < W3.heap.size := (Array.getElem?_eq_some_iff.1 hbk).1
    generalize hW4 : World.putObj W3 (W2.heap.size + 1) _ = W4
    have hsz4 : W2.heap.size + 1 < W4.heap.size := by rw [← hW4, size_put]; exact hsz3
    have c4 : W4.cell? ⟨w1.heap.size, 0, none⟩ = some (.slice none 0 0) := by rw [← hW4]; exact (cell_put _ (by omega)).trans ((hb3.cell (p := ⟨w1.heap.size, 0, none⟩) (by show w1.heap.size < W2.heap.size; omega)).trans cl)
    have hd4 : W4.heap[W2.heap.size]? = some (.deferred (some [])) := by rw [← hW4]; exact (heap_put_other _ (by omega)).trans hdf
    have hb4 : Below w.heap.size w W4 := by
      rw [← hW4]
      exact below_put (hb2.trans (hb3.mono (by omega))) (by omega) _
    have HD4 := hide' hd4
    have HB4 := hide' hb4
    clear hW4 hd4 hb4 hb2 hb3 hbk hdf cm cp cl
    have HM4 := hide' (model_none w.heap.size ex p W4.drew)
    have hmx : Yba.prog.follows .mixedOrders = true := by kernel_rfl
    have c5of : ∀ {w5 : World}, Below W4.drew.heap.size W4.drew w5 → w5.cell? ⟨w1.heap.size, 0, none⟩ = some (.slice none 0 0) := fun hb => (hb.cell (p := ⟨w1.heap.size, 0, none⟩) (by show w1.heap.size < W4.heap.size; omega)).trans c4
    gi_wp2
    refine wpIn_calm ?_
    gi_region_with_o (first
      | (refine ⟨trivial, ?_⟩; gi_at_call 16; refine (callsIn_wide.2 HM4.out).mono ?_; rintro e w5 ⟨rfl, hbel5⟩; have c5 := c5of hbel5)
      | (refine ⟨trivial, ?_⟩; gi_at_call 15; refine (callsIn_wide.2 (eq_any (.slice none 0 0) (.slice none 0 0) [] _ (by simp) ⟨none, 0, rfl, .inl rfl⟩ ⟨none, 0, rfl, .inl rfl⟩)).mono ?_; rintro e w6 ⟨rfl, q6, rfl⟩))
    all_goals
      have hd5 : w5.heap[W2.heap.size]? = some (.deferred (some [])) := (hbel5.block _ (by show W2.heap.size < W4.heap.size; omega)).trans HD4.out
      have hb5 : Below w.heap.size w w5 := HB4.out.drew.trans (hbel5.mono (by show w.heap.size ≤ W4.heap.size; omega))
      have HD5 := hide' hd5
      have HB5 := hide' hb5
      clear hd5 hb5 hbel5
      gi_wp2
      refine ⟨by simp, .inl ⟨_, _, rfl, run_takeDeferred HD5.out, ?_⟩⟩
      exact ⟨_, results_tmp rfl _ _ _, rfl, below_put (below_drewN HB5.out _) (by omega) _⟩

end Go.Proofs.Ybulkbgyy
