import Derived.Test.YbulkbgyyColl
import Derived.Shelf.RegionOpen
namespace Go.Proofs.Ybulkbgyy
open Go.RowKit Go.Shelf
attribute [local go_sem] Oper.semAt_some

theorem wpIn_calm {c : Code} {F : Fence} {n : Nat} {P : Program} {K : Act → World → Prop} {Q : Exit → Act → World → Prop} {a : Act} {w : World} (h : c.wpIn F n P (Exit.then K (fun _ _ _ => False)) a w) : c.wpIn F n P (Exit.then K Q) a w :=
  wpIn_mono h (by intro e a w hq; cases e <;> first | exact hq | exact hq.elim)

theorem below_put {B : Nat} {a W : World} (h : Below B a W) {q : Nat} (hq : B ≤ q) (o : Obj) : Below B a (W.putObj q o) :=
  ⟨h.os, h.tape, h.output, by rw [size_put]; exact h.size, fun k hk => (heap_put_other o (by omega)).trans (h.block k hk)⟩

theorem ready_ne : ¬ (LoopState.ready = LoopState.busy) := by intro e; cases e
theorem after_one {W w1 : World} {A : Obj} {row : Option Nat} {q : Nat} (hg : (W.alloc A).grownBy w1 row) (hq : q < W.heap.size) (hne : some q ≠ row) : w1.cell? ⟨q, 0, none⟩ = W.cell? ⟨q, 0, none⟩ := by
  apply World.cell?_of_block
  exact (hg.block q (by simp; omega) hne).trans (Below.heap_alloc _ _ _ hq)
theorem after_onef {W w1 : World} {A : Obj} {row : Option Nat} {q : Nat} (hg : (W.alloc A).grownBy w1 row) (hq : q < W.heap.size) (hne : some q ≠ row) : w1.frozen? ⟨q, 0, none⟩ = W.frozen? ⟨q, 0, none⟩ := by
  apply World.frozen?_of_block
  exact (hg.block q (by simp; omega) hne).trans (Below.heap_alloc _ _ _ hq)

set_option maxRecDepth 100000 in
set_option maxHeartbeats 2000000 in
theorem whole_more (b off n cap : Nat) (ss : List ByteArray) (ex pu : Nat) (w : World) (h0 : 0 < n) (hn : n ≤ 1024) (hex : ex ≤ 255) (hpu : pu ≤ 18446744073709551615)
    (hc : ∀ i, i < n → w.cell? ⟨b, off + i, none⟩ = some (.string (ss.getD i ByteArray.empty))) :
    Calls Yba.prog 5 #[.slice (some ⟨b, off, none⟩) n cap, .int .u8 ex, .int .u64 pu] w fun e w' => e = .returned (.bool true) ∧ Below w.heap.size w w' := by
  have HM := hide' (members_any b off n cap ss w h0 hn hc)
  obtain ⟨P, hP⟩ : ∃ P : Nat, P = n + ex := ⟨_, rfl⟩
  obtain ⟨p, hp⟩ : ∃ p : Nat, p = pu % (2 * P) := ⟨_, rfl⟩
  have hp2 : p < 2 * P := by rw [hp]; exact Nat.mod_lt _ (by omega)
  have hPn : n ≤ P := by omega
  have hP3 : P ≤ 1279 := by omega
  have hP0 : ((P : Int) == 0) = false := by simp; omega
  have eP : (n : Int) + (ex : Int) = (P : Int) := by omega
  have ep : (pu : Int) % (2 * (P : Int)) = (p : Int) := by rw [hp]; push_cast; rfl
  clear hc hP hp
  refine (callsIn_wide (n := 5)).1 ?_
  refine callsIn_of_wp_marks Yba.func5 rfl trivial ?_ rfl
  simp only [Yba.ntmps5, List.size_toArray, List.length_cons, List.length_nil, Nat.reduceAdd, Nat.reduceSub, Array.replicate_succ, Array.replicate_zero, List.push_toArray, List.append_toArray, List.nil_append, List.cons_append]
  gi_wp2_with fail
  refine ⟨trivial, (callsIn_wide.2 HM.out).mono ?_⟩
  rintro e w1 ⟨rfl, L, hL, hrow, hbel⟩
  gi_wp2_with fail
  refine ⟨trivial, (callsIn_wide.2 (walk_any _ _ _ _ _ _)).mono ?_⟩
  rintro e w2 ⟨rfl, rfl⟩
  gi_wp2_with fail
  have hgw : w.heap.size < w1.heap.size := hrow.lt
  obtain ⟨W2, hW2⟩ : ∃ W2, W2 = ((((w1.alloc (.cells #[.slice none 0 0] 59)).alloc (.cells #[.slice (some ⟨w.heap.size, 0, none⟩) n n] 59)).alloc (.cells #[.int .i64 P] 3)).alloc (.cells #[.int .i64 p] 3)) := ⟨_, rfl⟩
  rw [← hW2]
  have cl : W2.cell? ⟨w1.heap.size, 0, none⟩ = some (.slice none 0 0) := by rw [hW2]; simp [go_sem]
  have fl : W2.frozen? ⟨w1.heap.size, 0, none⟩ = false := by rw [hW2]; simp [go_sem]
  have cm : W2.cell? ⟨w1.heap.size + 1, 0, none⟩ = some (.slice (some ⟨w.heap.size, 0, none⟩) n n) := by rw [hW2]; simp [go_sem]
  have cP : W2.cell? ⟨w1.heap.size + 1 + 1, 0, none⟩ = some (.int .i64 P) := by rw [hW2]; simp [go_sem]
  have cp : W2.cell? ⟨w1.heap.size + 1 + 1 + 1, 0, none⟩ = some (.int .i64 p) := by rw [hW2]; simp [go_sem]
  have hrow2 : Row W2 w.heap.size 65 (flat L) := by rw [hW2]; exact (((hrow.alloc _).alloc _).alloc _).alloc _
  have hb2 : Below w.heap.size w W2 := by rw [hW2]; exact (((hbel.alloc (by omega) _).alloc (by simp; omega) _).alloc (by simp; omega) _).alloc (by simp; omega) _
  have hz2 : w1.heap.size + 4 ≤ W2.heap.size := by rw [hW2]; simp
  clear hW2 hrow hbel
  refine range_wide (gf := 22) (lb := #[.pointer (some ⟨w1.heap.size + 1, 0, none⟩), .pointer (some ⟨w1.heap.size + 1 + 1 + 1, 0, none⟩), .pointer (some ⟨w1.heap.size + 1 + 1, 0, none⟩)]) rfl (enters_of Yba.func22 (by kernel_rfl) rfl) fun fn => ?_
  refine (iter_run 4 w1.heap.size w.heap.size (w1.heap.size + 1) (w1.heap.size + 1 + 1 + 1) (w1.heap.size + 1 + 1) n L P p W2 _ hL h0 hn hPn hP3 hp2 hrow2 cm cp cP cl fl (by omega) (by omega) (by omega) (by omega) ?_).mono ?_
  · intro os o ho W hos hC
    have hy := run_yield (P := Yba.prog) (args := #[.agg #[.string L[o].1, .string L[o].2]]) hC.book rfl
    refine ⟨_, _, _, _, hy, roundIn_of_wpIn trivial ?_⟩
    clear hy
    have hlw2 : w1.heap.size < W2.heap.size := by omega
    obtain ⟨v, hv, hown⟩ := hC.log
    obtain ⟨va, vc, rfl⟩ := owns_form hown
    have hfr := hC.free
    have hsz : W2.heap.size + 2 < W.heap.size := hC.seen.lt
    have hbk : (W.alloc (.cells #[.string L[o].1, .string L[o].2] 65)).heap[W2.heap.size + 1]? = _ := (Below.heap_alloc _ _ _ (by omega)).trans hC.book
    have hbeg := run_beginRound (P := Yba.prog) hbk rfl
    dsimp only
    dsimp only at hbeg
    have HBG := hide' hbeg
    have HC := hide' hC
    have HO := hide' hown
    clear hbeg hbk hC hown
    gi_wp2
    refine ⟨_, HBG.out, ?_⟩
    clear HBG
    obtain ⟨i0, hi, hz0, hz1, hzb⟩ := info_parts info65
    change Code.wpIn _ _ _ _ _ _ (inBody W2.heap.size W (.cells #[.string L[o].1, .string L[o].2] 65) _)
    generalize hWb : inBody W2.heap.size W (.cells #[.string L[o].1, .string L[o].2] 65) _ = Wb
    have cb : Wb.cell? ⟨w1.heap.size, 0, none⟩ = some (.slice va os.length vc) := by rw [← hWb]; exact (cell_put _ (by omega)).trans ((World.cell?_alloc_past _ _ _ (by omega)).trans hv)
    have fb : Wb.frozen? ⟨w1.heap.size, 0, none⟩ = false := by rw [← hWb]; exact (frozen_put _ (by omega)).trans ((World.frozen?_alloc_past _ _ _ (by omega)).trans hfr)
    have b0 : Wb.cell? ⟨W.heap.size, 0, none⟩ = some (.string L[o].1) := by rw [← hWb]; exact (cell_put _ (by omega)).trans (World.cell?_alloc_at _ _ _ _ rfl)
    have b1 : Wb.cell? ⟨W.heap.size, 1, none⟩ = some (.string L[o].2) := by rw [← hWb]; exact (cell_put _ (by omega)).trans (World.cell?_alloc_at _ _ _ _ rfl)
    have hob : Wb.ownsRow (W2.heap.size + 3) 65 2 (.slice va os.length vc) os.length (flat (sel L os)) := by rw [← hWb]; exact owns_put (HO.out.alloc _) _ _ (by omega)
    have hzb2 : W.heap.size + 1 ≤ Wb.heap.size := by rw [← hWb]; unfold inBody; rw [size_put]; simp
    have HOB := hide' hob
    have HWb := hide' hWb
    clear hob hWb hv hfr
    have hlw : w1.heap.size < Wb.heap.size := by omega
    have hWw : W.heap.size < Wb.heap.size := by omega
    gi_wp2_with (gi_at_builtin; refine wpListIn_append_own _ rfl _ _ 59 rfl (W2.heap.size + 3) 65 i0 _ 2 32 Yba.underlying59 hi hz0 hz1 hzb rfl (by decide) _ os.length _ rfl (HOB.out.alloc _) ⟨Wb.heap.size, 0, none⟩ 1 1 [.string L[o].1, .string L[o].2] rfl rfl ?_ ?_ ?_ ?_ ?_ ?_; rotate_left 5; intro v' w3 hown' hgrow _; obtain ⟨va', vc', rfl⟩ := owns_form hown'; have hc3 := after_one hgrow hlw (fun e => by have := (HOB.out.lt _ e.symm).1; omega); have hf3 := after_onef hgrow hlw (fun e => by have := (HOB.out.lt _ e.symm).1; omega); rw [cb] at hc3; rw [fb] at hf3)
    · rw [← HWb.out] at hgrow
      obtain ⟨hrec, hfin⟩ := coll_give HC.out hlw2 ho HO.out hgrow hown'
      refine ⟨_, _, run_endRound (P := Yba.prog) none hrec, rfl, ?_⟩
      exact hfin
    · intro j u hj
      rcases j with _ | _ | j
      · simp at hj; subst hj; exact World.cell?_alloc_at _ _ _ _ (by simp)
      · simp at hj; subst hj; exact World.cell?_alloc_at _ _ _ _ (by simp)
      · simp at hj
    · intro u hu; simp at hu; rcases hu with rfl | rfl <;> rfl
    · unfold maxLen; omega
    · omega
    · simp; omega
  · rintro e W3 ⟨⟨v, rfl⟩, hC⟩
    refine ⟨none, _, run_endLoop (P := Yba.prog) hC.book (by intro e; exact ready_ne e), ?_⟩
    have hlen : (firsts n P p (P + 1)).length = n := firsts_full n P p h0 hPn
    obtain ⟨v, hv, hown⟩ := hC.log
    rw [hlen] at hown
    obtain ⟨gv, cv, rfl, hcv, _⟩ := owns_some hown h0
    generalize hW4 : W3.putObj (W2.heap.size + 1) _ = W4
    have hsz4 : W2.heap.size + 2 < W4.heap.size := by rw [← hW4, size_put]; exact hC.seen.lt
    have c4 : W4.cell? ⟨w1.heap.size, 0, none⟩ = some (.slice (some ⟨gv, 0, none⟩) n cv) := by rw [← hW4]; exact (cell_put _ (by omega)).trans hv
    have hown4 : W4.ownsRow (W2.heap.size + 3) 65 2 (.slice (some ⟨gv, 0, none⟩) n cv) n (flat (sel L (firsts n P p (P + 1)))) := by rw [← hW4]; exact owns_put hown _ _ (by omega)
    have hd4 : W4.heap[W2.heap.size]? = some (.deferred (some [])) := by rw [← hW4]; exact (heap_put_other _ (by omega)).trans hC.dfr
    have hrow4 : Row W4 w.heap.size 65 (flat L) := by rw [← hW4]; exact (heap_put_other _ (by omega)).trans ((hC.stays.block _ (by omega) (by omega)).trans hrow2)
    have hb4 : Below w.heap.size w W4 := by
      rw [← hW4]
      refine ⟨hC.stays.os.trans hb2.os, hC.stays.tape.trans hb2.tape, hC.stays.output.trans hb2.output, by rw [size_put]; have := hC.stays.size; omega, fun q hq => ?_⟩
      exact (heap_put_other _ (by omega)).trans ((hC.stays.block q (by omega) (by omega)).trans (hb2.block q hq))
    have HO4 := hide' hown4
    have HD4 := hide' hd4
    have HR4 := hide' hrow4
    have HB4 := hide' hb4
    clear hW4 hC hown hv hown4 hd4 hrow4 hb4 hb2 hrow2 cm cp cP cl fl hlen
    have HM4 := hide' (model_any w.heap.size n L P p W4.drew hL h0 hn hPn hP3 hp2 HR4.out)
    have hmx : Yba.prog.follows .mixedOrders = true := by kernel_rfl
    have hsl : (sel L (firsts n P p (P + 1))).length = n := by rw [sel_length]; exact firsts_full n P p h0 hPn
    have hsm : (sel L (firsts n P p (P + 1))).length ≤ 1024 := by omega
    have hsh5 : ∀ {w5 : World}, Below W4.drew.heap.size W4.drew w5 → Shows w5 (.slice (some ⟨gv, 0, none⟩) n cv) (sel L (firsts n P p (P + 1))) := fun hb => (shows_owns HO4.out hsl).later (fun q hq => hb.block q hq)
    have c5of : ∀ {w5 : World}, Below W4.drew.heap.size W4.drew w5 → w5.cell? ⟨w1.heap.size, 0, none⟩ = some (.slice (some ⟨gv, 0, none⟩) n cv) := fun hb => (hb.cell (p := ⟨w1.heap.size, 0, none⟩) (by show w1.heap.size < W4.heap.size; omega)).trans c4
    gi_wp2
    refine wpIn_calm ?_
    gi_region_with_o (first
      | (refine ⟨trivial, ?_⟩; gi_at_call 16; refine (callsIn_wide.2 HM4.out).mono ?_; rintro e w5 ⟨v5, rfl, hown5, hbel5⟩; have c5 := c5of hbel5)
      | (refine ⟨trivial, ?_⟩; gi_at_call 15; refine (callsIn_wide.2 (eq_any _ _ (sel L (firsts n P p (P + 1))) _ hsm (hsh5 hbel5) (shows_owns hown5 hsl))).mono ?_; rintro e w6 ⟨rfl, q6, rfl⟩))
    all_goals
      have hd5 : w5.heap[W2.heap.size]? = some (.deferred (some [])) := (hbel5.block _ (by show W2.heap.size < W4.heap.size; omega)).trans HD4.out
      have hb5 : Below w.heap.size w w5 := HB4.out.drew.trans (hbel5.mono (by show w.heap.size ≤ W4.heap.size; omega))
      have HD5 := hide' hd5
      have HB5 := hide' hb5
      clear hd5 hb5 hown5 hbel5
      gi_wp2
      refine ⟨by simp, .inl ⟨_, _, rfl, run_takeDeferred HD5.out, ?_⟩⟩
      exact ⟨_, results_tmp rfl _ _ _, rfl, below_put (below_drewN HB5.out _) (by omega) _⟩
end Go.Proofs.Ybulkbgyy
