import Derived.Test.YbulkbgveFmtAdd
import Derived.Test.YbulkbgveFmtMsg
import Derived.Lib.SmallJoins
import Derived.Deep.Cut
namespace Go.Proofs.YbulkbgveFmt
open Go.RowKit Go.Extern.Stop Go.Stop Go.Extern

set_option maxHeartbeats 400000 in
set_option maxRecDepth 100000 in
theorem empty_walk (R : Nat) (f : Int) (w : World) (h : w.cell? ⟨R, 23, none⟩ = some (.int .i64 f)) :
    Calls Ybaf.prog 5 #[.pointer (some ⟨R, 21, none⟩)] w fun e w' => e = .returned (.bool (decide (f = 0))) ∧ w' = w := by
  go_enter Ybaf.func5, Ybaf.ntmps5
  go_wp2
  go_ret
  exact ⟨rfl, rfl⟩

set_option maxHeartbeats 400000 in
set_option maxRecDepth 100000 in
theorem len_walk (b : Nat) (w : World) (h : w.cell? ⟨b, 1, none⟩ = some (.slice none 0 0)) :
    Calls Ybaf.prog 10 #[.pointer (some ⟨b, 0, none⟩)] w fun e w' => e = .returned (.int .i64 0) ∧ w' = w := by
  go_enter Ybaf.func10, Ybaf.ntmps10
  go_wp2
  go_ret
  exact ⟨rfl, rfl⟩

theorem results_cell1 {fn : Func} {p : Tmp} {ty : TypeId} (h : fn.results = #[.cell p ty]) (tmps : Array Value) (P : Program) (w : World) :
    (results fn tmps).run P w = ((asAddr (tmps.getD p undef)).run P w).andThen fun a w₁ => (loadVar ty a).run P w₁ := by
  simp only [results, h]
  simp [Sem.run_bind, Result.andThen]

set_option maxHeartbeats 400000 in
set_option maxRecDepth 100000 in
theorem less_zero (w : World) :
    Calls Ybaf.prog 13 #[.agg #[.int .i64 0, .int .i64 0, .int .i64 0, .int .i64 0], .agg #[.int .i64 0, .int .i64 0, .int .i64 0, .int .i64 0]] w fun e w' => e = .returned (.agg #[.int .i64 0, .int .i64 0, .int .i64 0, .int .i64 0]) ∧ Below w.heap.size w w' := by
  go_enter Ybaf.func13, Ybaf.ntmps13
  go_wp2
  refine bodyPost_ret (v := .agg #[.int .i64 0, .int .i64 0, .int .i64 0, .int .i64 0]) ?_ rfl ⟨rfl, ?_⟩
  · rw [results_cell1 rfl]
    go_simp
  · repeat' (first | exact Below.refl _ _ | refine Below.drew ?_ | refine Below.setCell ?_ (by simp <;> omega) _ | refine Below.alloc ?_ (by simp <;> omega) _)

set_option maxHeartbeats 400000 in
set_option maxRecDepth 100000 in
theorem mistake_zero (l c i d : Int) (w : World) :
    Calls Ybaf.prog 14 #[.agg #[.int .i64 l, .int .i64 c, .int .i64 i, .int .i64 d], .agg #[.int .i64 0, .int .i64 0, .int .i64 0, .int .i64 0], .agg #[.int .i64 0, .int .i64 0, .int .i64 0, .int .i64 0], .agg #[.int .i64 0, .int .i64 0, .int .i64 0, .int .i64 0]] w fun e w' =>
      e = .returned (.agg #[.int .i64 (if d = 0 ∧ i ≠ 0 then 1 else 0), .int .i64 (if d = 0 ∧ i ≠ 0 then i else 0), .int .i64 0, .int .i64 0, .int .i64 0, .int .i64 0]) ∧ Below w.heap.size w w' := by
  by_cases hd : d = 0 ∧ i ≠ 0
  · rw [if_pos hd, if_pos hd]
    obtain ⟨hd, hi⟩ := hd
    subst hd
    go_enter Ybaf.func14, Ybaf.ntmps14
    go_wp2
    refine bodyPost_ret (v := .agg #[.int .i64 1, .int .i64 i, .int .i64 0, .int .i64 0, .int .i64 0, .int .i64 0]) ?_ rfl ⟨rfl, ?_⟩
    · rw [results_cell1 rfl]
      go_simp
    · repeat' (first | exact Below.refl _ _ | refine Below.drew ?_ | refine Below.setCell ?_ (by simp <;> omega) _ | refine Below.alloc ?_ (by simp <;> omega) _)
  · rw [if_neg hd, if_neg hd]
    go_enter Ybaf.func14, Ybaf.ntmps14
    go_wp2
    all_goals
      refine bodyPost_ret (v := .agg #[.int .i64 0, .int .i64 0, .int .i64 0, .int .i64 0, .int .i64 0, .int .i64 0]) ?_ rfl ⟨rfl, ?_⟩
      · rw [results_cell1 rfl]
        go_simp
      · repeat' (first | exact Below.refl _ _ | refine Below.drew ?_ | refine Below.setCell ?_ (by simp <;> omega) _ | refine Below.alloc ?_ (by simp <;> omega) _)

theorem Ybaf.info49 : (Ybaf.prog.info? 49).map (fun i => (i.zero, i.size, i.bytes)) = some (some (.agg #[.int .i64 0, .int .i64 0, .int .i64 0, .int .i64 0, .int .i64 0, .int .i64 0, .int .i64 0, .int .i64 0, .int .i64 0, .int .i64 0, .int .i64 0, .int .i64 0, .int .i64 0]), 13, 104) := by kernel_rfl

theorem new_cells (w : World) (e : TypeId) (ys : List Value) (b : Nat) (hb : w.heap.size = b) : ∀ j u, ys[j]? = some u → (w.alloc (.cells ys.toArray e)).cell? ((⟨b, 0, none⟩ : Addr).add j) = some u := by
  intro j u h
  subst hb
  have e1 : (⟨w.heap.size, 0, none⟩ : Addr).add j = ⟨w.heap.size, j, none⟩ := by
    unfold Addr.add
    split <;> simp_all
  rw [e1]
  exact ((Row.new w e ys.toArray).cell j).trans h

/-- What stands while a line is being checked against no frame. -/
structure Chk (W : World) (R G : Nat) (xs ys : List Value) (l c i d : Int) (w : World) : Prop where
  row : Row w R 43 xs
  line : Row w W.heap.size 31 [.int .i64 l, .int .i64 c, .int .i64 i, .int .i64 d]
  deep : Row w (W.heap.size + 1) 31 [.int .i64 0, .int .i64 0, .int .i64 0, .int .i64 0]
  fr : Row w G 49 ys
  f0 : ys[0]? = some (.int .i64 d)
  fz : ∀ j, 1 ≤ j → j < 13 → ys[j]? = some (.int .i64 0)
  kept : Kept (fun k => k = R) W w

theorem Chk.step {W : World} {R G : Nat} {xs ys : List Value} {l c i d : Int} {w w' : World} (h : Chk W R G xs ys l c i d w) (hk : Kept (fun _ => False) w w') : Chk W R G xs ys l c i d w' :=
  ⟨h.row.kept hk (fun f => f), h.line.kept hk (fun f => f), h.deep.kept hk (fun f => f), h.fr.kept hk (fun f => f), h.f0, h.fz, h.kept.trans (hk.mono (fun _ _ f => f.elim))⟩
theorem Chk.setz {W : World} {R G : Nat} {xs ys : List Value} {l c i d : Int} {w : World} (h : Chk W R G xs ys l c i d w) (hG : W.heap.size + 1 + 1 ≤ G) (hR : R < W.heap.size) (j : Nat) (hj : 1 ≤ j) :
    Chk W R G xs (ys.set j (.int .i64 0)) l c i d (w.setCell ⟨G, j, none⟩ (.int .i64 0)) := by
  refine ⟨h.row.other _ _ _ (by omega), h.line.other _ _ _ (by omega), h.deep.other _ _ _ (by omega), h.fr.set _ _, ?_, ?_, h.kept.setCell (fun h => by omega) _⟩
  · rw [List.getElem?_set_ne (by omega)]
    exact h.f0
  · intro k h1 h2
    by_cases hk : j = k
    · subst hk
      have := (List.getElem?_eq_some_iff.1 (h.fz j h1 h2)).1
      simp [this]
    · rw [List.getElem?_set_ne hk]
      exact h.fz k h1 h2
theorem kept_drew {w w' : World} (hb : Below w.drew.heap.size w.drew w') : Kept (fun _ => False) w w' :=
  ⟨hb.os, hb.tape, hb.output, hb.size, fun k hk _ => hb.block k hk⟩

theorem mistake_ok (l c i d : Int) (hd : ¬ (d = 0 ∧ i ≠ 0)) (w : World) :
    Calls Ybaf.prog 14 #[.agg #[.int .i64 l, .int .i64 c, .int .i64 i, .int .i64 d], .agg #[.int .i64 0, .int .i64 0, .int .i64 0, .int .i64 0], .agg #[.int .i64 0, .int .i64 0, .int .i64 0, .int .i64 0], .agg #[.int .i64 0, .int .i64 0, .int .i64 0, .int .i64 0]] w fun e w' =>
      e = .returned (.agg #[.int .i64 0, .int .i64 0, .int .i64 0, .int .i64 0, .int .i64 0, .int .i64 0]) ∧ Below w.heap.size w w' := by
  have := mistake_zero l c i d w
  rw [if_neg hd, if_neg hd] at this
  exact this
theorem mistake_bad (l c i : Int) (hi : i ≠ 0) (w : World) :
    Calls Ybaf.prog 14 #[.agg #[.int .i64 l, .int .i64 c, .int .i64 i, .int .i64 0], .agg #[.int .i64 0, .int .i64 0, .int .i64 0, .int .i64 0], .agg #[.int .i64 0, .int .i64 0, .int .i64 0, .int .i64 0], .agg #[.int .i64 0, .int .i64 0, .int .i64 0, .int .i64 0]] w fun e w' =>
      e = .returned (.agg #[.int .i64 1, .int .i64 i, .int .i64 0, .int .i64 0, .int .i64 0, .int .i64 0]) ∧ Below w.heap.size w w' := by
  have := mistake_zero l c i 0 w
  rw [if_pos ⟨rfl, hi⟩, if_pos ⟨rfl, hi⟩] at this
  exact this

end Go.Proofs.YbulkbgveFmt
