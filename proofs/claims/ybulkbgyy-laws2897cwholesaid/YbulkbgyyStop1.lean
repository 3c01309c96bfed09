import Derived.Test.YbulkbgyyModel
import Derived.Deep.LoopGhost
namespace Go.Proofs.Ybulkbgyy
open Go.RowKit

theorem after_lg {W w1 : World} {A B : Obj} {row : Option Nat} {q : Nat} (hg : ((W.alloc A).alloc B).grownBy w1 row) (hq : q < W.heap.size) (hne : some q ≠ row) : w1.cell? ⟨q, 0, none⟩ = W.cell? ⟨q, 0, none⟩ := by
  apply World.cell?_of_block
  exact (hg.block q (by simp; omega) hne).trans ((Below.heap_alloc _ _ _ (by simp; omega)).trans (Below.heap_alloc _ _ _ hq))
theorem after_lf {W w1 : World} {A B : Obj} {row : Option Nat} {q : Nat} (hg : ((W.alloc A).alloc B).grownBy w1 row) (hq : q < W.heap.size) (hne : some q ≠ row) : w1.frozen? ⟨q, 0, none⟩ = W.frozen? ⟨q, 0, none⟩ := by
  apply World.frozen?_of_block
  exact (hg.block q (by simp; omega) hne).trans ((Below.heap_alloc _ _ _ (by simp; omega)).trans (Below.heap_alloc _ _ _ hq))

set_option maxRecDepth 100000 in
set_option maxHeartbeats 1000000 in
/-- The consumer of LawS2897CStop: it logs, and says whether it wants more. -/
theorem yield_stop (lg kb base n kk : Nat) (v : Value) (xs : List Value) (s1 s2 : ByteArray) (W : World) (hl : W.cell? ⟨lg, 0, none⟩ = some v) (hf : W.frozen? ⟨lg, 0, none⟩ = false) (hk : W.cell? ⟨kb, 0, none⟩ = some (.int .i64 kk))
    (hown : W.ownsRow base 65 2 v n xs) (hlb : lg < base) (hkb : kb < base) (hne : kb ≠ lg) (hbase : base ≤ W.heap.size) (hn : n < 2000) :
    Calls Yba.prog 17 #[.agg #[.string s1, .string s2], .pointer (some ⟨lg, 0, none⟩), .pointer (some ⟨kb, 0, none⟩)] W fun e W' => e = .returned (.bool (decide ((n : Int) + 1 < kk))) ∧
      ∃ v', W'.cell? ⟨lg, 0, none⟩ = some v' ∧ W'.frozen? ⟨lg, 0, none⟩ = false ∧ W'.ownsRow base 65 2 v' (n + 1) (xs ++ [.string s1, .string s2]) ∧ W'.os = W.os ∧ W'.tape = W.tape ∧ W'.output = W.output ∧ W.heap.size ≤ W'.heap.size ∧ ∀ k, k < W.heap.size → k ≠ lg → (k < base ∨ some k ≠ v.ownBlock) → W'.heap[k]? = W.heap[k]? := by
  obtain ⟨i0, hi, hz0, hz1, hz2⟩ := info_parts info65
  obtain ⟨oa, oc, rfl⟩ := owns_form hown
  have HO : Hid (W.ownsRow base 65 2 (.slice oa n oc) n xs) := hown
  have HL : Hid (∀ q, (Value.slice oa n oc).ownBlock = some q → base ≤ q) := fun q e => (hown.lt q e).1
  have hlw : lg < W.heap.size := by omega
  have hkw : kb < W.heap.size := by omega
  clear hown
  go_enter Yba.func17, Yba.ntmps17
  go_wp2_with (at_builtin; refine wpList_append_own _ rfl _ _ 59 rfl base 65 i0 _ 2 32 Yba.underlying59 hi hz0 hz1 hz2 rfl (by decide) _ n _ rfl ((HO.out.alloc _).alloc _) ⟨W.heap.size + 1, 0, none⟩ 1 1 [.string s1, .string s2] rfl rfl ?_ ?_ ?_ ?_ ?_ ?_; rotate_left 5; intro v' w1 hown' hgrow _; obtain ⟨va, vc, rfl⟩ := owns_form hown'; have hc1 := after_lg hgrow hlw (fun e => by have := HL.out _ e.symm; omega); have hk1 := after_lg hgrow hkw (fun e => by have := HL.out _ e.symm; omega); rw [hl] at hc1; rw [hk] at hk1; have hf1 := after_lf hgrow hlw (fun e => by have := HL.out _ e.symm; omega); rw [hf] at hf1)
  · go_ret
    refine ⟨by simp, _, World.cell?_setCell_same' _ _ _ (by rw [hc1]; rfl), (World.frozen?_setCell _ _ _ _).trans hf1, owns_set hown' _ _ _ hlb, hgrow.os, hgrow.tape, hgrow.output, ?_, ?_⟩
    · have := hgrow.size; simp at this ⊢; omega
    · intro q hq hql hqb
      have hnr : some q ≠ (Value.slice oa n oc).ownBlock := fun e => by
        rcases hqb with h | h
        · have := HL.out _ e.symm; omega
        · exact h e
      exact (Below.heap_setCell w1 ⟨lg, 0, none⟩ _ q hql).trans ((hgrow.block q (by simp; omega) hnr).trans ((Below.heap_alloc _ _ _ (by simp; omega)).trans (Below.heap_alloc _ _ _ hq)))
  · intro j u hj
    rcases j with _ | _ | j
    · simp at hj; subst hj; exact World.cell?_alloc_at _ _ _ _ (by simp)
    · simp at hj; subst hj; exact World.cell?_alloc_at _ _ _ _ (by simp)
    · simp at hj
  · intro u hu; simp at hu; rcases hu with rfl | rfl <;> rfl
  · unfold maxLen; omega
  · omega
  · simp; omega
end Go.Proofs.Ybulkbgyy
