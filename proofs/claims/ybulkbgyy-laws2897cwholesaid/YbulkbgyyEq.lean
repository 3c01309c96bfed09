import Derived.Test.YbulkbgyyMembers
namespace Go.Proofs.Ybulkbgyy
open Go.RowKit

/-- A slice that shows these members. -/
def Shows (W : World) (v : Value) (L : List Mem) : Prop :=
  ∃ a c, v = .slice a L.length c ∧ (L = [] ∨ ∃ g, a = some ⟨g, 0, none⟩ ∧ ∀ j, j < L.length * 2 → W.cell? ⟨g, j, none⟩ = (flat L)[j]?)

theorem eq_zero (a b : Option Addr) (c d : Nat) (w : World) :
    Calls Yba.prog 15 #[.slice a 0 c, .slice b 0 d] w fun e w' => e = .returned (.bool true) ∧ w' = w := by
  go_enter Yba.func15, Yba.ntmps15
  go_wp2
  refine wp_loop_rounds 1 ?_
  rw [rounds_succ]
  go_wp2
  go_ret
  exact ⟨rfl, rfl⟩

set_option maxHeartbeats 1000000 in
theorem eq_more (ga gb n c d : Nat) (L : List Mem) (w : World) (hL : L.length = n) (hbig : n ≤ 1024)
    (ha : ∀ j, j < n * 2 → w.cell? ⟨ga, j, none⟩ = (flat L)[j]?) (hb : ∀ j, j < n * 2 → w.cell? ⟨gb, j, none⟩ = (flat L)[j]?) :
    Calls Yba.prog 15 #[.slice (some ⟨ga, 0, none⟩) n c, .slice (some ⟨gb, 0, none⟩) n d] w fun e w' => e = .returned (.bool true) ∧ ∃ q, w' = w.drewN q := by
  go_enter Yba.func15, Yba.ntmps15
  go_wp2
  go_loopw [5] (fun i wr => ∃ k q : Nat, k ≤ n ∧ i = .int .i64 k ∧ wr = w.drewN q) (fun i _ => n - (intOf i).toNat)
  case atStart => exact ⟨0, 0, by omega, rfl, rfl⟩
  case round =>
    obtain ⟨k, q, hk, rfl, rfl⟩ := hrel
    by_cases hlt : k < n
    · obtain ⟨hg0, hg1⟩ := flat_get L k (by omega)
      have a0 : w.cell? ⟨ga, k * 2, none⟩ = some (.string L[k].1) := (ha _ (by omega)).trans hg0
      have a1 : w.cell? ⟨ga, k * 2 + 1, none⟩ = some (.string L[k].2) := (ha _ (by omega)).trans hg1
      have b0 : w.cell? ⟨gb, k * 2, none⟩ = some (.string L[k].1) := (hb _ (by omega)).trans hg0
      have b1 : w.cell? ⟨gb, k * 2 + 1, none⟩ = some (.string L[k].2) := (hb _ (by omega)).trans hg1
      generalize L[k].1 = s1 at a0 b0
      generalize L[k].2 = s2 at a1 b1
      clear ha hb hg0 hg1
      go_wp2
      go_quiet (fail)
      go_wp2
      go_roundw
      case rel => exact ⟨k + 1, q + nq, by omega, by go_num, rfl⟩
      case measure => simp [intOf]; omega
    · go_wp2
      go_ret
      exact ⟨rfl, q, rfl⟩

/-- zzs2897ceq at two slices that show the same members. -/
theorem eq_any (va vb : Value) (L : List Mem) (w : World) (hbig : L.length ≤ 1024) (ha : Shows w va L) (hb : Shows w vb L) :
    Calls Yba.prog 15 #[va, vb] w fun e w' => e = .returned (.bool true) ∧ ∃ q, w' = w.drewN q := by
  obtain ⟨a, c, rfl, ha⟩ := ha
  obtain ⟨b, d, rfl, hb⟩ := hb
  by_cases h0 : L = []
  · subst h0
    refine (eq_zero a b c d w).mono ?_
    rintro e w' ⟨rfl, rfl⟩
    exact ⟨rfl, 0, rfl⟩
  · rcases ha with h | ⟨ga, rfl, ha⟩
    · exact absurd h h0
    · rcases hb with h | ⟨gb, rfl, hb⟩
      · exact absurd h h0
      · exact eq_more ga gb L.length c d L w rfl hbig ha hb
end Go.Proofs.Ybulkbgyy
