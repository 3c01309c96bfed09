import Derived.Test.YbulkbgyyStop2
import Derived.RangeFuncNested
import Derived.RangeFuncBound
import Derived.RangeFuncCalls
import Derived.RangeFuncLeaves
import Derived.RangeFuncBox
import Derived.Shelf.Abstract
import Derived.OwnWalkIn
import Derived.TacticsInMore
import Derived.LoopNIn
import Derived.LoopIn
import Derived.Sort.LoopGhostIn
import Derived.Sort.QuietIn
namespace Go.Proofs.Ybulkbgyy
open Go.RowKit Go.Shelf
attribute [local go_sem] Oper.semAt_some

/-- What the iterator asks of the state that its consumer keeps: 'C os se W': os have been handed over, se are marked as seen. -/
structure Takes (F : Fence) (n l g s bm bp bP m : Nat) (L : List Mem) (P p : Nat) (C : List Nat → List Nat → World → Prop) : Prop where
  cm : ∀ os se W, C os se W → W.cell? ⟨bm, 0, none⟩ = some (.slice (some ⟨g, 0, none⟩) m m)
  cp : ∀ os se W, C os se W → W.cell? ⟨bp, 0, none⟩ = some (.int .i64 p)
  cP : ∀ os se W, C os se W → W.cell? ⟨bP, 0, none⟩ = some (.int .i64 P)
  row : ∀ os se W, C os se W → Row W g 65 (flat L)
  seen : ∀ os se W, C os se W → Row W s 4 (seenC m se)
  mark : ∀ os se o W, C os se W → C os (se ++ [o]) (W.setCell ⟨s, o, none⟩ (.bool true))
  drew : ∀ os se q W, C os se W → C os se (W.drewN q)
  give : ∀ os o (ho : o < L.length) W, os.length < m → C os (os ++ [o]) W → YieldAt F (n - 1) Yba.prog l #[.agg #[.string L[o].1, .string L[o].2]] W fun e W' => e = .returned (.bool true) ∧ C (os ++ [o]) (os ++ [o]) W'

set_option maxRecDepth 100000 in
set_option maxHeartbeats 1000000 in
theorem walk_yield (n l g bm bp bP m : Nat) (L : List Mem) (P p : Nat) (C : List Nat → List Nat → World → Prop) (w : World)
    (hL : L.length = m) (hm : 0 < m) (hm2 : m ≤ 1024) (hP : m ≤ P) (hP2 : P ≤ 1279) (hp : p < 2 * P)
    (T : Takes Fence.wide n l g w.heap.size bm bp bP m L P p C) (cm : w.cell? ⟨bm, 0, none⟩ = some (.slice (some ⟨g, 0, none⟩) m m)) (cp : w.cell? ⟨bp, 0, none⟩ = some (.int .i64 p))
    (h0 : C [] [] (w.alloc (.cells (madeCells #[.bool false] m) 4))) :
    CallsIn Fence.wide n Yba.prog 22 #[.func (.yield l) #[] #[], .pointer (some ⟨bm, 0, none⟩), .pointer (some ⟨bp, 0, none⟩), .pointer (some ⟨bP, 0, none⟩)] w fun e w' =>
      (∃ v, e = .returned v) ∧ C (firsts m P p (P + 1)) (firsts m P p (P + 1)) w' := by
  have hmk := make_seen m hm2
  have lm := lt_of_cell cm
  have lp := lt_of_cell cp
  refine callsIn_of_wp Yba.func22 rfl trivial ?_ rfl
  simp only [Yba.ntmps22, List.size_toArray, List.length_cons, List.length_nil, Nat.reduceAdd, Nat.reduceSub, Array.replicate_succ, Array.replicate_zero, List.push_toArray, List.append_toArray, List.nil_append, List.cons_append]
  gi_wp2
  gi_quiet (fail)
  gi_wp2
  clear hmk
  gi_loopg [6, 7] (P + 1) (fun gk left next wr => ∃ k q lf : Nat, gk = P + 1 - k ∧ k ≤ P + 1 ∧ q = vis P p k ∧ lf + (firsts m P p k).length = m ∧ left = .int .i64 lf ∧ next = .int .i64 q ∧ C (firsts m P p k) (firsts m P p k) wr)
  case atStart => exact ⟨0, p, m, rfl, by omega, rfl, by simp [firsts], rfl, rfl, T.drew _ _ _ _ h0⟩
  case round =>
    obtain ⟨k, q, lf, rfl, hk, hq, hlf, rfl, rfl, hC⟩ := hrel
    have hq2 : q < 2 * P := by rw [hq]; exact vis_lt P p k hp
    have HQ : Hid (q = vis P p k) := hq
    have HC : Hid (C (firsts m P p k) (firsts m P p k) wr) := hC
    have HLF : Hid (lf + (firsts m P p k).length = m) := hlf
    have dm := T.cm _ _ _ hC
    have dP := T.cP _ _ _ hC
    have hlm : lf ≤ m := by omega
    by_cases hl0 : lf = 0
    · subst hl0
      have hw : firsts m P p k = firsts m P p (P + 1) := firsts_whole m P p k hm hP hk (by omega)
      have HW : Hid (C (firsts m P p (P + 1)) (firsts m P p (P + 1)) wr) := by show C _ _ _; rw [← hw]; exact hC
      clear hw hC hq hlf
      gi_wp2
      go_end0
      exact ⟨⟨_, rfl⟩, HW.out⟩
    · have hkP : k ≤ P := firsts_short m P p k hm hP (by omega)
      have hom : q % m < m := Nat.mod_lt _ hm
      have hbd : 0 ≤ (q : Int) % (m : Int) ∧ (q : Int) % (m : Int) < (m : Int) := ⟨Int.emod_nonneg _ (by omega), Int.emod_lt_of_pos _ (by omega)⟩
      have hlpos : 0 < lf := by omega
      have HV : Hid ((q + 1) % P = vis P p (k + 1)) := by show _ = _; rw [vis_succ, ← hq]
      have hse := T.seen _ _ _ hC
      by_cases hin : q % m ∈ firsts m P p k
      · have hc : wr.cell? ⟨w.heap.size, q % m, none⟩ = some (.bool true) := by rw [hse.cell, seenC_get m _ _ hom]; simp [hin]
        have HI : Hid (firsts m P p (k + 1) = firsts m P p k) := firsts_hit m P p k (by rw [← hq]; exact hin)
        clear hin hC hq hlf hse
        gi_wp2
        gi_roundg (P + 1 - (k + 1))
        case rel => exact ⟨k + 1, (q + 1) % P, lf, rfl, by omega, HV.out, by rw [HI.out]; exact HLF.out, rfl, by go_num, by rw [HI.out]; exact HC.out⟩
        case measure => omega
      · have hqL : q % m < L.length := by rw [hL]; exact hom
        have hc : wr.cell? ⟨w.heap.size, q % m, none⟩ = some (.bool false) := by rw [hse.cell, seenC_get m _ _ hom]; simp [hin]
        have hf : wr.frozen? ⟨w.heap.size, q % m, none⟩ = false := hse.frozen _
        have HI : Hid (firsts m P p (k + 1) = firsts m P p k ++ [q % m]) := by show _ = _; rw [firsts_miss m P p k (by rw [← hq]; exact hin), ← hq]
        have hC1 := T.mark _ _ (q % m) _ hC
        obtain ⟨hg0, hg1⟩ := flat_get L (q % m) hqL
        have m0 : (wr.setCell ⟨w.heap.size, q % m, none⟩ (.bool true)).cell? ⟨g, q % m * 2, none⟩ = some (.string (L[q % m]'hqL).1) := ((T.row _ _ _ hC1).cell _).trans hg0
        have m1 : (wr.setCell ⟨w.heap.size, q % m, none⟩ (.bool true)).cell? ⟨g, q % m * 2 + 1, none⟩ = some (.string (L[q % m]'hqL).2) := ((T.row _ _ _ hC1).cell _).trans hg1
        have dm1 := T.cm _ _ _ hC1
        obtain ⟨fn, tmps, assign, body, hy, hR⟩ := T.give _ _ hqL _ (by omega) hC1
        have HR := hide' hR
        clear hin hC hq hlf hse hC1 hg0 hg1 hR
        gi_wp2
        refine ⟨(fun h => by cases h), HR.out.mono ?_⟩
        rintro e W3 ⟨rfl, hC3⟩
        have dP3 := T.cP _ _ _ hC3
        have HC3 := hide' hC3
        clear hC3
        gi_wp2
        gi_roundg (P + 1 - (k + 1))
        case rel => exact ⟨k + 1, (q + 1) % P, lf - 1, rfl, by omega, HV.out, by rw [HI.out, List.length_append]; have := HLF.out; simp; omega, by go_num, by go_num, by rw [HI.out]; exact HC3.out⟩
        case measure => omega

/-- No member: nothing is handed over. -/
theorem walk_none (n l g bm bp bP : Nat) (p : Nat) (C : World → Prop) (w : World) (cm : w.cell? ⟨bm, 0, none⟩ = some (.slice (some ⟨g, 0, none⟩) 0 0)) (cp : w.cell? ⟨bp, 0, none⟩ = some (.int .i64 p))
    (h0 : ∀ q, C ((w.alloc (.cells #[] 4)).drewN q)) :
    CallsIn Fence.wide n Yba.prog 22 #[.func (.yield l) #[] #[], .pointer (some ⟨bm, 0, none⟩), .pointer (some ⟨bp, 0, none⟩), .pointer (some ⟨bP, 0, none⟩)] w fun e w' => (∃ v, e = .returned v) ∧ C w' := by
  have hmk : ∀ W : World, (Instr.makeSlice 76 (.int .i64 0) (.int .i64 0)).run Yba.prog W = .ok (.slice (some ⟨W.heap.size, 0, none⟩) 0 0) (W.alloc (.cells #[] 4)) := fun _ => by kernel_rfl
  have lm := lt_of_cell cm
  have lp := lt_of_cell cp
  refine callsIn_of_wp Yba.func22 rfl trivial ?_ rfl
  simp only [Yba.ntmps22, List.size_toArray, List.length_cons, List.length_nil, Nat.reduceAdd, Nat.reduceSub, Array.replicate_succ, Array.replicate_zero, List.push_toArray, List.append_toArray, List.nil_append, List.cons_append]
  gi_wp2
  gi_quiet (fail)
  gi_wp2
  clear hmk
  gi_loopg [6, 7] 1 (fun _ left _ wr => left = .int .i64 0 ∧ C wr)
  case atStart => exact ⟨rfl, h0 _⟩
  case round =>
    obtain ⟨rfl, hC⟩ := hrel
    have HC := hide' hC
    clear hC
    gi_wp2
    go_end0
    exact ⟨⟨_, rfl⟩, HC.out⟩
end Go.Proofs.Ybulkbgyy
