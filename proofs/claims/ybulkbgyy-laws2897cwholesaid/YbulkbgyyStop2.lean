import Derived.Test.YbulkbgyyStop1
namespace Go.Proofs.Ybulkbgyy
open Go.RowKit

theorem addr_ne {a b i j : Nat} (h : a ≠ b) : (⟨a, i, none⟩ : Addr) ≠ ⟨b, j, none⟩ := fun e => h (congrArg Addr.block e)
theorem hide' {p : Prop} (h : p) : Hid p := h

/-- What stays of a world behind the walk: all but the log's own box. -/
structure Stays (lg B : Nat) (w w' : World) : Prop where
  os : w'.os = w.os
  tape : w'.tape = w.tape
  output : w'.output = w.output
  size : w.heap.size ≤ w'.heap.size
  block : ∀ k, k < B → k ≠ lg → w'.heap[k]? = w.heap[k]?

theorem Stays.cell {lg B : Nat} {w w' : World} (h : Stays lg B w w') {q o : Nat} (hq : q < B) (hne : q ≠ lg) : w'.cell? ⟨q, o, none⟩ = w.cell? ⟨q, o, none⟩ := World.cell?_of_block (h.block q hq hne)

/-- The state of the walk when k partitions have been visited. -/
structure Going (lg s m P p : Nat) (L : List Mem) (w wr : World) (k : Nat) : Prop where
  log : ∃ v, wr.cell? ⟨lg, 0, none⟩ = some v ∧ wr.ownsRow (s + 1) 65 2 v (firsts m P p k).length (flat (sel L (firsts m P p k)))
  free : wr.frozen? ⟨lg, 0, none⟩ = false
  seen : Row wr s 4 (seenC m (firsts m P p k))
  stays : Stays lg s w wr

theorem going_next {lg s m P p : Nat} {L : List Mem} {w wr : World} {k o n : Nat} {ob : Option Nat} (hgo : Going lg s m P p L w wr k) (hstep : firsts m P p (k + 1) = firsts m P p k ++ [o]) (ho : o < L.length) (hls : lg < s) (hn : n = (firsts m P p k).length)
    {w1 : World} {v' : Value} (hv' : w1.cell? ⟨lg, 0, none⟩ = some v') (hf' : w1.frozen? ⟨lg, 0, none⟩ = false) (hown' : w1.ownsRow (s + 1) 65 2 v' (n + 1) (flat (sel L (firsts m P p k)) ++ [.string L[o].1, .string L[o].2]))
    (h1 : w1.os = (wr.setCell ⟨s, o, none⟩ (.bool true)).os) (h2 : w1.tape = (wr.setCell ⟨s, o, none⟩ (.bool true)).tape) (h3 : w1.output = (wr.setCell ⟨s, o, none⟩ (.bool true)).output) (h4 : (wr.setCell ⟨s, o, none⟩ (.bool true)).heap.size ≤ w1.heap.size)
    (h5 : ∀ k, k < (wr.setCell ⟨s, o, none⟩ (.bool true)).heap.size → k ≠ lg → (k < s + 1 ∨ some k ≠ ob) → w1.heap[k]? = (wr.setCell ⟨s, o, none⟩ (.bool true)).heap[k]?) : Going lg s m P p L w w1 (k + 1) := by
  have hsz : s < wr.heap.size := hgo.seen.lt
  have hz : (wr.setCell ⟨s, o, none⟩ (.bool true)).heap.size = wr.heap.size := by simp
  refine ⟨⟨v', hv', ?_⟩, hf', ?_, ?_⟩
  · rw [hstep, sel_append L _ o ho, List.length_append, ← hn]; exact hown'
  · rw [hstep, ← seenC_set]
    exact (h5 s (by omega) (by omega) (.inl (by omega))).trans (hgo.seen.set _ _)
  · refine ⟨h1.trans hgo.stays.os, h2.trans hgo.stays.tape, h3.trans hgo.stays.output, by have := hgo.stays.size; omega, fun q hq hne => ?_⟩
    exact (h5 q (by omega) hne (.inl (by omega))).trans ((Below.heap_setCell wr ⟨s, o, none⟩ _ q (by show q ≠ s; omega)).trans (hgo.stays.block q hq hne))

set_option maxRecDepth 100000 in
set_option maxHeartbeats 1000000 in
theorem walk_stop (lg kb bm bp bP g m kk : Nat) (L : List Mem) (P p : Nat) (w : World) (hL : L.length = m) (hm : 0 < m) (hm2 : m ≤ 1024) (hP : m ≤ P) (hP2 : P ≤ 1279) (hp : p < 2 * P) (hk1 : 0 < kk) (hk2 : kk ≤ m)
    (hrow : Row w g 65 (flat L)) (cm : w.cell? ⟨bm, 0, none⟩ = some (.slice (some ⟨g, 0, none⟩) m m)) (cp : w.cell? ⟨bp, 0, none⟩ = some (.int .i64 p)) (cP : w.cell? ⟨bP, 0, none⟩ = some (.int .i64 P))
    (cl : w.cell? ⟨lg, 0, none⟩ = some (.slice none 0 0)) (fl : w.frozen? ⟨lg, 0, none⟩ = false) (ck : w.cell? ⟨kb, 0, none⟩ = some (.int .i64 kk))
    (n1 : bm ≠ lg) (n3 : bP ≠ lg) (n4 : kb ≠ lg) (n5 : g ≠ lg) :
    Calls Yba.prog 22 #[.func (.func 17) #[] #[.pointer (some ⟨lg, 0, none⟩), .pointer (some ⟨kb, 0, none⟩)], .pointer (some ⟨bm, 0, none⟩), .pointer (some ⟨bp, 0, none⟩), .pointer (some ⟨bP, 0, none⟩)] w fun e w' =>
      e = .returned (.tuple #[]) ∧ ∃ v, w'.cell? ⟨lg, 0, none⟩ = some v ∧ w'.ownsRow (w.heap.size + 1) 65 2 v kk (flat (sel L ((firsts m P p (P + 1)).take kk))) ∧ Stays lg w.heap.size w w' := by
  have hmk := make_seen m hm2
  have lm := lt_of_cell cm
  have lp := lt_of_cell cp
  have lP := lt_of_cell cP
  have ll := lt_of_cell cl
  have lk := lt_of_cell ck
  have lg' := hrow.lt
  go_enter Yba.func22, Yba.ntmps22
  go_wp2
  go_quiet (fail)
  go_wp2
  clear hmk
  go_loopg [6, 7] (P + 1) (fun gk left next wr => ∃ k n q lf : Nat, gk = P + 1 - k ∧ n = (firsts m P p k).length ∧ q = vis P p k ∧ lf + n = m ∧ n < kk ∧ left = .int .i64 lf ∧ next = .int .i64 q ∧ Going lg w.heap.size m P p L w wr k)
  case atStart =>
    refine ⟨0, 0, p, m, rfl, rfl, rfl, by omega, hk1, rfl, rfl, ⟨⟨_, ?_, World.ownsRow_nil _ _ _ _⟩, ?_, ?_, ?_⟩⟩
    · exact (World.cell?_alloc_past _ _ _ ll).trans cl
    · exact (World.frozen?_alloc_past _ _ _ ll).trans fl
    · show Row _ _ _ (seenC m [])
      rw [← seenC_made]; exact Row.new _ _ _
    · exact ⟨rfl, rfl, rfl, by simp, fun q hq _ => Below.heap_alloc _ _ _ hq⟩
  case round =>
    obtain ⟨k, n, q, lf, rfl, hn, hq, hlf, hnk, rfl, rfl, hgo⟩ := hrel
    have hq2 : q < 2 * P := by rw [hq]; exact vis_lt P p k hp
    have hkP : k ≤ P := firsts_short m P p k hm hP (by omega)
    have HN : Hid (n = (firsts m P p k).length) := hn
    have HQ : Hid (q = vis P p k) := hq
    have HG : Hid (Going lg w.heap.size m P p L w wr k) := hgo
    have hst := hgo.stays
    have dm : wr.cell? ⟨bm, 0, none⟩ = some (.slice (some ⟨g, 0, none⟩) m m) := (hst.cell lm n1).trans cm
    have dP : wr.cell? ⟨bP, 0, none⟩ = some (.int .i64 P) := (hst.cell lP n3).trans cP
    have hom : q % m < m := Nat.mod_lt _ hm
    have hbd : 0 ≤ (q : Int) % (m : Int) ∧ (q : Int) % (m : Int) < (m : Int) := ⟨Int.emod_nonneg _ (by omega), Int.emod_lt_of_pos _ (by omega)⟩
    have hlpos : 0 < lf := by omega
    have HV : Hid ((q + 1) % P = vis P p (k + 1)) := by show _ = _; rw [vis_succ, ← hq]
    by_cases hin : q % m ∈ firsts m P p k
    · have hc : wr.cell? ⟨w.heap.size, q % m, none⟩ = some (.bool true) := by rw [hgo.seen.cell, seenC_get m _ _ hom]; simp [hin]
      have HI : Hid (firsts m P p (k + 1) = firsts m P p k) := firsts_hit m P p k (by rw [← hq]; exact hin)
      clear hin hgo hst hn hq hrow
      go_wp2
      go_roundg (P + 1 - (k + 1))
      case rel =>
        refine ⟨k + 1, n, (q + 1) % P, lf, rfl, by rw [HI.out]; exact HN.out, HV.out, hlf, hnk, rfl, by go_num, ?_⟩
        have := HG.out
        exact ⟨by rw [HI.out]; exact this.log, this.free, by rw [HI.out]; exact this.seen, this.stays⟩
      case measure => omega
    · have hqL : q % m < L.length := by rw [hL]; exact hom
      have hc : wr.cell? ⟨w.heap.size, q % m, none⟩ = some (.bool false) := by rw [hgo.seen.cell, seenC_get m _ _ hom]; simp [hin]
      have hf : wr.frozen? ⟨w.heap.size, q % m, none⟩ = false := hgo.seen.frozen _
      have HI : Hid (firsts m P p (k + 1) = firsts m P p k ++ [q % m]) := by show _ = _; rw [firsts_miss m P p k (by rw [← hq]; exact hin), ← hq]
      have hrow1 : Row wr g 65 (flat L) := (hst.block g lg' n5).trans hrow
      obtain ⟨hg0, hg1⟩ := flat_get L (q % m) (by omega)
      have hM1 : Row (wr.setCell ⟨w.heap.size, q % m, none⟩ (.bool true)) g 65 (flat L) := hrow1.other _ _ _ (by omega)
      have m0 : (wr.setCell ⟨w.heap.size, q % m, none⟩ (.bool true)).cell? ⟨g, q % m * 2, none⟩ = some (.string (L[q % m]'hqL).1) := (hM1.cell _).trans hg0
      have m1 : (wr.setCell ⟨w.heap.size, q % m, none⟩ (.bool true)).cell? ⟨g, q % m * 2 + 1, none⟩ = some (.string (L[q % m]'hqL).2) := (hM1.cell _).trans hg1
      have dm1 : (wr.setCell ⟨w.heap.size, q % m, none⟩ (.bool true)).cell? ⟨bm, 0, none⟩ = some (.slice (some ⟨g, 0, none⟩) m m) := (World.cell?_setCell_other _ _ _ _ (addr_ne (by omega))).trans dm
      obtain ⟨v, hv, hown⟩ := hgo.log
      rw [← hn] at hown
      have hsz : w.heap.size < wr.heap.size := hgo.seen.lt
      have hY := yield_stop lg kb (w.heap.size + 1) n kk v _ (L[q % m]'hqL).1 (L[q % m]'hqL).2 (wr.setCell ⟨w.heap.size, q % m, none⟩ (.bool true))
        ((World.cell?_setCell_other _ _ _ _ (addr_ne (by omega))).trans hv) ((World.frozen?_setCell _ _ _ _).trans hgo.free) ((World.cell?_setCell_other _ _ _ _ (addr_ne (by omega))).trans ((hst.cell lk n4).trans ck))
        (owns_set hown _ _ _ (by omega)) (by omega) (by omega) n4 (by simp; omega) (by omega)
      obtain ⟨s1, hs1⟩ : ∃ s, s = (L[q % m]'hqL).1 := ⟨_, rfl⟩
      obtain ⟨s2, hs2⟩ : ∃ s, s = (L[q % m]'hqL).2 := ⟨_, rfl⟩
      rw [← hs1] at m0
      rw [← hs2] at m1
      rw [← hs1, ← hs2] at hY
      have H1 : Hid (s1 = (L[q % m]'hqL).1) := hs1
      have H2 : Hid (s2 = (L[q % m]'hqL).2) := hs2
      have HY := hide' hY
      clear hin hgo hst hn hq hrow hrow1 hg0 hg1 hM1 hv hown hY hs1 hs2
      go_wp2_with (go_at_call 17; refine (HY.out).mono ?_; rintro e w1 ⟨rfl, v', hv', hf', hown', h1, h2, h3, h4, h5⟩; have hnext := hide' (going_next HG.out HI.out hqL ll HN.out hv' hf' (by rw [← H1.out, ← H2.out]; exact hown') h1 h2 h3 h4 h5); have dP1 : w1.cell? ⟨bP, 0, none⟩ = some (.int .i64 P) := (hnext.out.stays.cell lP n3).trans cP; clear hv' hf' hown' h1 h2 h3 h4 h5)
      · have hstop : n + 1 = kk := by have : (!decide ((n : Int) + 1 < kk)) = true := by assumption
                                      simp at this; omega
        refine bodyPost_ret (results_none rfl _ _ _) rfl ?_
        obtain ⟨v2, hv2, hown2⟩ := hnext.out.log
        refine ⟨rfl, v2, hv2, ?_, hnext.out.stays⟩
        have hlen : (firsts m P p (k + 1)).length = kk := by rw [HI.out, List.length_append, ← HN.out]; exact hstop
        have ht := firsts_take m P p (k + 1) (by omega)
        rw [hlen] at ht hown2
        rw [← ht]
        exact hown2
      · have hgo2 : n + 1 < kk := by have : (!decide ((n : Int) + 1 < kk)) = false := by assumption
                                     simp at this; omega
        go_roundg (P + 1 - (k + 1))
        case rel => exact ⟨k + 1, n + 1, (q + 1) % P, lf - 1, rfl, by rw [HI.out, List.length_append, ← HN.out]; rfl, HV.out, by omega, hgo2, by go_num, by go_num, hnext.out⟩
        case measure => omega
end Go.Proofs.Ybulkbgyy
