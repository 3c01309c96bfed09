import Derived.Test.YbulkbgsmFmtPx
namespace Go.Proofs.YbulkbgsmFmt
open Go.RowKit
attribute [local go_sem] eq_same eq_nil

set_option maxHeartbeats 2000000 in
set_option maxRecDepth 100000 in
theorem pcapng_walk (lc pc : Nat) (la pa : Option Addr) (big : Bool) (ls : List Int) (ps : List Pkt) (ae au : Addr) (w : World)
    (hlr : ∀ l ∈ ls, 0 ≤ l ∧ l ≤ 65535) (hpr : ∀ p ∈ ps, p.ifn ≤ 255 ∧ ∀ x ∈ p.data, 0 ≤ x ∧ x ≤ 255) (h10 : 10 ≤ w.heap.size)
    (hlz : 0 < ls.length → ∃ lb lo, la = some ⟨lb, lo, none⟩ ∧ Lz w w.heap.size lb lo ls) (hpz : Pz w w.heap.size pa ps) (hE : w.cell? ⟨0, 0, none⟩ = some (.iface 96 (.pointer (some ae)))) (hX : w.cell? ⟨8, 0, none⟩ = some (.iface 96 (.pointer (some au)))) :
    Calls Ybaf.prog 4 #[.bool big, .slice la ls.length lc, .slice pa ps.length pc] w fun e w' => e = .returned (.bool true) ∧ Kept (fun k => w.heap.size ≤ k) w w' := by
  go_enter Ybaf.func4, Ybaf.ntmps4
  have HQ : Hid ((0 < ls.length → ∃ lb lo, la = some ⟨lb, lo, none⟩ ∧ Lz w w.heap.size lb lo ls) ∧ Pz w w.heap.size pa ps ∧ w.cell? ⟨0, 0, none⟩ = some (.iface 96 (.pointer (some ae))) ∧ w.cell? ⟨8, 0, none⟩ = some (.iface 96 (.pointer (some au)))) := ⟨hlz, hpz, hE, hX⟩
  clear hlz hpz hE hX
  by_cases hl3 : ls.length ≤ 300
  · have hl3' : ¬ (300 : Int) < (ls.length : Int) := by omega
    by_cases hp3 : ps.length ≤ 300
    · have hp3' : ¬ (300 : Int) < (ps.length : Int) := by omega
      go_wp2_with fail
      rename_i K1 hK1
      have HK1 : Hid _ := hK1
      clear hK1
      go_loopg [37] (ps.length + 1) (fun gk s37 wr => ∃ j : Nat, gk = ps.length + 1 - j ∧ j ≤ ps.length ∧ s37 = .int .i64 (j : Int) ∧ Kept (fun k => w.heap.size ≤ k) w wr ∧ ∀ i p, i < j → ps[i]? = some p → p.data.length ≤ 4096)
      case atStart => exact ⟨0, rfl, Nat.zero_le _, rfl, Kept.refl _ _, fun i p hi => absurd hi (Nat.not_lt_zero _)⟩
      case round =>
        obtain ⟨j, rfl, hj, rfl, hK, hs⟩ := hrel
        by_cases hjn : j < ps.length
        · obtain ⟨pb, po, da, dc, rfl, hpN, p0, p1, p2, p3, -⟩ := HQ.out.2.1 j ps[j] (List.getElem?_eq_getElem hjn)
          replace p0 := hK.cell p0 (Nat.not_le.2 hpN)
          replace p1 := hK.cell p1 (Nat.not_le.2 hpN)
          replace p2 := hK.cell p2 (Nat.not_le.2 hpN)
          replace p3 := hK.cell p3 (Nat.not_le.2 hpN)
          have hwj : IntKind.i64.wrap ((j : Int) + 1) = (j : Int) + 1 := IntWalk.i64_in _ (by omega)
          obtain ⟨p, hp⟩ : ∃ p, p = ps[j] := ⟨_, rfl⟩
          rw [← hp] at p0 p1 p2 p3
          have HS : Hid ((∀ i p, i < j → ps[i]? = some p → p.data.length ≤ 4096) ∧ p = ps[j]) := ⟨hs, hp⟩
          have HK : Hid (Kept (fun k => w.heap.size ≤ k) w wr) := hK
          clear hs hp hK
          obtain ⟨ifn, sm, sk, f⟩ := p
          dsimp only at p0 p1 p2 p3
          by_cases hf : f.length ≤ 4096
          · have hf' : ¬ (4096 : Int) < (f.length : Int) := by omega
            go_wp2_with fail
            go_roundg (ps.length + 1 - (j + 1))
            case rel =>
              refine ⟨j + 1, rfl, by omega, by simp, HK.out.alloc _, fun i p hi hip => ?_⟩
              by_cases hij : i < j
              · exact HS.out.1 i p hij hip
              · have : i = j := by omega
                subst this
                rw [List.getElem?_eq_getElem hjn, ← HS.out.2] at hip
                cases hip
                exact hf
            case measure => omega
          · have hf' : (4096 : Int) < (f.length : Int) := by omega
            go_wp2_with fail
            go_ret
            exact ⟨rfl, HK.out.alloc _⟩
        · have hje : j = ps.length := by omega
          subst hje
          have HS : Hid (Kept (fun k => w.heap.size ≤ k) w wr ∧ ∀ i p, i < ps.length → ps[i]? = some p → p.data.length ≤ 4096) := ⟨hK, hs⟩
          clear hK hs
          go_wp2_with fail
          refine HK1.out _ _ ?_
          have hK := HS.out.1
          have hsz := hK.size
          refine pl_a2 (fun e w' => e = .returned (.bool true) ∧ Kept (fun k => w.heap.size ≤ k) w w') w.heap.size lc pc la pa big ls ps ae au wr hl3 hp3 hlr ?_ hsz h10 ?_ (HQ.out.2.1.kept hK) (hK.cell HQ.out.2.2.1 (by omega)) (hK.cell HQ.out.2.2.2 (by omega)) (fun w' hk' => ⟨rfl, hK.trans hk'⟩)
          · intro p hp
            refine ⟨(hpr p hp).1, ?_, (hpr p hp).2⟩
            obtain ⟨i, hi, rfl⟩ := List.mem_iff_getElem.1 hp
            exact HS.out.2 i _ hi (List.getElem?_eq_getElem hi)
          · intro h0
            obtain ⟨lb, lo, e, hz⟩ := HQ.out.1 h0
            exact ⟨lb, lo, e, hz.kept hK⟩
    · have hp3' : (300 : Int) < (ps.length : Int) := by omega
      go_wp2_with fail
      go_ret
      exact ⟨rfl, Kept.refl _ _⟩
  · have hl3' : (300 : Int) < (ls.length : Int) := by omega
    go_wp2_with fail
    go_ret
    exact ⟨rfl, Kept.refl _ _⟩
end Go.Proofs.YbulkbgsmFmt
