import Derived.Test.YbulkbgsmFmtCb
namespace Go.Proofs.YbulkbgsmFmt
open Go.RowKit
attribute [local go_sem] eq_same eq_nil

set_option maxHeartbeats 1000000 in
set_option maxRecDepth 100000 in
theorem classic_walk (fc : Nat) (fa : Option Addr) (big : Bool) (link cut : Int) (F : List (List Int)) (ae au : Addr) (w : World)
    (hfs : Fs w w.heap.size fa F) (hG : Gl w w.heap.size ae au) (fl : ∀ f ∈ F, ∀ x ∈ f, 0 ≤ x ∧ x ≤ 255) (lk : 0 ≤ link ∧ link ≤ 65535) (hcut : 0 ≤ cut ∧ cut ≤ 65535) :
    Calls Ybaf.prog 3 #[.bool big, .int .u16 link, .slice fa F.length fc, .int .u16 cut] w fun e w' => e = .returned (.bool true) ∧ Kept (fun k => w.heap.size ≤ k) w w' := by
  go_enter Ybaf.func3, Ybaf.ntmps3
  have HFS : Hid (Fs w w.heap.size fa F) := hfs
  have HG : Hid (Gl w w.heap.size ae au) := hG
  clear hfs hG
  by_cases h300 : F.length ≤ 300
  · have h300' : ¬ (300 : Int) < (F.length : Int) := by omega
    go_wp2_with fail
    rename_i K1 hK1
    have HK1 : Hid _ := hK1
    clear hK1
    go_loopg [32] (F.length + 1) (fun gk s32 wr => ∃ k : Nat, gk = F.length + 1 - k ∧ k ≤ F.length ∧ s32 = .int .i64 (k : Int) ∧ wr = w ∧ ∀ j, j < k → (F.getD j []).length ≤ 4096)
    case atStart => exact ⟨0, rfl, Nat.zero_le _, rfl, rfl, fun j hj => absurd hj (Nat.not_lt_zero _)⟩
    case round =>
      obtain ⟨k, rfl, hk, rfl, rfl, hj⟩ := hrel
      by_cases hkn : k < F.length
      · obtain ⟨b, fa1, fc1, rfl, hbN, hcb, -⟩ := HFS.out.at k hkn
        have HJ : Hid (∀ j, j < k → (F.getD j []).length ≤ 4096) := hj
        have hwi : IntKind.i64.wrap ((k : Int) + 1) = (k : Int) + 1 := IntWalk.i64_in _ (by omega)
        clear hj
        by_cases hf : (F.getD k []).length ≤ 4096
        · have HFk : Hid ((F.getD k []).length ≤ 4096) := hf
          generalize (F.getD k []).length = n at hf hcb
          have hf' : ¬ (4096 : Int) < (n : Int) := by omega
          go_wp2_with fail
          go_roundg (F.length + 1 - (k + 1))
          case rel =>
            refine ⟨k + 1, rfl, by omega, by simp, rfl, fun j hj => ?_⟩
            by_cases hjk : j < k
            · exact HJ.out j hjk
            · have : j = k := by omega
              subst this
              exact HFk.out
          case measure => omega
        · generalize (F.getD k []).length = n at hf hcb
          have hf' : (4096 : Int) < (n : Int) := by omega
          go_wp2_with fail
          go_ret
          exact ⟨rfl, Kept.refl _ _⟩
      · have hke : k = F.length := by omega
        subst hke
        have HJ : Hid (∀ j, j < F.length → (F.getD j []).length ≤ 4096) := hj
        clear hj
        go_wp2_with fail
        refine HK1.out _ _ ?_
        refine cl_b (fun e w' => e = .returned (.bool true) ∧ Kept (fun k => wr.heap.size ≤ k) wr w') wr.heap.size fc fa big link cut F ae au wr HFS.out HG.out (Nat.le_refl _) ?_ h300 lk hcut (fun w' hk' => ⟨rfl, hk'⟩)
        intro f hf
        refine ⟨?_, fl f hf⟩
        obtain ⟨j, hj, rfl⟩ := List.mem_iff_getElem.1 hf
        have := HJ.out j hj
        simpa [List.getD, hj] using this
  · have h300' : (300 : Int) < (F.length : Int) := by omega
    go_wp2_with fail
    go_ret
    exact ⟨rfl, Kept.refl _ _⟩
end Go.Proofs.YbulkbgsmFmt
