import Derived.Test.YbulkbgsmFmtAp
import Derived.Test.YbulkbgsmFmtPb
import Derived.Deep.LoopGhost
namespace Go.Proofs.YbulkbgsmFmt
open Go.RowKit

theorem fl_one {w : World} {N : Nat} {v' : Value} {xs : List Int} {m : Nat} (h : w.ownsRow N 5 1 v' (xs.length + m) (by8 xs ++ by8 (List.replicate m 0))) : Fl w N v' (xs ++ List.replicate m 0) := by
  unfold Fl
  rw [List.length_append, List.length_replicate]
  have : by8 (xs ++ List.replicate m 0) = by8 xs ++ by8 (List.replicate m 0) := by simp [by8]
  rw [this]
  exact h

set_option maxHeartbeats 1000000 in
set_option maxRecDepth 100000 in
theorem pad_ok (N : Nat) (v : Value) (xs : List Int) (n : Nat) (w : World) (h : Fl w N v xs) (hN : N ≤ w.heap.size) (hl : xs.length ≤ 4000000) (hn : n ≤ 100000) :
    Calls Ybaf.prog 11 #[v, .int .i64 (n : Int)] w fun e w' => ∃ v' : Value, e = .returned v' ∧ Fl w' N v' (xs ++ padL n) ∧ Kept (fun k => N ≤ k) w w' := by
  obtain ⟨i0, hi, hz0, hz1, hz2⟩ := info_parts info5
  have HF : Hid (Fl w N v xs) := h
  obtain ⟨t, ht⟩ : ∃ t : Nat, t = (4 - n % 4) % 4 := ⟨_, rfl⟩
  have ht4 : t < 4 := by omega
  have hr1 : (n : Int) % 4 = ((n % 4 : Nat) : Int) := by omega
  have hr2 : IntKind.i64.wrap (4 - (n : Int) % 4) = 4 - (n : Int) % 4 := IntWalk.i64_in _ (by omega)
  have hr3 : (4 - (n : Int) % 4) % 4 = (t : Int) := by omega
  have hT : padL n = List.replicate t 0 := by unfold padL; rw [ht]
  have HT : Hid (padL n = List.replicate t 0) := hT
  clear h ht hr1 hT
  go_enter Ybaf.func11, Ybaf.ntmps11
  go_wp2_with fail
  go_loopg [0, 5] (t + 1) (fun gk s0 s5 wr => ∃ j : Nat, gk = t + 1 - j ∧ j ≤ t ∧ s5 = .int .i64 (j : Int) ∧ Fl wr N s0 (xs ++ List.replicate j 0) ∧ Kept (fun k => N ≤ k) w wr)
  case atStart => exact ⟨0, rfl, Nat.zero_le _, rfl, by simpa using HF.out, Kept.refl _ _⟩
  case round =>
    obtain ⟨j, rfl, hj, rfl, hfl, hK⟩ := hrel
    obtain ⟨oa, oc, rfl⟩ := owns_form hfl
    have HO : Hid (wr.ownsRow N 5 1 (.slice oa (xs ++ List.replicate j 0).length oc) (xs ++ List.replicate j 0).length (by8 (xs ++ List.replicate j 0))) := hfl
    have HK : Hid (Kept (fun k => N ≤ k) w wr) := hK
    have hNr : N ≤ wr.heap.size := Nat.le_trans hN hK.size
    have hxl : (xs ++ List.replicate j 0).length ≤ 4000010 := by simp; omega
    have HX : Hid ((xs ++ List.replicate j 0).length ≤ 4000010) := hxl
    clear hfl hK hxl
    generalize hX : xs ++ List.replicate j 0 = X at *
    have HXE : Hid (xs ++ List.replicate j 0 = X) := hX
    clear hX
    by_cases hjt : j < t
    · have hwj : IntKind.i64.wrap ((j : Int) + 1) = (j : Int) + 1 := IntWalk.i64_in _ (by omega)
      go_wp2_with (at_builtin; refine wpList_append_own _ rfl (.tmp 14) (.tmp 15) 24 rfl N 5 i0 _ 1 1 Ybaf.underlying24 hi hz0 hz1 hz2 rfl (by decide) (.slice oa X.length oc) X.length (by8 X) rfl (HO.out.alloc _) ⟨wr.heap.size, 0, none⟩ 1 1 (by8 [0]) rfl rfl ?c1 ?c2 ?c3 ?c4 ?c5 ?_)
      case c1 => exact new_cells _ _ (by8 [0]) _ (by simp)
      case c2 => exact by8_one _
      case c3 => have := HX.out; unfold maxLen; omega
      case c4 => have := HX.out; omega
      case c5 => simp; omega
      intro v' w1 hown hgrow _
      have HQ : Hid (Fl w1 N v' (xs ++ List.replicate (j + 1) 0) ∧ Kept (fun k => N ≤ k) w w1) := by
        constructor
        · have h1 : Fl w1 N v' (X ++ List.replicate 1 0) := fl_one hown
          have e : List.replicate (j + 1) (0 : Int) = List.replicate j 0 ++ List.replicate 1 0 := List.replicate_succ'
          rw [e, ← List.append_assoc, HXE.out]
          exact h1
        · exact HK.out.trans (((Kept.refl (fun k => N ≤ k) wr).alloc _).grown hgrow (fun k e _ => (HO.out.lt k e).1))
      clear hown hgrow
      go_wp2_with fail
      go_roundg (t + 1 - (j + 1))
      case rel => exact ⟨j + 1, rfl, by omega, by simp, HQ.out.1, HQ.out.2⟩
      case measure => omega
    · have hje : j = t := by omega
      subst hje
      have HQ : Hid (Fl wr N (.slice oa X.length oc) (xs ++ padL n)) := by
        rw [HT.out, HXE.out]
        exact HO.out
      go_wp2_with fail
      go_ret
      exact ⟨_, rfl, HQ.out, HK.out⟩
end Go.Proofs.YbulkbgsmFmt
