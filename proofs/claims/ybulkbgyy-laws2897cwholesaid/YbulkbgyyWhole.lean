import Derived.Test.YbulkbgyyNames
import Derived.Test.YbulkbgyyWhole2
namespace Go.Proofs.Ybulkbgyy
open Go.ChangeShapes Go.WideShapes Go.ChangeAt Go.RowKit

/-- THE WALK of LawS2897CWhole: true, at every input. -/
theorem whole_walk (a : Option Addr) (len cap : Nat) (x y : Int) (w : World) (hN : Names w a len) (hx : 0 ≤ x ∧ x ≤ 255) (hy : 0 ≤ y ∧ y ≤ 18446744073709551615) :
    Calls Yba.prog 5 #[.slice a len cap, .int .u8 x, .int .u64 y] w fun e w' => e = .returned (.bool true) ∧ Below w.heap.size w w' := by
  by_cases h1 : 1024 < len
  · clear hy
    refine (callsIn_wide (n := 5)).1 ?_
    refine callsIn_of_wp_marks Yba.func5 rfl trivial ?_ rfl
    simp only [Yba.ntmps5, List.size_toArray, List.length_cons, List.length_nil, Nat.reduceAdd, Nat.reduceSub, Array.replicate_succ, Array.replicate_zero, List.push_toArray, List.append_toArray, List.nil_append, List.cons_append]
    gi_wp2
    exact ⟨_, results_tmp rfl _ _ _, rfl, Below.refl _ _⟩
  · obtain ⟨ex, rfl⟩ := Int.eq_ofNat_of_zero_le hx.1
    obtain ⟨pu, rfl⟩ := Int.eq_ofNat_of_zero_le hy.1
    by_cases h0 : len = 0
    · subst h0
      by_cases he : ex = 0
      · exact whole_zero a cap ex pu w (by omega) (by omega) he
      · exact whole_some a cap ex pu w (by omega) (by omega) (by omega)
    · rcases hN with h | ⟨b, off, ss, rfl, hc⟩
      · exact absurd h h0
      · exact whole_more b off len cap ss ex pu w (by omega) (by omega) (by omega) (by omega) hc

set_option maxRecDepth 100000 in
theorem whole_lifted (os : Os) (started : os.Started) (H : Type) (enc : TypeId × Value → H) :
    ReturnsInHanded {} Yba.checked os 5 .any (Rows.lawS2897CWholeSpec.pre6 enc Yba.prog Yba.f5 Rows.lawS2897CWholeRow.domain false) (Rows.lawS2897CWholeSpec.post enc Yba.prog Yba.f5 false true false false) := by
  refine returnsInHanded_of_change (C := Yba.checked) own started (by kernel_rfl) Yba.func5
    (ChangeSpec.witness6 (enc := enc) (C := Yba.checked) false ⟨#[], #[.slice none 0 0, .int .u8 0, .int .u64 0], []⟩ 8 (by kernel_rfl) (by kernel_rfl) (by kernel_rfl) (by kernel_rfl)) ?_
  intro W base args ds gs before hval0 hW hcnd _
  have hval : ∀ (j : Nat) t v, Yba.f5.params[j]? = some t → args[j]? = some v → Value.okWide Yba.prog W .any base t v := hval0
  have hW' := hW
  obtain ⟨p, q, hA0, hV, rfl, hfz, hnd⟩ := hW
  have hA : DataW.TrodAll enc Yba.prog W 0 (fun _ => true) true Yba.f5.params.toList args.toList ds p := hA0
  rw [Yba.params5] at hA hval
  obtain ⟨v0, v1, v2, d0, d1, d2, p0, p1, p2, rfl, rfl, rfl, h0, h1, h2⟩ := trodAll_three hA
  obtain ⟨rfl, rfl⟩ := trodVars_none hV
  obtain ⟨a0, len0, cap0, rfl⟩ := okWide_slice Yba.underlying26 (hval 0 26 v0 rfl rfl)
  have lt0 : ∀ x ∈ p0, x.block < W.heap.size := by obtain ⟨m, hm⟩ := h0; exact DataW.trod_lt m _ _ _ hm
  have hN := names_of h0
  obtain ⟨a1, rfl, rfl, rfl, w1⟩ := open_int Yba.underlying5 (hval 1 5 v1 rfl rfl) h1
  obtain ⟨a2, rfl, rfl, rfl, w2⟩ := open_int Yba.underlying58 (hval 2 58 v2 rfl rfl) h2
  clear hA0 hval0
  refine (whole_walk a0 len0 cap0 a1 a2 W hN (bounds_u8 w1) (bounds_u64 w2)).mono fun e W' ⟨he, bel⟩ => ?_
  subst he
  exact ⟨_, rfl, _, _, _, [], _, [], hW', trodAll_mk1 (shut_bool Yba.underlying4 _), (trodAll_mk3 (Below.trod laidOut (by kernel_rfl) (of_decide_eq_true (by kernel_rfl)) h0 bel lt0) (shut_int Yba.underlying5 w1) (shut_int Yba.underlying58 w2)), rfl, bel.frame _, fun h => by cases h⟩

/-- ████ THE STATEMENT ████ -/
theorem whole_proved : Rows.LawS2897CWholeSaid :=
  OpenClaim.holds_of_wide 5 Yba.f5 rfl rfl rfl rfl rfl rfl rfl ⟨rfl, rfl, rfl, rfl, rfl⟩ rfl rfl rfl rfl rfl (by kernel_rfl) Yba.func5 (by kernel_rfl)
    (of_decide_eq_true (by kernel_rfl)) (by unfold Func.isWrapper; first | (rw [if_pos (by decide +kernel)]; kernel_rfl) | (rw [if_neg (by decide +kernel)]; exact ⟨rfl, rfl⟩))
    (fun os started H enc _ => whole_lifted os started H enc)
#print axioms whole_proved
end Go.Proofs.Ybulkbgyy
