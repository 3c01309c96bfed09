import Derived.Test.YbulkbgtoDoorFrame
import Derived.Test.YbulkbgtoDoorTie
import Derived.Test.YbulkbgtoDoorCards
import Derived.SevenTiedAt
namespace Go.Proofs.YbulkbgtoDoor
open Go.ChangeShapes Go.WideShapes Go.ChangeAt Go.RowKit
open Go.ChangeMaps (open_string shut_string)

/-- THE WALK of LawS2887AParse: true, at every input. -/
theorem parse_walk (ad : ByteArray) (mx : Int) (la : Option Addr) (ll lc : Nat) (ys : List Int) (sa : Option Addr) (sl sc : Nat) (xs : List Int) (w : World)
    (hL : Reads w la ll lc ys) (hs : Reads w sa sl sc xs)
    (h1 : ∃ tp p, w.var? Ybad.prog "strconv.ErrSyntax" = some #[.iface tp p]) (h2 : ∃ tp p, w.var? Ybad.prog "strconv.ErrRange" = some #[.iface tp p]) :
    Calls Ybad.prog 3 #[.string ad, .int .i64 mx, .slice la ll lc, .slice sa sl sc] w fun e w' => e = .returned (.bool true) ∧ Below w.heap.size w w' := by
  have hlt0 : 0 < w.heap.size := by
    obtain ⟨_, _, h⟩ := h1
    exact Lib.lt_of_cell (by simpa using World.var?_cell gSyn h 0)
  have hlt1 : 1 < w.heap.size := by
    obtain ⟨_, _, h⟩ := h2
    exact Lib.lt_of_cell (by simpa using World.var?_cell gRange h 0)
  by_cases c1 : 1024 < sl
  · go_enter Ybad.func3, Ybad.ntmps3
    go_wp2
    go_ret
    exact ⟨rfl, Below.refl _ _⟩
  · by_cases c2 : 4096 < ll
    · go_enter Ybad.func3, Ybad.ntmps3
      go_wp2
      go_ret
      exact ⟨rfl, Below.refl _ _⟩
    · have hcheck := check_all ad mx la ll lc ys sa sl sc xs w hL hs (by omega) 0 1 gSyn gRange hlt0 hlt1 h1 h2
      have HC : Hid (Calls Ybad.prog 5 #[.string ad, .int .i64 mx, .slice la ll lc, .slice sa sl sc] w fun e w' => e = .returned (.bool true) ∧ Below w.heap.size w w') := hcheck
      clear hcheck h1 h2 hL hs
      go_enter Ybad.func3, Ybad.ntmps3
      go_wp2_with (go_at_call 5; refine HC.out.mono ?_; rintro e w' ⟨rfl, hb⟩)
      go_ret
      exact ⟨rfl, hb⟩

set_option maxRecDepth 100000 in
theorem parse_lifted (os : Os) (started : os.Started) (H : Type) (enc : TypeId × Value → H) :
    ReturnsInHanded {} Ybad.checked os 3 .any (fun w args => (Rows.lawS2887AParseSpec.pre enc Ybad.prog Ybad.f3 [] false w args ∧ laidMetH Ybad.prog Rows.lawS2887AParseRow.laid w) ∧ sizedMet enc Ybad.prog Ybad.f3 (OpenSpec.ofChange Rows.lawS2887AParseSpec) false w args)
      (Rows.lawS2887AParseSpec.post enc Ybad.prog Ybad.f3 false true false false) := by
  refine returnsInHanded_of_change_and (C := Ybad.checked) (X := fun w _ => laidMetH Ybad.prog Rows.lawS2887AParseRow.laid w) (fun _ _ _ hh h => h.of_heap hh) own started (by kernel_rfl) Ybad.func3
    (ChangeSpec.witness_shaped (enc := enc) (C := Ybad.checked) (os := os) (X := fun w _ => laidMetH Ybad.prog Rows.lawS2887AParseRow.laid w) false (World.doorLaid Ybad.prog 62 os) #[.string ByteArray.empty, .int .i64 0, .slice none 0 0, .slice none 0 0] 8 rfl (World.shaped_of_RefB (by kernel_rfl) (by kernel_rfl)) (by kernel_rfl) (by kernel_rfl) (by kernel_rfl) (door_met os _)) ?_
  intro W base args ds gs before hval0 hW _ _ hLaid _
  have hval : ∀ (j : Nat) t v, Ybad.f3.params[j]? = some t → args[j]? = some v → Value.okWide Ybad.prog W .any base t v := hval0
  have hW' := hW
  obtain ⟨p, q, hA0, hV, rfl, hfz, hnd⟩ := hW
  have hA : DataW.TrodAll enc Ybad.prog W 0 (fun _ => true) true Ybad.f3.params.toList args.toList ds p := hA0
  rw [Ybad.params3] at hA hval
  obtain ⟨v0, v1, v2, v3, d0, d1, d2, d3, p0, p1, p2, p3, rfl, rfl, rfl, h0, h1, h2, h3⟩ := trodAll_four hA
  obtain ⟨rfl, rfl⟩ := trodVars_none hV
  obtain ⟨a0, rfl, rfl, rfl, w0⟩ := open_string Ybad.underlying9 (hval 0 9 v0 rfl rfl) h0
  obtain ⟨a1, rfl, rfl, rfl, w1⟩ := open_int Ybad.underlying3 (hval 1 3 v1 rfl rfl) h1
  obtain ⟨a2, len2, cap2, rfl⟩ := okWide_slice Ybad.underlying22 (hval 2 22 v2 rfl rfl)
  have lt2 : ∀ x ∈ p2, x.block < W.heap.size := by obtain ⟨m, hm⟩ := h2; exact DataW.trod_lt m _ _ _ hm
  obtain ⟨z2, r2⟩ := reads_of h2
  obtain ⟨a3, len3, cap3, rfl⟩ := okWide_slice Ybad.underlying22 (hval 3 22 v3 rfl rfl)
  have lt3 : ∀ x ∈ p3, x.block < W.heap.size := by obtain ⟨m, hm⟩ := h3; exact DataW.trod_lt m _ _ _ hm
  obtain ⟨z3, r3⟩ := reads_of h3
  obtain ⟨hv1, hv2⟩ := of_laid hLaid
  clear hA0 hval0
  refine (parse_walk a0 a1 a2 len2 cap2 z2 a3 len3 cap3 z3 W r2 r3 hv1 hv2).mono fun e W' ⟨he, bel⟩ => ?_
  subst he
  exact ⟨_, rfl, _, _, _, [], _, [], hW', trodAll_mk1 (shut_bool Ybad.underlying4 _), (trodAll_mk4 (shut_string Ybad.underlying9 w0) (shut_int Ybad.underlying3 w1) (Below.trod laidOut (by kernel_rfl) (of_decide_eq_true (by kernel_rfl)) h2 bel lt2) (Below.trod laidOut (by kernel_rfl) (of_decide_eq_true (by kernel_rfl)) h3 bel lt3)), rfl, bel.frame _, fun h => by cases h⟩

theorem parse_row : Rows.LawS2887AParseSaid :=
  OpenClaim.holds_of_wide 3 Ybad.f3 rfl rfl rfl rfl rfl rfl rfl ⟨rfl, rfl, rfl, rfl, rfl⟩ rfl rfl rfl rfl rfl (by kernel_rfl) Ybad.func3 (by kernel_rfl)
    (of_decide_eq_true (by kernel_rfl)) (by unfold Func.isWrapper; first | (rw [if_pos (by decide +kernel)]; kernel_rfl) | (rw [if_neg (by decide +kernel)]; exact ⟨rfl, rfl⟩))
    (fun os started H enc _ => parse_lifted os started H enc)

/-- ████ THE TIED CARD ████ -/
theorem parse_card : Rows.LawS2887AParseCardSaid :=
  Claim7.holds_tied_plain_at .later [] [.data, .data, .data, .sentinel, .sentinel] true (true, "81d86b33a7dcd942ca0d85f4a0637af667d7b77dd1f50fe86043f432e19aa462") true
    parse_row (fun _ h => by cases h) (by kernel_rfl) (fun _ h => by cases h) lawS2887AParse_row_tie rfl ⟨rfl, rfl⟩ (by kernel_rfl) rfl
    (fun f fn hf hfn => by
      obtain rfl : f = 3 := Option.some.inj ((show Ybad.prog.funcNamed Ybad.f3.name = some 3 by kernel_rfl).symm.trans hf) |>.symm
      obtain rfl : fn = Ybad.f3 := (Option.some.inj (Ybad.func3.symm.trans hfn)).symm
      exact ⟨by kernel_rfl, fun j t ht => by
        rw [Ybad.params3] at ht
        have hm : t ∈ [9, 3, 22, 22] := by simpa using Array.mem_of_getElem? ht
        have hall : ([9, 3, 22, 22].all fun u => !Ybad.prog.wantsStandIn u) = true := by kernel_rfl
        exact (show Ybad.prog.wantsStandIn t = false by simpa using List.all_eq_true.1 hall t hm)⟩)
    (by kernel_rfl)
#print axioms parse_card
end Go.Proofs.YbulkbgtoDoor
