import Derived.Test.YbulkbgtoDoorFrame
import Derived.Test.YbulkbgtoDoorTie
import Derived.Test.YbulkbgtoDoorCards
import Derived.SevenTiedAt
import Derived.Deep.OwnRows
namespace Go.Proofs.YbulkbgtoDoor
open Go.ChangeShapes Go.WideShapes Go.ChangeAt Go.RowKit Go.Deep
open Go.ChangeMaps (open_string shut_string)

theorem set_keeps {C : Array Value} {k n : Nat} {f : Nat → Value} (hs : C.size = n) (h : ∀ i, i < k → C[i]? = some (f i)) (hk : k < n) :
    (C.setIfInBounds k (f k)).size = n ∧ ∀ i, i < k + 1 → (C.setIfInBounds k (f k))[i]? = some (f i) := by
  refine ⟨by simpa using hs, fun i hi => ?_⟩
  by_cases e : i = k
  · subst e; simp [hs, hk]
  · rw [Array.getElem?_setIfInBounds_ne (by omega)]; exact h i (by omega)

/-- The check over the slice that the law itself has filled. -/
theorem check_made (ad : ByteArray) (mx : Int) (la : Option Addr) (ll lc : Nat) (ys : List Int) (n : Nat) (C : Array Value) (ds : List Int) (w : World)
    (hL : Reads w la ll lc ys) (hC : C.size = n) (hCj : ∀ j, j < n → C[j]? = some (.int .u8 (48 + (ds.getD j 0) % 10))) (hn : n ≤ 1024) (hb : ∀ x ∈ ds, 0 ≤ x ∧ x ≤ 255) (hl : ds.length = n)
    (hV : (∃ tp p, w.var? Ybad.prog "strconv.ErrSyntax" = some #[.iface tp p]) ∧ ∃ tp p, w.var? Ybad.prog "strconv.ErrRange" = some #[.iface tp p]) :
    Calls Ybad.prog 5 #[.string ad, .int .i64 mx, .slice la ll lc, .slice (some ⟨w.heap.size, 0, none⟩) n n] (w.alloc (.cells C 5)) fun e w' => e = .returned (.bool true) ∧ Below w.heap.size w w' := by
  have hbel : Below w.heap.size w (w.alloc (.cells C 5)) := (Below.refl _ _).alloc (Nat.le_refl _) _
  obtain ⟨⟨t1, p1, h1⟩, ⟨t2, p2, h2⟩⟩ := hV
  have hlt0 : 0 < w.heap.size := Lib.lt_of_cell (by simpa using World.var?_cell gSyn h1 0)
  have hlt1 : 1 < w.heap.size := Lib.lt_of_cell (by simpa using World.var?_cell gRange h2 0)
  have hs : Reads (w.alloc (.cells C 5)) (some ⟨w.heap.size, 0, none⟩) n n (ds.map fun x => 48 + x % 10) := by
    refine ⟨by simpa using hl, Nat.le_refl _, by omega, fun x hx => ?_, .inr ⟨_, _, rfl, fun i hi => ?_⟩⟩
    · obtain ⟨y, hy, rfl⟩ := List.mem_map.1 hx
      have := hb y hy
      omega
    · rw [Nat.zero_add, World.cell?_alloc_at _ _ _ _ rfl, hCj i hi]
      simp [List.getD, show i < ds.length by omega]
  refine (check_all ad mx la ll lc ys _ n n _ _ (hL.later hbel) hs (by omega) 0 1 gSyn gRange (by simp) (by simp; omega) ⟨t1, p1, var?_alloc h1⟩ ⟨t2, p2, var?_alloc h2⟩).mono ?_
  rintro e w' ⟨rfl, hb'⟩
  exact ⟨rfl, hbel.trans (hb'.mono (by simp))⟩

theorem digits_none (ad : ByteArray) (mx : Int) (la : Option Addr) (ll lc : Nat) (ys : List Int) (a : Option Addr) (cap : Nat) (w : World)
    (hL : Reads w la ll lc ys) (hll : ll ≤ 4096)
    (h1 : ∃ tp p, w.var? Ybad.prog "strconv.ErrSyntax" = some #[.iface tp p]) (h2 : ∃ tp p, w.var? Ybad.prog "strconv.ErrRange" = some #[.iface tp p]) :
    Calls Ybad.prog 4 #[.string ad, .int .i64 mx, .slice la ll lc, .slice a 0 cap] w fun e w' => e = .returned (.bool true) ∧ Below w.heap.size w w' := by
  have hmk : ∀ W : World, (Instr.makeSlice 22 (.int .i64 0) (.int .i64 0)).run Ybad.prog W = .ok (.slice (some ⟨W.heap.size, 0, none⟩) 0 0) (W.alloc (.cells #[] 5)) := fun _ => by kernel_rfl
  have hcheck := check_made ad mx la ll lc ys 0 #[] [] w hL rfl (fun j hj => by omega) (by omega) (by simp) rfl ⟨h1, h2⟩
  have HK : Hid (Calls Ybad.prog 5 #[.string ad, .int .i64 mx, .slice la ll lc, .slice (some ⟨w.heap.size, 0, none⟩) 0 0] (w.alloc (.cells #[] 5)) fun e w' => e = .returned (.bool true) ∧ Below w.heap.size w w') := hcheck
  clear hcheck hL h1 h2
  go_enter Ybad.func4, Ybad.ntmps4
  go_wp2
  refine wp_loop_rounds 1 ?_
  rw [rounds_succ]
  go_wp2_with (go_at_call 5; refine HK.out.mono ?_; rintro e w' ⟨rfl, hb'⟩)
  go_ret
  exact ⟨rfl, hb'⟩

set_option maxRecDepth 100000 in
set_option maxHeartbeats 400000 in
theorem digits_walk (ad : ByteArray) (mx : Int) (la : Option Addr) (ll lc : Nat) (ys : List Int) (b off n cap : Nat) (ds : List Int) (w : World)
    (hL : Reads w la ll lc ys) (hl : ds.length = n) (h0 : 0 < n) (hn : n ≤ 1024) (hll : ll ≤ 4096)
    (hc : ∀ i, i < n → w.cell? ⟨b, off + i, none⟩ = some (.int .u8 (ds.getD i 0))) (hb : ∀ x ∈ ds, 0 ≤ x ∧ x ≤ 255)
    (h1 : ∃ tp p, w.var? Ybad.prog "strconv.ErrSyntax" = some #[.iface tp p]) (h2 : ∃ tp p, w.var? Ybad.prog "strconv.ErrRange" = some #[.iface tp p]) :
    Calls Ybad.prog 4 #[.string ad, .int .i64 mx, .slice la ll lc, .slice (some ⟨b, off, none⟩) n cap] w fun e w' => e = .returned (.bool true) ∧ Below w.heap.size w w' := by
  have hmk := fun W : World => run_make_row' (P := Ybad.prog) 22 5 (.int .u8 0) 1 Ybad.underlying22 (by kernel_rfl) rfl .i64 .i64 n (by omega) (by omega) W
  have HV : Hid ((∃ tp p, w.var? Ybad.prog "strconv.ErrSyntax" = some #[.iface tp p]) ∧ ∃ tp p, w.var? Ybad.prog "strconv.ErrRange" = some #[.iface tp p]) := ⟨h1, h2⟩
  have HL : Hid (Reads w la ll lc ys) := hL
  have hbw : b < w.heap.size := Lib.lt_of_cell (hc 0 h0)
  clear h1 h2 hL
  have d1 : decide (1024 < (n : Int)) = false := by simp; omega
  have d2 : decide (4096 < (ll : Int)) = false := by simp; omega
  go_enter Ybad.func4, Ybad.ntmps4
  go_wp2
  clear hmk d1 d2
  go_loopw [10] (fun i wr => ∃ (k : Nat) (C : Array Value), k ≤ n ∧ i = .int .i64 k ∧ C.size = n ∧ (∀ j, j < k → C[j]? = some (.int .u8 (48 + (ds.getD j 0) % 10))) ∧ wr = w.alloc (.cells C 5)) (fun i _ => n - (intOf i).toNat)
  case atStart => exact ⟨0, _, by omega, rfl, size_madeCells _ _, fun j hj => by omega, rfl⟩
  case round =>
    obtain ⟨k, C, hk, rfl, hC, hCj, rfl⟩ := hrel
    by_cases hlt : k < n
    · have hcell : w.cell? ⟨b, off + k, none⟩ = some (.int .u8 (ds.getD k 0)) := hc k hlt
      have hby : 0 ≤ ds.getD k 0 ∧ ds.getD k 0 ≤ 255 := by
        have hm : ds[k] ∈ ds := List.getElem_mem (by omega)
        simpa [List.getD, show k < ds.length by omega] using hb _ hm
      obtain ⟨v0, hv0⟩ : ∃ v, C[k]? = some v := ⟨C[k]'(by omega), by simp [hC, hlt]⟩
      have HC : Hid ((C.setIfInBounds k (.int .u8 (48 + (ds.getD k 0) % 10))).size = n ∧ ∀ i, i < k + 1 → (C.setIfInBounds k (.int .u8 (48 + (ds.getD k 0) % 10)))[i]? = some (.int .u8 (48 + (ds.getD i 0) % 10))) := set_keeps (f := fun i => .int .u8 (48 + (ds.getD i 0) % 10)) hC hCj hlt
      obtain ⟨y0, y1⟩ := hby
      generalize ds.getD k 0 = x at hcell y0 y1 HC
      clear hCj hc hb
      go_wp2
      go_roundw
      case rel => exact ⟨k + 1, _, by omega, by go_num, HC.out.1, HC.out.2, rfl⟩
      case measure => simp [intOf]; omega
    · have hkn : k = n := by omega
      subst hkn
      have hbel : Below w.heap.size w (w.alloc (.cells C 5)) := (Below.refl _ _).alloc (Nat.le_refl _) _
      have hcheck := check_made ad mx la ll lc ys k C ds w HL.out hC hCj hn hb hl HV.out
      have HK : Hid (Calls Ybad.prog 5 #[.string ad, .int .i64 mx, .slice la ll lc, .slice (some ⟨w.heap.size, 0, none⟩) k k] (w.alloc (.cells C 5)) fun e w' => e = .returned (.bool true) ∧ Below w.heap.size w w') := hcheck
      clear hcheck hCj hc hb
      go_wp2_with (go_at_call 5; refine HK.out.mono ?_; rintro e w' ⟨rfl, hb'⟩)
      go_ret
      exact ⟨rfl, hb'⟩
/-- THE WALK of LawS2887ADigits: true, at every input. -/
theorem digits_all (ad : ByteArray) (mx : Int) (la : Option Addr) (ll lc : Nat) (ys : List Int) (sa : Option Addr) (sl sc : Nat) (xs : List Int) (w : World)
    (hL : Reads w la ll lc ys) (hs : Reads w sa sl sc xs)
    (h1 : ∃ tp p, w.var? Ybad.prog "strconv.ErrSyntax" = some #[.iface tp p]) (h2 : ∃ tp p, w.var? Ybad.prog "strconv.ErrRange" = some #[.iface tp p]) :
    Calls Ybad.prog 4 #[.string ad, .int .i64 mx, .slice la ll lc, .slice sa sl sc] w fun e w' => e = .returned (.bool true) ∧ Below w.heap.size w w' := by
  by_cases c1 : 1024 < sl
  · clear h1 h2
    go_enter Ybad.func4, Ybad.ntmps4
    go_wp2
    go_ret
    exact ⟨rfl, Below.refl _ _⟩
  · by_cases c2 : 4096 < ll
    · clear h1 h2
      go_enter Ybad.func4, Ybad.ntmps4
      go_wp2
      go_ret
      exact ⟨rfl, Below.refl _ _⟩
    · by_cases c0 : sl = 0
      · subst c0
        exact digits_none ad mx la ll lc ys sa sc w hL (by omega) h1 h2
      · rcases hs.at' with h | ⟨b, off, rfl, hc⟩
        · omega
        · exact digits_walk ad mx la ll lc ys b off sl sc xs w hL hs.n (by omega) (by omega) (by omega) hc hs.byte h1 h2

set_option maxRecDepth 100000 in
theorem digits_lifted (os : Os) (started : os.Started) (H : Type) (enc : TypeId × Value → H) :
    ReturnsInHanded {} Ybad.checked os 4 .any (fun w args => (Rows.lawS2887ADigitsSpec.pre enc Ybad.prog Ybad.f4 [] false w args ∧ laidMetH Ybad.prog Rows.lawS2887ADigitsRow.laid w) ∧ sizedMet enc Ybad.prog Ybad.f4 (OpenSpec.ofChange Rows.lawS2887ADigitsSpec) false w args)
      (Rows.lawS2887ADigitsSpec.post enc Ybad.prog Ybad.f4 false true false false) := by
  refine returnsInHanded_of_change_and (C := Ybad.checked) (X := fun w _ => laidMetH Ybad.prog Rows.lawS2887ADigitsRow.laid w) (fun _ _ _ hh h => h.of_heap hh) own started (by kernel_rfl) Ybad.func4
    (ChangeSpec.witness_shaped (enc := enc) (C := Ybad.checked) (os := os) (X := fun w _ => laidMetH Ybad.prog Rows.lawS2887ADigitsRow.laid w) false (World.doorLaid Ybad.prog 62 os) #[.string ByteArray.empty, .int .i64 0, .slice none 0 0, .slice none 0 0] 8 rfl (World.shaped_of_RefB (by kernel_rfl) (by kernel_rfl)) (by kernel_rfl) (by kernel_rfl) (by kernel_rfl) (door_met os _)) ?_
  intro W base args ds gs before hval0 hW _ _ hLaid _
  have hval : ∀ (j : Nat) t v, Ybad.f4.params[j]? = some t → args[j]? = some v → Value.okWide Ybad.prog W .any base t v := hval0
  have hW' := hW
  obtain ⟨p, q, hA0, hV, rfl, hfz, hnd⟩ := hW
  have hA : DataW.TrodAll enc Ybad.prog W 0 (fun _ => true) true Ybad.f4.params.toList args.toList ds p := hA0
  rw [Ybad.params4] at hA hval
  obtain ⟨v0, v1, v2, v3, d0, d1, d2, d3, p0, p1, p2, p3, rfl, rfl, rfl, h0, h1, h2, h3⟩ := trodAll_four hA
  obtain ⟨rfl, rfl⟩ := trodVars_none hV
  obtain ⟨a0, rfl, rfl, rfl, w0⟩ := open_string Ybad.underlying9 (hval 0 9 v0 rfl rfl) h0
  obtain ⟨a1, rfl, rfl, rfl, w1⟩ := open_int Ybad.underlying3 (hval 1 3 v1 rfl rfl) h1
  obtain ⟨a2, len2, cap2, rfl⟩ := okWide_slice Ybad.underlying22 (hval 2 22 v2 rfl rfl)
  have lt2 : ∀ x ∈ p2, x.block < W.heap.size := by obtain ⟨m, hm⟩ := h2; exact DataW.trod_lt m _ _ _ hm
  obtain ⟨z2, r2⟩ := reads_of h2
  obtain ⟨a3, len3, cap3, rfl⟩ := okWide_slice Ybad.underlying22 (hval 3 22 v3 rfl rfl)
  have lt3 : ∀ x ∈ p3, x.block < W.heap.size := by obtain ⟨m, hm⟩ := h3; exact DataW.trod_lt m _ _ _ hm
  obtain ⟨z3, r3⟩ := reads_of h3
  obtain ⟨hv1, hv2⟩ := of_laid hLaid
  clear hA0 hval0
  refine (digits_all a0 a1 a2 len2 cap2 z2 a3 len3 cap3 z3 W r2 r3 hv1 hv2).mono fun e W' ⟨he, bel⟩ => ?_
  subst he
  exact ⟨_, rfl, _, _, _, [], _, [], hW', trodAll_mk1 (shut_bool Ybad.underlying4 _), (trodAll_mk4 (shut_string Ybad.underlying9 w0) (shut_int Ybad.underlying3 w1) (Below.trod laidOut (by kernel_rfl) (of_decide_eq_true (by kernel_rfl)) h2 bel lt2) (Below.trod laidOut (by kernel_rfl) (of_decide_eq_true (by kernel_rfl)) h3 bel lt3)), rfl, bel.frame _, fun h => by cases h⟩

theorem digits_row : Rows.LawS2887ADigitsSaid :=
  OpenClaim.holds_of_wide 4 Ybad.f4 rfl rfl rfl rfl rfl rfl rfl ⟨rfl, rfl, rfl, rfl, rfl⟩ rfl rfl rfl rfl rfl (by kernel_rfl) Ybad.func4 (by kernel_rfl)
    (of_decide_eq_true (by kernel_rfl)) (by unfold Func.isWrapper; first | (rw [if_pos (by decide +kernel)]; kernel_rfl) | (rw [if_neg (by decide +kernel)]; exact ⟨rfl, rfl⟩))
    (fun os started H enc _ => digits_lifted os started H enc)

/-- ████ THE TIED CARD ████ -/
theorem digits_card : Rows.LawS2887ADigitsCardSaid :=
  Claim7.holds_tied_plain_at .later [] [.data, .data, .data, .sentinel, .sentinel] true (true, "81d86b33a7dcd942ca0d85f4a0637af667d7b77dd1f50fe86043f432e19aa462") true
    digits_row (fun _ h => by cases h) (by kernel_rfl) (fun _ h => by cases h) lawS2887ADigits_row_tie rfl ⟨rfl, rfl⟩ (by kernel_rfl) rfl
    (fun f fn hf hfn => by
      obtain rfl : f = 4 := Option.some.inj ((show Ybad.prog.funcNamed Ybad.f4.name = some 4 by kernel_rfl).symm.trans hf) |>.symm
      obtain rfl : fn = Ybad.f4 := (Option.some.inj (Ybad.func4.symm.trans hfn)).symm
      exact ⟨by kernel_rfl, fun j t ht => by
        rw [Ybad.params4] at ht
        have hm : t ∈ [9, 3, 22, 22] := by simpa using Array.mem_of_getElem? ht
        have hall : ([9, 3, 22, 22].all fun u => !Ybad.prog.wantsStandIn u) = true := by kernel_rfl
        exact (show Ybad.prog.wantsStandIn t = false by simpa using List.all_eq_true.1 hall t hm)⟩)
    (by kernel_rfl)
#print axioms digits_card
end Go.Proofs.YbulkbgtoDoor
