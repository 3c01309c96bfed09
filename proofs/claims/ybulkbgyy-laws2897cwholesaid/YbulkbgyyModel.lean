import Derived.Test.YbulkbgyyEq
namespace Go.Proofs.Ybulkbgyy
open Go.RowKit

/-- The members of these owners. -/
def sel (L : List Mem) (os : List Nat) : List Mem := os.map fun o => L.getD o (ByteArray.empty, ByteArray.empty)
/-- The cells of 'seen' when these owners have come. -/
def seenC (m : Nat) (os : List Nat) : List Value := (List.range m).map fun o => .bool (decide (o ∈ os))

theorem seenC_get (m : Nat) (os : List Nat) (o : Nat) (h : o < m) : (seenC m os)[o]? = some (.bool (decide (o ∈ os))) := by
  simp [seenC, h]
theorem seenC_set (m : Nat) (os : List Nat) (o : Nat) : (seenC m os).set o (.bool true) = seenC m (os ++ [o]) := by
  apply List.ext_getElem?
  intro i
  by_cases hi : i < m
  · by_cases e : o = i
    · subst e; simp [seenC, hi]
    · rw [List.getElem?_set_ne e, seenC_get m os i hi, seenC_get m _ i hi]
      have : i ≠ o := fun h => e h.symm
      simp [this]
  · rw [List.getElem?_eq_none (by simp [seenC]; omega), List.getElem?_eq_none (by simp [seenC]; omega)]
theorem seenC_made (m : Nat) : (madeCells #[.bool false] m).toList = seenC m [] := by
  rw [toList_madeCells_one]
  apply List.ext_getElem?
  intro i
  by_cases hi : i < m
  · rw [seenC_get m [] i hi]; simp [hi]
  · rw [List.getElem?_eq_none (by simp; omega), List.getElem?_eq_none (by simp [seenC]; omega)]

theorem sel_append (L : List Mem) (os : List Nat) (o : Nat) (h : o < L.length) : flat (sel L (os ++ [o])) = flat (sel L os) ++ [.string L[o].1, .string L[o].2] := by
  simp [sel, flat_append, flat, h]
theorem sel_length (L : List Mem) (os : List Nat) : (sel L os).length = os.length := by simp [sel]

theorem firsts_hit (m P p k : Nat) (h : vis P p k % m ∈ firsts m P p k) : firsts m P p (k + 1) = firsts m P p k := by
  show (if vis P p k % m ∈ firsts m P p k then _ else _) = _
  rw [if_pos h]
theorem firsts_miss (m P p k : Nat) (h : ¬ vis P p k % m ∈ firsts m P p k) : firsts m P p (k + 1) = firsts m P p k ++ [vis P p k % m] := by
  show (if vis P p k % m ∈ firsts m P p k then _ else _) = _
  rw [if_neg h]

theorem owns_form {w : World} {base : Nat} {e : TypeId} {size : Nat} {v : Value} {n : Nat} {xs : List Value} (h : w.ownsRow base e size v n xs) : ∃ a c, v = .slice a n c := by
  rcases h.2 with ⟨rfl, rfl⟩ | ⟨g, cap, _, rfl, _⟩
  · exact ⟨_, _, rfl⟩
  · exact ⟨_, _, rfl⟩

theorem grown_set (w : World) (b j : Nat) (u : Value) : w.grownBy (w.setCell ⟨b, j, none⟩ u) (some b) :=
  ⟨rfl, rfl, rfl, by simp, fun k _ hk => Below.heap_setCell w ⟨b, j, none⟩ u k (fun e => hk (by simp [e]))⟩

theorem owns_set {w : World} {base : Nat} {e : TypeId} {size : Nat} {v : Value} {n : Nat} {xs : List Value} (h : w.ownsRow base e size v n xs) (b j : Nat) (u : Value) (hb : b < base) :
    (w.setCell ⟨b, j, none⟩ u).ownsRow base e size v n xs := by
  refine h.kept (grown_set w b j u) ?_
  cases hv : v.ownBlock with
  | none => exact .inl rfl
  | some k =>
    have := (h.lt k hv).1
    exact .inr (fun e => by cases e; omega)

theorem Row.grown {W W' : World} {g : Nat} {e : TypeId} {xs : List Value} {row : Option Nat} (h : Row W g e xs) (hg : W.grownBy W' row) (hne : some g ≠ row) : Row W' g e xs := (hg.block g h.lt hne).trans h

theorem make_seen (m : Nat) (hm : m ≤ 1024) (W : World) :
    (Instr.makeSlice 76 (.int .i64 (m : Int)) (.int .i64 (m : Int))).run Yba.prog W = .ok (.slice (some ⟨W.heap.size, 0, none⟩) m m) (W.alloc (.cells (madeCells #[.bool false] m) 4)) := by
  obtain ⟨i, hi, hz, hs, hby⟩ := info_parts (P := Yba.prog) (e := 4) (z := .bool false) (size := 1) (bytes := 1) (by kernel_rfl)
  have := run_make (P := Yba.prog) W 76 4 i _ Yba.underlying76 hi hz .i64 .i64 (m : Int) (m : Int) (by omega) (by omega) (by rw [hby]; omega) (by omega)
  rw [hs] at this
  simpa [Value.cells] using this

set_option maxRecDepth 100000 in
set_option maxHeartbeats 1000000 in
theorem model_any (g m : Nat) (L : List Mem) (P p : Nat) (w : World) (hL : L.length = m) (hm : 0 < m) (hm2 : m ≤ 1024) (hP : m ≤ P) (hP2 : P ≤ 1279) (hp : p < 2 * P) (hrow : Row w g 65 (flat L)) :
    Calls Yba.prog 16 #[.slice (some ⟨g, 0, none⟩) m m, .int .i64 P, .int .i64 p] w fun e w' => ∃ v, e = .returned v ∧ w'.ownsRow (w.heap.size + 1) 65 2 v m (flat (sel L (firsts m P p (P + 1)))) ∧ Below w.heap.size w w' := by
  have hmk := make_seen m hm2
  obtain ⟨i0, hi, hz0, hz1, hz2⟩ := info_parts info65
  have hgw := hrow.lt
  go_enter Yba.func16, Yba.ntmps16
  go_wp2
  clear hmk
  go_loopw [9, 10] (fun out i wr => ∃ k : Nat, k ≤ P + 1 ∧ i = .int .i64 k ∧ wr.ownsRow (w.heap.size + 1) 65 2 out (firsts m P p k).length (flat (sel L (firsts m P p k))) ∧ Row wr w.heap.size 4 (seenC m (firsts m P p k)) ∧ Below w.heap.size w wr) (fun _ i _ => P + 1 - (intOf i).toNat)
  case atStart => exact ⟨0, by omega, rfl, World.ownsRow_nil _ _ _ _, by show Row _ _ _ (seenC m []); rw [← seenC_made]; exact Row.new _ _ _, (Below.refl _ _).alloc (Nat.le_refl _) _⟩
  case round =>
    obtain ⟨k, hk, rfl, hown, hseen, hbel⟩ := hrel
    have hle := firsts_le m P p k hm
    obtain ⟨oa, oc, rfl⟩ := owns_form hown
    obtain ⟨F, hF⟩ : ∃ F, F = firsts m P p k := ⟨_, rfl⟩
    rw [← hF] at hown hseen hle
    obtain ⟨n, hn⟩ : ∃ n, n = F.length := ⟨_, rfl⟩
    rw [← hF, ← hn]
    rw [← hn] at hown hle
    have HF : Hid (F = firsts m P p k) := hF
    have HN : Hid (n = F.length) := hn
    have HO : Hid (wr.ownsRow (w.heap.size + 1) 65 2 (.slice oa n oc) n (flat (sel L F))) := hown
    have HS : Hid (Row wr w.heap.size 4 (seenC m F)) := hseen
    have HB : Hid (Below w.heap.size w wr) := hbel
    have HM : Hid (Row wr g 65 (flat L)) := hrow.below hbel hgw
    clear hF hn hown hseen hbel
    by_cases hlt : k ≤ P ∧ n < m
    · obtain ⟨h1, h2⟩ := hlt
      by_cases hk0 : k = 0
      · subst hk0
        have hov : p % m = vis P p 0 % m := rfl
        have hbd : 0 ≤ (p : Int) % (m : Int) ∧ (p : Int) % (m : Int) < (m : Int) := ⟨Int.emod_nonneg _ (by omega), Int.emod_lt_of_pos _ (by omega)⟩
        have hom : p % m < m := Nat.mod_lt _ hm
        have HV : Hid (p % m = vis P p 0 % m) := hov
        clear hov
        by_cases hin : p % m ∈ F
        · have hc : wr.cell? ⟨w.heap.size, p % m, none⟩ = some (.bool true) := by rw [HS.out.cell, seenC_get m F _ hom]; simp [hin]
          have HI : Hid (p % m ∈ F) := hin
          clear hin
          go_wp2
          go_roundw
          case rel =>
            have hstep : firsts m P p (0 + 1) = F := by rw [firsts_hit m P p 0 (by rw [← HV.out, ← HF.out]; exact HI.out)]; exact HF.out.symm
            refine ⟨0 + 1, by omega, by go_num, ?_, ?_, HB.out⟩
            · rw [hstep, ← HN.out]; exact HO.out
            · rw [hstep]; exact HS.out
          case measure => simp [intOf]
        · have hc : wr.cell? ⟨w.heap.size, p % m, none⟩ = some (.bool false) := by rw [HS.out.cell, seenC_get m F _ hom]; simp [hin]
          have hf : wr.frozen? ⟨w.heap.size, p % m, none⟩ = false := HS.out.frozen _
          have HI : Hid (¬ p % m ∈ F) := hin
          obtain ⟨hg0, hg1⟩ := flat_get L (p % m) (by omega)
          have hM1 : Row (wr.setCell ⟨w.heap.size, p % m, none⟩ (.bool true)) g 65 (flat L) := HM.out.other _ _ _ (by omega)
          have m0 : (wr.setCell ⟨w.heap.size, p % m, none⟩ (.bool true)).cell? ⟨g, p % m * 2, none⟩ = some (.string (L[p % m]'(by omega)).1) := (hM1.cell _).trans hg0
          have m1 : (wr.setCell ⟨w.heap.size, p % m, none⟩ (.bool true)).cell? ⟨g, p % m * 2 + 1, none⟩ = some (.string (L[p % m]'(by omega)).2) := (hM1.cell _).trans hg1
          have hO1 : (wr.setCell ⟨w.heap.size, p % m, none⟩ (.bool true)).ownsRow (w.heap.size + 1) 65 2 (.slice oa n oc) n (flat (sel L F)) := owns_set HO.out _ _ _ (by omega)
          have HO1 : Hid ((wr.setCell ⟨w.heap.size, p % m, none⟩ (.bool true)).ownsRow (w.heap.size + 1) 65 2 (.slice oa n oc) n (flat (sel L F))) := hO1
          have hsz : w.heap.size < wr.heap.size := HS.out.lt
          obtain ⟨s1, hs1⟩ : ∃ s, s = (L[p % m]'(by omega)).1 := ⟨_, rfl⟩
          obtain ⟨s2, hs2⟩ : ∃ s, s = (L[p % m]'(by omega)).2 := ⟨_, rfl⟩
          rw [← hs1] at m0
          rw [← hs2] at m1
          have H1 : Hid (s1 = (L[p % m]'(by omega)).1) := hs1
          have H2 : Hid (s2 = (L[p % m]'(by omega)).2) := hs2
          clear hin hg0 hg1 hM1 hO1 hs1 hs2
          go_wp2_with (at_builtin; refine wpList_append_own _ rfl _ _ 59 rfl (w.heap.size + 1) 65 i0 _ 2 32 Yba.underlying59 hi hz0 hz1 hz2 rfl (by decide) _ n _ rfl (HO1.out.alloc _) ⟨wr.heap.size, 0, none⟩ 1 1 [.string s1, .string s2] rfl rfl ?_ ?_ ?_ ?_ ?_ ?_; rotate_left 5; intro v' w1 hown' hgrow _)
          · go_roundw
            case rel =>
              have hstep : firsts m P p (0 + 1) = F ++ [p % m] := by rw [firsts_miss m P p 0 (by rw [← HV.out, ← HF.out]; exact HI.out), ← HV.out, ← HF.out]
              refine ⟨0 + 1, by omega, by go_num, ?_, ?_, ?_⟩
              · rw [hstep, sel_append L F _ (by omega), ← H1.out, ← H2.out, List.length_append, ← HN.out]; exact hown'
              · rw [hstep, ← seenC_set]
                exact ((HS.out.set _ _).alloc _).grown hgrow (fun e => by have := (HO1.out.lt _ e.symm).1; omega)
              · exact ((HB.out.setCell (p := ⟨w.heap.size, p % m, none⟩) (Nat.le_refl _) _).alloc (by simp; omega) _).grown hgrow (by simp; omega) (fun q hq => by have := (HO1.out.lt _ hq).1; omega)
            case measure => simp [intOf]
          · intro j u hj
            rcases j with _ | _ | j
            · simp at hj; subst hj; exact World.cell?_alloc_at _ _ _ _ (by simp)
            · simp at hj; subst hj; exact World.cell?_alloc_at _ _ _ _ (by simp)
            · simp at hj
          · intro u hu; simp at hu; rcases hu with rfl | rfl <;> rfl
          · unfold maxLen; omega
          · omega
          · simp; omega
      · have hov : (p + k) % P % m = vis P p k % m := by unfold vis; rw [if_neg hk0]
        have hbd : 0 ≤ (((p : Int) + (k : Int)) % (P : Int)).tmod (m : Int) ∧ (((p : Int) + (k : Int)) % (P : Int)).tmod (m : Int) < (m : Int) := by
          rw [Int.tmod_eq_emod_of_nonneg (Int.emod_nonneg _ (by omega))]; exact ⟨Int.emod_nonneg _ (by omega), Int.emod_lt_of_pos _ (by omega)⟩
        have hom : (p + k) % P % m < m := Nat.mod_lt _ hm
        have HV : Hid ((p + k) % P % m = vis P p k % m) := hov
        clear hov
        by_cases hin : (p + k) % P % m ∈ F
        · have hc : wr.cell? ⟨w.heap.size, (p + k) % P % m, none⟩ = some (.bool true) := by rw [HS.out.cell, seenC_get m F _ hom]; simp [hin]
          have HI : Hid ((p + k) % P % m ∈ F) := hin
          clear hin
          go_wp2
          go_roundw
          case rel =>
            have hstep : firsts m P p (k + 1) = F := by rw [firsts_hit m P p k (by rw [← HV.out, ← HF.out]; exact HI.out)]; exact HF.out.symm
            refine ⟨k + 1, by omega, by go_num, ?_, ?_, HB.out⟩
            · rw [hstep, ← HN.out]; exact HO.out
            · rw [hstep]; exact HS.out
          case measure => simp [intOf]; omega
        · have hc : wr.cell? ⟨w.heap.size, (p + k) % P % m, none⟩ = some (.bool false) := by rw [HS.out.cell, seenC_get m F _ hom]; simp [hin]
          have hf : wr.frozen? ⟨w.heap.size, (p + k) % P % m, none⟩ = false := HS.out.frozen _
          have HI : Hid (¬ (p + k) % P % m ∈ F) := hin
          obtain ⟨hg0, hg1⟩ := flat_get L ((p + k) % P % m) (by omega)
          have hM1 : Row (wr.setCell ⟨w.heap.size, (p + k) % P % m, none⟩ (.bool true)) g 65 (flat L) := HM.out.other _ _ _ (by omega)
          have m0 : (wr.setCell ⟨w.heap.size, (p + k) % P % m, none⟩ (.bool true)).cell? ⟨g, (p + k) % P % m * 2, none⟩ = some (.string (L[(p + k) % P % m]'(by omega)).1) := (hM1.cell _).trans hg0
          have m1 : (wr.setCell ⟨w.heap.size, (p + k) % P % m, none⟩ (.bool true)).cell? ⟨g, (p + k) % P % m * 2 + 1, none⟩ = some (.string (L[(p + k) % P % m]'(by omega)).2) := (hM1.cell _).trans hg1
          have hO1 : (wr.setCell ⟨w.heap.size, (p + k) % P % m, none⟩ (.bool true)).ownsRow (w.heap.size + 1) 65 2 (.slice oa n oc) n (flat (sel L F)) := owns_set HO.out _ _ _ (by omega)
          have HO1 : Hid ((wr.setCell ⟨w.heap.size, (p + k) % P % m, none⟩ (.bool true)).ownsRow (w.heap.size + 1) 65 2 (.slice oa n oc) n (flat (sel L F))) := hO1
          have hsz : w.heap.size < wr.heap.size := HS.out.lt
          obtain ⟨s1, hs1⟩ : ∃ s, s = (L[(p + k) % P % m]'(by omega)).1 := ⟨_, rfl⟩
          obtain ⟨s2, hs2⟩ : ∃ s, s = (L[(p + k) % P % m]'(by omega)).2 := ⟨_, rfl⟩
          rw [← hs1] at m0
          rw [← hs2] at m1
          have H1 : Hid (s1 = (L[(p + k) % P % m]'(by omega)).1) := hs1
          have H2 : Hid (s2 = (L[(p + k) % P % m]'(by omega)).2) := hs2
          clear hin hg0 hg1 hM1 hO1 hs1 hs2
          go_wp2_with (at_builtin; refine wpList_append_own _ rfl _ _ 59 rfl (w.heap.size + 1) 65 i0 _ 2 32 Yba.underlying59 hi hz0 hz1 hz2 rfl (by decide) _ n _ rfl (HO1.out.alloc _) ⟨wr.heap.size, 0, none⟩ 1 1 [.string s1, .string s2] rfl rfl ?_ ?_ ?_ ?_ ?_ ?_; rotate_left 5; intro v' w1 hown' hgrow _)
          · go_roundw
            case rel =>
              have hstep : firsts m P p (k + 1) = F ++ [(p + k) % P % m] := by rw [firsts_miss m P p k (by rw [← HV.out, ← HF.out]; exact HI.out), ← HV.out, ← HF.out]
              refine ⟨k + 1, by omega, by go_num, ?_, ?_, ?_⟩
              · rw [hstep, sel_append L F _ (by omega), ← H1.out, ← H2.out, List.length_append, ← HN.out]; exact hown'
              · rw [hstep, ← seenC_set]
                exact ((HS.out.set _ _).alloc _).grown hgrow (fun e => by have := (HO1.out.lt _ e.symm).1; omega)
              · exact ((HB.out.setCell (p := ⟨w.heap.size, (p + k) % P % m, none⟩) (Nat.le_refl _) _).alloc (by simp; omega) _).grown hgrow (by simp; omega) (fun q hq => by have := (HO1.out.lt _ hq).1; omega)
            case measure => simp [intOf]; omega
          · intro j u hj
            rcases j with _ | _ | j
            · simp at hj; subst hj; exact World.cell?_alloc_at _ _ _ _ (by simp)
            · simp at hj; subst hj; exact World.cell?_alloc_at _ _ _ _ (by simp)
            · simp at hj
          · intro u hu; simp at hu; rcases hu with rfl | rfl <;> rfl
          · unfold maxLen; omega
          · omega
          · simp; omega
    · have hfin : F = firsts m P p (P + 1) ∧ n = m := by
        have hfull := firsts_full m P p hm hP
        by_cases e : k = P + 1
        · subst e
          have : n = m := by rw [HN.out, HF.out]; exact hfull
          exact ⟨HF.out, this⟩
        · have hnm : n = m := by omega
          exact ⟨by rw [HF.out]; exact firsts_whole m P p k hm hP (by omega) (by rw [← HF.out, ← HN.out]; exact hnm), hnm⟩
      have HE : Hid (F = firsts m P p (P + 1) ∧ n = m) := hfin
      have fin : wr.ownsRow (w.heap.size + 1) 65 2 (.slice oa n oc) m (flat (sel L (firsts m P p (P + 1)))) := by
        rw [← HE.out.1, ← HE.out.2]; exact HO.out
      have HX : Hid (wr.ownsRow (w.heap.size + 1) 65 2 (.slice oa n oc) m (flat (sel L (firsts m P p (P + 1))))) := fin
      clear fin hfin
      by_cases hkP : k ≤ P
      · have hnm : ¬ n < m := by omega
        go_wp2
        go_ret
        exact ⟨_, rfl, HX.out, HB.out⟩
      · go_wp2
        go_ret
        exact ⟨_, rfl, HX.out, HB.out⟩
end Go.Proofs.Ybulkbgyy
