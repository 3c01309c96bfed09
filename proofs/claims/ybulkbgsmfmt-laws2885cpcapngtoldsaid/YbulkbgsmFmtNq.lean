import Derived.Test.YbulkbgsmFmtNa
namespace Go.Proofs.YbulkbgsmFmt
open Go.RowKit

section
variable {w : World} {M : Nat} {X : Nat → Prop} {Q B Y U D cap : Nat} {big : Bool} {bs : List Bk} {k : Nat} {fr : Int} {ifs : Value}

/-- The result's block besides. -/
abbrev X1 (X : Nat → Prop) (Z : Nat) : Nat → Prop := fun k => X k ∨ k = Z

theorem Nst.widen (h : Nst w M X Q B Y U D cap big bs k fr ifs) : Nst (nw w) M (X1 X w.heap.size) Q B Y U D cap big bs k fr ifs := by
  refine (h.kept (nw_kept w)).reX (fun k hk => ?_)
  rcases hk with hk | hk
  · exact .inl hk
  · subst hk
    exact .inr ⟨37, _, nw_row w, by decide, by decide, by decide, by decide⟩

theorem Nst.narrow {Z : Nat} (h : Nst w M (X1 X Z) Q B Y U D cap big bs k fr ifs) : Nst w M X Q B Y U D cap big bs k fr ifs := h.reX (fun _ hk => .inl (.inl hk))

theorem own_set {base : Nat} {e : TypeId} {size : Nat} {v : Value} {n : Nat} {xs : List Value} (h : w.ownsRow base e size v n xs) (g j : Nat) (u : Value) (hg : ¬ v.ownBlock = some g) : (w.setCell ⟨g, j, none⟩ u).ownsRow base e size v n xs := by
  have hs := (Kept.refl (fun k => k = g) w).setCell (g := g) (j := j) (fun _ => rfl) u
  refine ⟨h.1, ?_⟩
  rcases h.2 with hn | ⟨g', cap, cur, rfl, hb, hgg, rest⟩
  · exact .inl hn
  · exact .inr ⟨g', cap, cur, rfl, hb, (hs.block g' (Array.getElem?_eq_some_iff.1 hgg).1 (fun e => hg (by rw [← e]; rfl))).trans hgg, rest⟩

theorem Nst.setX (h : Nst w M X Q B Y U D cap big bs k fr ifs) {Z : Nat} (hZ : X Z) (hM : M ≤ Z) (hX : ∃ xs, Row w Z 37 xs) (j : Nat) (u : Value) : Nst (w.setCell ⟨Z, j, none⟩ u) M X Q B Y U D cap big bs k fr ifs := by
  have hD := h.2.2.1
  refine ⟨h.1.other Z j u (.inr (.inl hZ)) (by omega), own_set h.2.1 Z j u (fun e => ?_), h.2.2⟩
  obtain ⟨xs, hx⟩ := hX
  obtain ⟨ys, hy⟩ := own_row h.2.1 e
  exact hx.same hy (by decide) rfl

theorem Nst.setFr (h : Nst w M X Q B Y U D cap big bs k fr ifs) (x : Int) : Nst (w.setCell ⟨Q, 3, none⟩ (.int .i64 x)) M X Q B Y U D cap big bs k x ifs :=
  ⟨h.1.setFr x, own_set h.2.1 Q 3 _ (fun e => h.1.vQ (.inr (.inr e))), h.2.2⟩
end

theorem kfin2 {w w2 w3 : World} {M Q : Nat} {X : Nat → Prop} (hk : Kept (fun j => M ≤ j ∧ ¬ X1 X w.heap.size j) (nw w) w2) (hkX : Kept (fun k => k = w.heap.size ∨ k = Q) w2 w3) (hM : M ≤ w.heap.size) (hXl : ∀ k, X k → k < w.heap.size) (hQ : M ≤ Q) (hQX : ¬ X Q) : Kept (fun k => M ≤ k ∧ ¬ X k) w w3 :=
  ((Kept.mono (q := fun k => M ≤ k ∧ ¬ X k) (nw_kept w) (fun _ _ h => h.elim)).trans (Kept.mono (q := fun k => M ≤ k ∧ ¬ X k) hk (fun _ _ h => ⟨h.1, fun hx => h.2 (.inl hx)⟩))).trans (Kept.mono (q := fun k => M ≤ k ∧ ¬ X k) hkX (fun k _ h => by
    rcases h with rfl | rfl
    · exact ⟨hM, fun hx => Nat.lt_irrefl _ (hXl _ hx)⟩
    · exact ⟨hQ, hQX⟩))
theorem kfin {w w2 w3 : World} {M : Nat} {X p : Nat → Prop} (hk : Kept (fun j => M ≤ j ∧ ¬ X1 X w.heap.size j) (nw w) w2) (hkX : Kept p w2 w3) (hp : ∀ k, p k → k = w.heap.size) (hM : M ≤ w.heap.size) (hXl : ∀ k, X k → k < w.heap.size) : Kept (fun k => M ≤ k ∧ ¬ X k) w w3 :=
  ((Kept.mono (q := fun k => M ≤ k ∧ ¬ X k) (nw_kept w) (fun _ _ h => h.elim)).trans (Kept.mono (q := fun k => M ≤ k ∧ ¬ X k) hk (fun _ _ h => ⟨h.1, fun hx => h.2 (.inl hx)⟩))).trans (Kept.mono (q := fun k => M ≤ k ∧ ¬ X k) hkX (fun k _ h => by
    have := hp k h
    subst this
    exact ⟨hM, fun hx => Nat.lt_irrefl _ (hXl _ hx)⟩))

set_option maxHeartbeats 1000000 in
set_option maxRecDepth 100000 in
/-- Next at the end of the file. -/
theorem nextp_eof (M : Nat) (X : Nat → Prop) (Q B Y U D cap : Nat) (big : Bool) (bs : List Bk) (k k' : Nat) (fr : Int) (ifs : Value) (ae : Addr) (w : World) (hXl : ∀ k, X k → k < w.heap.size) (h : Nst w M X Q B Y U D cap big bs k fr ifs)
    (HN : Calls Ybaf.prog 22 #[.pointer (some ⟨Q, 0, none⟩)] (nw w) fun e w' => ∃ (oa : Option Addr) (oc : Nat), e = .returned (.tuple #[.int .i64 0, .slice none 0 0, .iface 96 (.pointer (some ae))]) ∧ Nst w' M (X1 X w.heap.size) Q B Y U D cap big bs k' fr (.slice oa (lnk bs k').length oc) ∧ Kept (fun j => M ≤ j ∧ ¬ X1 X w.heap.size j) (nw w) w') :
    Calls Ybaf.prog 9 #[.pointer (some ⟨Q, 0, none⟩)] w fun e w' => e = .returned (.tuple #[.agg #[.int .i64 0, .int .i64 0, .slice none 0 0], .iface 96 (.pointer (some ae))]) ∧ Kept (fun k => M ≤ k ∧ ¬ X k) w w' := by
  have hM : M ≤ w.heap.size := by
    have h1 := h.1.lQ
    have h2 := h.1.vQ
    have : ¬ Q < M := fun e => h2 (.inl e)
    omega
  have HN' : Hid _ := HN
  have hn := nw_row w
  obtain ⟨o, l, a, v, hQ, _⟩ := h.1.row
  have c1 : w.cell? ⟨Q, 1, none⟩ = some (.bool true) := hQ.cell 1
  have hQl := hQ.lt
  clear HN h
  go_enter Ybaf.func9, Ybaf.ntmps9
  go_wp2_with fail
  refine Calls.mono HN'.out ?_
  rintro _ w2 ⟨oa, oc, rfl, hs, hk⟩
  have hR : Row w2 w.heap.size 37 [.int .i64 0, .int .i64 0, .slice none 0 0] := hn.kept hk (fun h => h.2 (.inr rfl))
  have hkX : Kept (fun k => k = w.heap.size) w2 (((w2.setCell ⟨w.heap.size, 0, none⟩ (.int .i64 0)).setCell ⟨w.heap.size, 1, none⟩ (.int .i64 0)).setCell ⟨w.heap.size, 2, none⟩ (.slice none 0 0)) := (((Kept.refl (fun k => k = w.heap.size) w2).setCell (g := w.heap.size) (j := 0) (fun _ => rfl) _).setCell (g := w.heap.size) (j := 1) (fun _ => rfl) _).setCell (g := w.heap.size) (j := 2) (fun _ => rfl) _
  have HF : Hid (Kept (fun k => M ≤ k ∧ ¬ X k) w (((w2.setCell ⟨w.heap.size, 0, none⟩ (.int .i64 0)).setCell ⟨w.heap.size, 1, none⟩ (.int .i64 0)).setCell ⟨w.heap.size, 2, none⟩ (.slice none 0 0))) := kfin hk hkX (fun k h => h) hM hXl
  have d0 : w2.cell? ⟨w.heap.size, 0, none⟩ = some (.int .i64 0) := hR.cell 0
  have d1 : w2.cell? ⟨w.heap.size, 1, none⟩ = some (.int .i64 0) := hR.cell 1
  have d2 : w2.cell? ⟨w.heap.size, 2, none⟩ = some (.slice none 0 0) := hR.cell 2
  have g0 := hR.frozen 0
  have g1 := hR.frozen 1
  have g2 := hR.frozen 2
  clear hs hk hR hkX HN' hn hQ c1
  go_wp2_with fail
  refine bodyPost_ret (v := .tuple #[.agg #[.int .i64 0, .int .i64 0, .slice none 0 0], .iface 96 (.pointer (some ae))]) ?_ rfl ?_
  · rw [results_cell_tmp rfl]
    go_simp
  · exact ⟨rfl, HF.out⟩

set_option maxHeartbeats 1000000 in
set_option maxRecDepth 100000 in
/-- Next, a frame. -/
theorem nextp_ok (M : Nat) (X : Nat → Prop) (Q B Y U D cap : Nat) (big : Bool) (bs : List Bk) (k k' : Nat) (fr : Nat) (ifs : Value) (lk : Int) (f : List Int) (w : World) (hXl : ∀ k, X k → k < w.heap.size) (h : Nst w M X Q B Y U D cap big bs k (fr : Int) ifs) (hfr : fr ≤ 1000000)
    (HN : Calls Ybaf.prog 22 #[.pointer (some ⟨Q, 0, none⟩)] (nw w) fun e w' => ∃ (oa : Option Addr) (oc P off c : Nat), e = .returned (.tuple #[.int .i64 lk, .slice (some ⟨P, off, none⟩) f.length c, .nilIface]) ∧ Fd w' (VV M (X1 X w.heap.size) (.slice oa (lnk bs k').length oc)) Q P off f ∧ Nst w' M (X1 X w.heap.size) Q B Y U D cap big bs (k' + 1) (fr : Int) (.slice oa (lnk bs k').length oc) ∧ Kept (fun j => M ≤ j ∧ ¬ X1 X w.heap.size j) (nw w) w') :
    Calls Ybaf.prog 9 #[.pointer (some ⟨Q, 0, none⟩)] w fun e w' => ∃ (oa : Option Addr) (oc P off c : Nat), e = .returned (.tuple #[.agg #[.int .i64 ((fr : Int) + 1), .int .i64 lk, .slice (some ⟨P, off, none⟩) f.length c], .nilIface]) ∧ (∀ j x, f[j]? = some x → w'.cell? ⟨P, off + j, none⟩ = some (.int .u8 x)) ∧ Nst w' M X Q B Y U D cap big bs (k' + 1) ((fr : Int) + 1) (.slice oa (lnk bs k').length oc) ∧ Kept (fun k => M ≤ k ∧ ¬ X k) w w' := by
  have hM : M ≤ w.heap.size := by
    have h1 := h.1.lQ
    have h2 := h.1.vQ
    have : ¬ Q < M := fun e => h2 (.inl e)
    omega
  have HN' : Hid _ := HN
  have hn := nw_row w
  obtain ⟨o, l, a, v, hQ, _⟩ := h.1.row
  have c1 : w.cell? ⟨Q, 1, none⟩ = some (.bool true) := hQ.cell 1
  have hQl := hQ.lt
  clear HN h
  go_enter Ybaf.func9, Ybaf.ntmps9
  go_wp2_with fail
  refine Calls.mono HN'.out ?_
  rintro _ w2 ⟨oa, oc, P, off, c, rfl, hF, hs, hk⟩
  have hR : Row w2 w.heap.size 37 [.int .i64 0, .int .i64 0, .slice none 0 0] := hn.kept hk (fun h => h.2 (.inr rfl))
  obtain ⟨o2, l2, a2, v2, hQ2, _⟩ := hs.1.row
  have hQX : Q ≠ w.heap.size := Nat.ne_of_lt hQl
  have hQM : M ≤ Q := Nat.le_of_not_lt (fun e => hs.1.vQ (.inl e))
  have hkX : Kept (fun k => k = w.heap.size ∨ k = Q) w2 ((((w2.setCell ⟨Q, 3, none⟩ (.int .i64 ((fr : Int) + 1))).setCell ⟨w.heap.size, 0, none⟩ (.int .i64 ((fr : Int) + 1))).setCell ⟨w.heap.size, 1, none⟩ (.int .i64 lk)).setCell ⟨w.heap.size, 2, none⟩ (.slice (some ⟨P, off, none⟩) f.length c)) := ((((Kept.refl (fun k => k = w.heap.size ∨ k = Q) w2).setCell (g := Q) (j := 3) (fun _ => .inr rfl) _).setCell (g := w.heap.size) (j := 0) (fun _ => .inl rfl) _).setCell (g := w.heap.size) (j := 1) (fun _ => .inl rfl) _).setCell (g := w.heap.size) (j := 2) (fun _ => .inl rfl) _
  have hX1 : ∃ xs, Row (w2.setCell ⟨Q, 3, none⟩ (.int .i64 ((fr : Int) + 1))) w.heap.size 37 xs := ⟨_, hR.other Q 3 _ (fun e => hQX e.symm)⟩
  have hX2 : ∃ xs, Row ((w2.setCell ⟨Q, 3, none⟩ (.int .i64 ((fr : Int) + 1))).setCell ⟨w.heap.size, 0, none⟩ (.int .i64 ((fr : Int) + 1))) w.heap.size 37 xs := ⟨_, (hR.other Q 3 _ (fun e => hQX e.symm)).set 0 _⟩
  have hX3 : ∃ xs, Row (((w2.setCell ⟨Q, 3, none⟩ (.int .i64 ((fr : Int) + 1))).setCell ⟨w.heap.size, 0, none⟩ (.int .i64 ((fr : Int) + 1))).setCell ⟨w.heap.size, 1, none⟩ (.int .i64 lk)) w.heap.size 37 xs := ⟨_, ((hR.other Q 3 _ (fun e => hQX e.symm)).set 0 _).set 1 _⟩
  have HF : Hid ((∀ j x, f[j]? = some x → ((((w2.setCell ⟨Q, 3, none⟩ (.int .i64 ((fr : Int) + 1))).setCell ⟨w.heap.size, 0, none⟩ (.int .i64 ((fr : Int) + 1))).setCell ⟨w.heap.size, 1, none⟩ (.int .i64 lk)).setCell ⟨w.heap.size, 2, none⟩ (.slice (some ⟨P, off, none⟩) f.length c)).cell? ⟨P, off + j, none⟩ = some (.int .u8 x)) ∧ Nst ((((w2.setCell ⟨Q, 3, none⟩ (.int .i64 ((fr : Int) + 1))).setCell ⟨w.heap.size, 0, none⟩ (.int .i64 ((fr : Int) + 1))).setCell ⟨w.heap.size, 1, none⟩ (.int .i64 lk)).setCell ⟨w.heap.size, 2, none⟩ (.slice (some ⟨P, off, none⟩) f.length c)) M X Q B Y U D cap big bs (k' + 1) ((fr : Int) + 1) (.slice oa (lnk bs k').length oc) ∧ Kept (fun k => M ≤ k ∧ ¬ X k) w ((((w2.setCell ⟨Q, 3, none⟩ (.int .i64 ((fr : Int) + 1))).setCell ⟨w.heap.size, 0, none⟩ (.int .i64 ((fr : Int) + 1))).setCell ⟨w.heap.size, 1, none⟩ (.int .i64 lk)).setCell ⟨w.heap.size, 2, none⟩ (.slice (some ⟨P, off, none⟩) f.length c))) :=
    ⟨fun j x hx => hkX.cell (hF.1 j x hx) (fun e => e.elim (fun e => hF.2.2.1 (.inr (.inl (.inr e)))) hF.2.2.2), ((((hs.setFr ((fr : Int) + 1)).setX (.inr rfl) hM hX1 0 _).setX (.inr rfl) hM hX2 1 _).setX (.inr rfl) hM hX3 2 _).narrow, kfin2 hk hkX hM hXl hQM (fun e => hs.1.vQ (.inr (.inl (.inl e))))⟩
  have d0 : w2.cell? ⟨w.heap.size, 0, none⟩ = some (.int .i64 0) := hR.cell 0
  have d1 : w2.cell? ⟨w.heap.size, 1, none⟩ = some (.int .i64 0) := hR.cell 1
  have d2 : w2.cell? ⟨w.heap.size, 2, none⟩ = some (.slice none 0 0) := hR.cell 2
  have g0 := hR.frozen 0
  have g1 := hR.frozen 1
  have g2 := hR.frozen 2
  have q3 : w2.cell? ⟨Q, 3, none⟩ = some (.int .i64 (fr : Int)) := hQ2.cell 3
  have qf := hQ2.frozen 3
  have hw : IntKind.i64.wrap ((fr : Int) + 1) = (fr : Int) + 1 := IntWalk.i64_in _ (by omega)
  clear hk hs hF hR hkX HN' hn hQ c1 hQ2 hX1 hX2 hX3
  go_wp2_with fail
  refine bodyPost_ret (v := .tuple #[.agg #[.int .i64 ((fr : Int) + 1), .int .i64 lk, .slice (some ⟨P, off, none⟩) f.length c], .nilIface]) ?_ rfl ?_
  · rw [results_cell_tmp rfl]
    go_simp
  · exact ⟨oa, oc, P, off, c, rfl, HF.out⟩
end Go.Proofs.YbulkbgsmFmt
