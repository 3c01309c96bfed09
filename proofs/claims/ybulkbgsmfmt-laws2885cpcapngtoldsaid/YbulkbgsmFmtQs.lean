import Derived.Test.YbulkbgsmFmtRp
import Derived.Test.YbulkbgsmFmtRk
import Derived.Test.YbulkbgsmFmtNz
namespace Go.Proofs.YbulkbgsmFmt
open Go.RowKit

/-- The link type that a block describes. -/
def Bk.link? : Bk → Option Int
  | ⟨false, false, l, _, _⟩ => some l
  | _ => none
/-- The link types described ahead of block k. -/
def lnk (bs : List Bk) (k : Nat) : List Int := (bs.take k).filterMap Bk.link?
theorem lnk_succ (bs : List Bk) (k : Nat) (hk : k < bs.length) : lnk bs (k + 1) = lnk bs k ++ bs[k].link?.toList := by
  unfold lnk
  rw [List.take_succ_eq_append_getElem hk, List.filterMap_append]
  cases h : bs[k].link? <;> simp [h]
theorem lnk_len (bs : List Bk) (k : Nat) : (lnk bs k).length ≤ k := by
  unfold lnk
  refine Nat.le_trans (List.length_filterMap_le _ _) ?_
  simp
  omega
/-- The interfaces' cells. -/
def icells (ls : List Int) : List Value := ls.flatMap fun l => [.int .i64 l, .int .u32 0]
theorem icells_app (a b : List Int) : icells (a ++ b) = icells a ++ icells b := by simp [icells]
theorem icells_get : ∀ (ls : List Int) (i : Nat) (l : Int), ls[i]? = some l → (icells ls)[i * 2]? = some (.int .i64 l) ∧ (icells ls)[i * 2 + 1]? = some (.int .u32 0)
  | [], i, l, h => by simp at h
  | a :: r, 0, l, h => by
    simp at h
    subst h
    simp [icells]
  | a :: r, i + 1, l, h => by
    have := icells_get r i l (by simpa using h)
    have e1 : (i + 1) * 2 = i * 2 + 2 := by omega
    rw [e1]
    simpa [icells] using this

/-- What is not the reader's own: all before M, the blocks X (the result's, ..), the interfaces' block. -/
def VV (M : Nat) (X : Nat → Prop) (ifs : Value) : Nat → Prop := fun k => k < M ∨ X k ∨ ifs.ownBlock = some k

/-- The set of what is not the reader's own may turn: new are blocks of other kinds alone. -/
theorem Cq.reK {w : World} {V V' : Nat → Prop} {Q B Y U D cap : Nat} {L : List Int} {p : Nat} {ord : Value} {fr : Int} {ifs : Value} (h : Cq w V Q B Y U D cap L p ord fr ifs) (hV : ∀ k, V' k → V k ∨ ∃ e xs, Row w k e xs ∧ e ≠ 65 ∧ e ≠ 79 ∧ e ≠ 73 ∧ e ≠ 5) (hD : V' D) (h10 : ∀ k, k < 10 → V' k) (hl : ∀ k, V' k → k < w.heap.size) : Cq w V' Q B Y U D cap L p ord fr ifs := by
  obtain ⟨⟨offs, lk, at', bv, hQ, hr⟩, hsp, a1, a2, a3, a4, a5, a6, a7, a8, a9, a10⟩ := h
  have hsp' := hsp
  obtain ⟨i, r, v, hs, _⟩ := hsp'
  obtain ⟨⟨_, _, s1⟩, ⟨_, s2⟩, ⟨_, _, s3, _⟩, _⟩ := hs
  refine ⟨⟨offs, lk, at', bv, hQ, ?_⟩, hsp, fun h => (hV _ h).elim a1 (fun ⟨e, xs, hx, e1, _⟩ => hx.same hQ e1 rfl), fun h => (hV _ h).elim a2 (fun ⟨e, xs, hx, _, e1, _⟩ => hx.same s1 e1 rfl), fun h => (hV _ h).elim a3 (fun ⟨e, xs, hx, _, _, e1, _⟩ => hx.same s2 e1 rfl), fun h => (hV _ h).elim a4 (fun ⟨e, xs, hx, _, _, _, e1⟩ => hx.same s3 e1 rfl), hD, h10, hl, a8, a9, a10⟩
  rcases hr with h | ⟨P, cp, qs, rfl, h2, h3, h4, h5, h6, h7, h8, h9⟩
  · exact .inl h
  · exact .inr ⟨P, cp, qs, rfl, h2, h3, fun h => (hV _ h).elim h4 (fun ⟨e, xs, hx, _, _, _, e1⟩ => hx.same h3 e1 rfl), h5, h6, h7, h8, h9⟩

/-- Blocks that are not the reader's own turn (but the file's). -/
theorem Cq.keptOut {w w' : World} {V p : Nat → Prop} {Q B Y U D cap : Nat} {L : List Int} {q : Nat} {ord : Value} {fr : Int} {ifs : Value} (h : Cq w V Q B Y U D cap L q ord fr ifs) (hk : Kept p w w') (hp : ∀ k, p k → V k ∧ k ≠ D) : Cq w' V Q B Y U D cap L q ord fr ifs := by
  obtain ⟨⟨offs, lk, at', bv, hQ, hr⟩, hsp, a1, a2, a3, a4, a5, a6, a7, a8, a9, a10⟩ := h
  refine ⟨⟨offs, lk, at', bv, hQ.kept hk (fun h => a1 (hp _ h).1), ?_⟩, hsp.kept hk (fun h => a2 (hp _ h).1) (fun h => a3 (hp _ h).1) (fun h => a4 (hp _ h).1) (fun h => (hp _ h).2 rfl), a1, a2, a3, a4, a5, a6, fun k hV => Nat.lt_of_lt_of_le (a7 k hV) hk.size, a8, a9, a10⟩
  rcases hr with h | ⟨P, cp, qs, h1, h2, h3, h4, h5⟩
  · exact .inl h
  · exact .inr ⟨P, cp, qs, h1, h2, h3.kept hk (fun h => h4 (hp _ h).1), h4, h5⟩

theorem own_row {w : World} {base : Nat} {e : TypeId} {size : Nat} {v : Value} {n : Nat} {xs : List Value} (h : w.ownsRow base e size v n xs) {k : Nat} (hk : v.ownBlock = some k) : ∃ ys, Row w k e ys := by
  rcases h.2 with ⟨rfl, _⟩ | ⟨g, cap, cur, rfl, _, hg, _⟩
  · cases hk
  · simp [Value.ownBlock] at hk
    subst hk
    exact ⟨cur.toList, by unfold Row; simpa using hg⟩

/-- The reader ahead of block k. -/
def Nst (w : World) (M : Nat) (X : Nat → Prop) (Q B Y U D cap : Nat) (big : Bool) (bs : List Bk) (k : Nat) (fr : Int) (ifs : Value) : Prop :=
  Cq w (VV M X ifs) Q B Y U D cap (pfile big bs) (pos big bs k) (bo big) fr ifs ∧ w.ownsRow M 89 2 ifs (lnk bs k).length (icells (lnk bs k)) ∧ D < M ∧ 10 ≤ M

section
variable {w w' : World} {M : Nat} {X : Nat → Prop} {Q B Y U D cap : Nat} {big : Bool} {bs : List Bk} {k : Nat} {fr : Int} {ifs : Value}

theorem own_keptV {V : Nat → Prop} {base : Nat} {e : TypeId} {size : Nat} {v : Value} {n : Nat} {xs : List Value} (h : w.ownsRow base e size v n xs) (hk : Kept (fun j => ¬ V j) w w') (hv : ∀ j, v.ownBlock = some j → V j) : w'.ownsRow base e size v n xs := by
  refine ⟨h.1, ?_⟩
  rcases h.2 with hn | ⟨g, cap, cur, rfl, hb, hgg, rest⟩
  · exact .inl hn
  · exact .inr ⟨g, cap, cur, rfl, hb, (hk.block g (Array.getElem?_eq_some_iff.1 hgg).1 (fun h => h (hv g rfl))).trans hgg, rest⟩

/-- The interface is appended: the state behind. -/
theorem nst_app {p : Nat} {xs : List Value} {oa : Option Addr} {oc n g cg : Nat} {w3 : World} {news : Value} (hC : Cq w (VV M X (.slice oa n oc)) Q B Y U D cap (pfile big bs) p (bo big) fr (.slice oa n oc)) (hO : w.ownsRow M 89 2 (.slice oa n oc) n xs) (hDM : D < M) (h10 : 10 ≤ M) (hk : Kept (fun j => (Value.slice oa n oc).ownBlock = some j) w w3) (hown : w3.ownsRow M 89 2 (.slice (some ⟨g, 0, none⟩) (n + 1) cg) (n + 1) (xs ++ [news, .int .u32 0])) :
    Cq (w3.setCell ⟨Q, 7, none⟩ (.slice (some ⟨g, 0, none⟩) (n + 1) cg)) (VV M X (.slice (some ⟨g, 0, none⟩) (n + 1) cg)) Q B Y U D cap (pfile big bs) p (bo big) fr (.slice (some ⟨g, 0, none⟩) (n + 1) cg) ∧ (w3.setCell ⟨Q, 7, none⟩ (.slice (some ⟨g, 0, none⟩) (n + 1) cg)).ownsRow M 89 2 (.slice (some ⟨g, 0, none⟩) (n + 1) cg) (n + 1) (xs ++ [news, .int .u32 0]) := by
  have hDn : ∀ j, (Value.slice oa n oc).ownBlock = some j → j ≠ D := by
    intro j hj e
    subst e
    obtain ⟨ys, hy⟩ := own_row hO hj
    obtain ⟨i, r, v, hs, _⟩ := hC.sp
    obtain ⟨_, hd⟩ := hs.dat
    exact hy.same hd (by decide) rfl
  have h1 := hC.keptOut hk (fun j hj => ⟨.inr (.inr hj), hDn j hj⟩)
  obtain ⟨ys, hy⟩ := own_row hown (k := g) rfl
  have hXl := hC.vl
  have h2 : Cq w3 (VV M X (.slice (some ⟨g, 0, none⟩) (n + 1) cg)) Q B Y U D cap (pfile big bs) p (bo big) fr (.slice oa n oc) := by
    refine h1.reK (fun k hV => ?_) (.inl hDM) (fun k hk => .inl (by omega)) (fun k hV => ?_)
    · rcases hV with hV | hV | hV
      · exact .inl (.inl hV)
      · exact .inl (.inr (.inl hV))
      · simp [Value.ownBlock] at hV
        subst hV
        exact .inr ⟨89, ys, hy, by decide, by decide, by decide, by decide⟩
    · rcases hV with hV | hV | hV
      · exact h1.vl k (.inl hV)
      · exact h1.vl k (.inr (.inl hV))
      · simp [Value.ownBlock] at hV
        subst hV
        exact hy.lt
  have hgQ : g ≠ Q := by
    obtain ⟨_, _, _, _, hq, _⟩ := h1.row
    exact hy.same hq (by decide)
  refine ⟨h2.setIfs _, ?_⟩
  have hs := (Kept.refl (fun k => k = Q) w3).setCell (g := Q) (j := 7) (fun _ => rfl) (.slice (some ⟨g, 0, none⟩) (n + 1) cg)
  refine ⟨hown.1, ?_⟩
  rcases hown.2 with ⟨hn, _⟩ | ⟨g', cap', cur, hv, hb, hgg, rest⟩
  · cases hn
  · cases hv
    exact .inr ⟨g, cg, cur, rfl, hb, (hs.block g (Array.getElem?_eq_some_iff.1 hgg).1 hgQ).trans hgg, rest⟩

/-- The blocks X may turn: new are blocks of other kinds alone. -/
theorem Nst.reX {X' : Nat → Prop} (h : Nst w M X Q B Y U D cap big bs k fr ifs) (hX : ∀ k, X' k → X k ∨ ∃ e xs, Row w k e xs ∧ e ≠ 65 ∧ e ≠ 79 ∧ e ≠ 73 ∧ e ≠ 5) : Nst w M X' Q B Y U D cap big bs k fr ifs := by
  refine ⟨h.1.reK (fun k hV => ?_) (.inl h.2.2.1) (fun k hk => .inl (by have := h.2.2.2; omega)) (fun k hV => ?_), h.2⟩
  · rcases hV with hV | hV | hV
    · exact .inl (.inl hV)
    · exact (hX k hV).elim (fun hx => .inl (.inr (.inl hx))) .inr
    · exact .inl (.inr (.inr hV))
  · rcases hV with hV | hV | hV
    · exact h.1.vl k (.inl hV)
    · exact (hX k hV).elim (fun hx => h.1.vl k (.inr (.inl hx))) (fun ⟨_, _, hr, _⟩ => hr.lt)
    · exact h.1.vl k (.inr (.inr hV))
end
end Go.Proofs.YbulkbgsmFmt
