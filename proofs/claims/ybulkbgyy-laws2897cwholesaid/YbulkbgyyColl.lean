import Derived.Test.YbulkbgyyYield
import Derived.Test.YbulkbgyyStop3
namespace Go.Proofs.Ybulkbgyy
open Go.RowKit Go.Shelf

/-- What the collecting loop of LawS2897CWhole keeps: 'os' lie in the box gb, 'se' are marked; D: the block of the rounds' deferred calls, D + 1: the loop's record, D + 2: the iterator's marks. -/
structure Coll (gb D m : Nat) (L : List Mem) (w : World) (r : Loop) (os se : List Nat) (W : World) : Prop where
  log : ∃ v, W.cell? ⟨gb, 0, none⟩ = some v ∧ W.ownsRow (D + 3) 65 2 v os.length (flat (sel L os))
  free : W.frozen? ⟨gb, 0, none⟩ = false
  seen : Row W (D + 2) 4 (seenC m se)
  book : W.heap[D + 1]? = some (.loop r)
  dfr : W.heap[D]? = some (.deferred (some []))
  stays : Stays gb D w W

theorem coll_start (gb m : Nat) (L : List Mem) (w : World) (r : Loop) (cl : w.cell? ⟨gb, 0, none⟩ = some (.slice none 0 0)) (fl : w.frozen? ⟨gb, 0, none⟩ = false) :
    Coll gb w.heap.size m L w r [] [] (((w.alloc (.deferred (some []))).alloc (.loop r)).alloc (.cells (madeCells #[.bool false] m) 4)) := by
  have ll := lt_of_cell cl
  refine ⟨⟨_, ?_, World.ownsRow_nil _ _ _ _⟩, ?_, ?_, ?_, ?_, ?_⟩
  · exact (World.cell?_alloc_past _ _ _ (by simp; omega)).trans ((World.cell?_alloc_past _ _ _ (by simp; omega)).trans ((World.cell?_alloc_past _ _ _ ll).trans cl))
  · exact (World.frozen?_alloc_past _ _ _ (by simp; omega)).trans ((World.frozen?_alloc_past _ _ _ (by simp; omega)).trans ((World.frozen?_alloc_past _ _ _ ll).trans fl))
  · rw [← seenC_made]
    have := Row.new ((w.alloc (.deferred (some []))).alloc (.loop r)) 4 (madeCells #[.bool false] m)
    simpa using this
  · exact (Below.heap_alloc _ _ _ (by simp)).trans (by have := World.alloc_heap_new (w.alloc (.deferred (some []))) (.loop r); simpa using this)
  · exact (Below.heap_alloc _ _ _ (by simp; omega)).trans ((Below.heap_alloc _ _ _ (by simp)).trans (World.alloc_heap_new w _))
  · exact ⟨rfl, rfl, rfl, by simp; omega, fun q hq _ => (Below.heap_alloc _ _ _ (by simp; omega)).trans ((Below.heap_alloc _ _ _ (by simp; omega)).trans (Below.heap_alloc _ _ _ hq))⟩

theorem coll_mark {gb D m : Nat} {L : List Mem} {w : World} {r : Loop} {os se : List Nat} {W : World} (h : Coll gb D m L w r os se W) (hgb : gb < D) (o : Nat) :
    Coll gb D m L w r os (se ++ [o]) (W.setCell ⟨D + 2, o, none⟩ (.bool true)) := by
  obtain ⟨v, hv, hown⟩ := h.log
  refine ⟨⟨v, (World.cell?_setCell_other _ _ _ _ (addr_ne (by omega))).trans hv, owns_set hown _ _ _ (by omega)⟩, (World.frozen?_setCell _ _ _ _).trans h.free, ?_, ?_, ?_, ?_⟩
  · rw [← seenC_set]; exact h.seen.set _ _
  · exact (Below.heap_setCell _ _ _ _ (by show D + 1 ≠ D + 2; omega)).trans h.book
  · exact (Below.heap_setCell _ _ _ _ (by show D ≠ D + 2; omega)).trans h.dfr
  · exact ⟨h.stays.os, h.stays.tape, h.stays.output, by have := h.stays.size; simpa using this, fun q hq hne => (Below.heap_setCell _ _ _ _ (by show q ≠ D + 2; omega)).trans (h.stays.block q hq hne)⟩

theorem iter_run (n gb g bm bp bP m : Nat) (L : List Mem) (P p : Nat) (w : World) (r : Loop) (hL : L.length = m) (hm : 0 < m) (hm2 : m ≤ 1024) (hP : m ≤ P) (hP2 : P ≤ 1279) (hp : p < 2 * P)
    (hrow : Row w g 65 (flat L)) (cm : w.cell? ⟨bm, 0, none⟩ = some (.slice (some ⟨g, 0, none⟩) m m)) (cp : w.cell? ⟨bp, 0, none⟩ = some (.int .i64 p)) (cP : w.cell? ⟨bP, 0, none⟩ = some (.int .i64 P))
    (cl : w.cell? ⟨gb, 0, none⟩ = some (.slice none 0 0)) (fl : w.frozen? ⟨gb, 0, none⟩ = false) (n1 : bm ≠ gb) (n2 : bp ≠ gb) (n3 : bP ≠ gb) (n5 : g ≠ gb)
    (hgive : ∀ os o (ho : o < L.length) W, os.length < m → Coll gb w.heap.size m L w r os (os ++ [o]) W → YieldAt Fence.wide (n - 1) Yba.prog (w.heap.size + 1) #[.agg #[.string L[o].1, .string L[o].2]] W fun e W' => e = .returned (.bool true) ∧ Coll gb w.heap.size m L w r (os ++ [o]) (os ++ [o]) W') :
    CallsIn Fence.wide n Yba.prog 22 (#[.func (.yield (w.heap.size + 1)) #[] #[]] ++ #[.pointer (some ⟨bm, 0, none⟩), .pointer (some ⟨bp, 0, none⟩), .pointer (some ⟨bP, 0, none⟩)]) ((w.alloc (.deferred (some []))).alloc (.loop r)) fun e w' =>
      (∃ v, e = .returned v) ∧ Coll gb w.heap.size m L w r (firsts m P p (P + 1)) (firsts m P p (P + 1)) w' := by
  have lm := lt_of_cell cm
  have lp := lt_of_cell cp
  have lP := lt_of_cell cP
  have ll := lt_of_cell cl
  have lg := hrow.lt
  have hs : ((w.alloc (.deferred (some []))).alloc (.loop r)).heap.size = w.heap.size + 2 := by simp
  refine walk_yield n (w.heap.size + 1) g bm bp bP m L P p (Coll gb w.heap.size m L w r) _ hL hm hm2 hP hP2 hp ?_ ?_ ?_ (coll_start gb m L w r cl fl)
  · rw [hs]
    exact ⟨fun os se W h => (h.stays.cell lm n1).trans cm, fun os se W h => (h.stays.cell lp n2).trans cp, fun os se W h => (h.stays.cell lP n3).trans cP, fun os se W h => (h.stays.block g lg n5).trans hrow, fun os se W h => h.seen,
      fun os se o W h => coll_mark h ll o, fun os se q W h => ⟨h.log, h.free, h.seen, h.book, h.dfr, ⟨h.stays.os, h.stays.tape, h.stays.output, h.stays.size, h.stays.block⟩⟩, hgive⟩
  · exact (World.cell?_alloc_past _ _ _ (by simp; omega)).trans ((World.cell?_alloc_past _ _ _ lm).trans cm)
  · exact (World.cell?_alloc_past _ _ _ (by simp; omega)).trans ((World.cell?_alloc_past _ _ _ lp).trans cp)

theorem heap_put_other {w : World} {q k : Nat} (o : Obj) (h : k ≠ q) : (w.putObj q o).heap[k]? = w.heap[k]? := World.putObj_heap_other h
theorem cell_put {w : World} {q k i : Nat} (o : Obj) (h : k ≠ q) : (w.putObj q o).cell? ⟨k, i, none⟩ = w.cell? ⟨k, i, none⟩ := World.cell?_of_block (heap_put_other o h)
theorem frozen_put {w : World} {q k i : Nat} (o : Obj) (h : k ≠ q) : (w.putObj q o).frozen? ⟨k, i, none⟩ = w.frozen? ⟨k, i, none⟩ := World.frozen?_of_block (heap_put_other o h)
theorem size_put (w : World) (q : Nat) (o : Obj) : (w.putObj q o).heap.size = w.heap.size := by simp [World.putObj]
theorem owns_put {w : World} {base : Nat} {e : TypeId} {size : Nat} {v : Value} {n : Nat} {xs : List Value} (h : w.ownsRow base e size v n xs) (q : Nat) (o : Obj) (hq : q < base) : (w.putObj q o).ownsRow base e size v n xs := by
  refine h.kept (grownBy_putObj' w q o) ?_
  cases hv : v.ownBlock with
  | none => exact .inl rfl
  | some k => have := (h.lt k hv).1; exact .inr (fun e => by cases e; omega)

/-- The world in which a round's body begins. -/
def inBody (D : Nat) (W : World) (B1 : Obj) (rb : Loop) : World := (W.alloc B1).putObj (D + 1) (.loop rb)

theorem coll_give {gb D m : Nat} {L : List Mem} {w : World} {r rb : Loop} {os : List Nat} {o : Nat} {W : World} (hC : Coll gb D m L w r os (os ++ [o]) W) (hgb : gb < D) (ho : o < L.length) {B1 B2 : Obj} {v v' : Value} {w1 : World}
    (hown : W.ownsRow (D + 3) 65 2 v os.length (flat (sel L os))) (hgrow : ((inBody D W B1 rb).alloc B2).grownBy w1 v.ownBlock)
    (hown' : w1.ownsRow (D + 3) 65 2 v' (os.length + 1) (flat (sel L os) ++ [.string L[o].1, .string L[o].2])) :
    (w1.setCell ⟨gb, 0, none⟩ v').heap[D + 1]? = some (.loop rb) ∧ Coll gb D m L w r (os ++ [o]) (os ++ [o]) ((w1.setCell ⟨gb, 0, none⟩ v').putObj (D + 1) (.loop r)) := by
  have hsz : D + 2 < W.heap.size := hC.seen.lt
  have hz : (inBody D W B1 rb).heap.size = W.heap.size + 1 := by unfold inBody; rw [size_put]; simp
  have hnb : ∀ q, q < D + 3 → some q ≠ v.ownBlock := fun q hq e => by have := (hown.lt q e.symm).1; omega
  have hblk : ∀ q, q < D + 3 → q ≠ D + 1 → w1.heap[q]? = W.heap[q]? := fun q hq hne => by
    refine (hgrow.block q (by rw [World.size_alloc, hz]; omega) (hnb q hq)).trans ((Below.heap_alloc _ _ _ (by rw [hz]; omega)).trans ?_)
    exact (heap_put_other _ hne).trans (Below.heap_alloc _ _ _ (by omega))
  have hrec : w1.heap[D + 1]? = some (.loop rb) := by
    refine (hgrow.block (D + 1) (by rw [World.size_alloc, hz]; omega) (hnb _ (by omega))).trans ((Below.heap_alloc _ _ _ (by rw [hz]; omega)).trans ?_)
    exact World.putObj_heap_same (by simp; omega)
  have hrec2 : (w1.setCell ⟨gb, 0, none⟩ v').heap[D + 1]? = some (.loop rb) := (Below.heap_setCell _ _ _ _ (by show D + 1 ≠ gb; omega)).trans hrec
  have hlt1 : D + 1 < (w1.setCell ⟨gb, 0, none⟩ v').heap.size := (Array.getElem?_eq_some_iff.1 hrec2).1
  refine ⟨hrec2, ⟨⟨v', ?_, ?_⟩, ?_, ?_, World.putObj_heap_same hlt1, ?_, ?_⟩⟩
  · refine (cell_put _ (by omega)).trans (World.cell?_setCell_same' _ _ _ ?_)
    obtain ⟨u, hu, _⟩ := hC.log
    rw [World.cell?_of_block (hblk gb (by omega) (by omega)), hu]; rfl
  · rw [sel_append L os o ho, List.length_append]
    exact owns_put (owns_set hown' _ _ _ (by omega)) _ _ (by omega)
  · refine (frozen_put _ (by omega)).trans ((World.frozen?_setCell _ _ _ _).trans ?_)
    rw [World.frozen?_of_block (hblk gb (by omega) (by omega))]; exact hC.free
  · exact (heap_put_other _ (by omega)).trans ((Below.heap_setCell _ _ _ _ (by show D + 2 ≠ gb; omega)).trans ((hblk (D + 2) (by omega) (by omega)).trans hC.seen))
  · exact (heap_put_other _ (by omega)).trans ((Below.heap_setCell _ _ _ _ (by show D ≠ gb; omega)).trans ((hblk D (by omega) (by omega)).trans hC.dfr))
  · refine ⟨hgrow.os.trans hC.stays.os, hgrow.tape.trans hC.stays.tape, hgrow.output.trans hC.stays.output, ?_, fun q hq hne => ?_⟩
    · rw [size_put]; have h1 := hgrow.size; have h2 := hC.stays.size; rw [World.size_alloc, hz] at h1; simp; omega
    · exact (heap_put_other _ (by omega)).trans ((Below.heap_setCell _ _ _ _ hne).trans ((hblk q (by omega) (by omega)).trans (hC.stays.block q hq hne)))

theorem res_ok {P : Program} {a : Act} {g : Operand} {gf l : Nat} {lb : Array Value} {W1 : World} (hg : a.eval g = .func (.func gf) #[] lb) :
  (resolve a.eval (rangeCall g l) 0).run P W1 = .ok { target := .fn (.func gf) lb, args := #[.func (.yield l) #[] #[]] } W1 := by
  simp only [resolve, hg]
  simp [go_sem]
theorem inv_ok {P : Program} {gf : Nat} {args lb : Array Value} {W1 : World} (eg : ∀ args w, (callFunc gf args).run P w = .ok (.enter gf args) w) :
  (invoke (.fn (.func gf) lb) args).run P W1 = .ok (.enter gf (args ++ lb)) W1 := by
  simp [invoke, go_sem, eg]

theorem range_wide {P : Program} {g : Operand} {ps : Array Tmp} {assign body : Code} {Q : Exit → Act → World → Prop} {a : Act} {w : World} {n gf : Nat} {lb : Array Value} (hg : a.eval g = .func (.func gf) #[] lb)
    (eg : ∀ args w, (callFunc gf args).run P w = .ok (.enter gf args) w)
    (h : ∀ fn, CallsIn Fence.wide (n - 1) P gf (#[.func (.yield (w.heap.size + 1)) #[] #[]] ++ lb) ((w.alloc (.deferred (some []))).alloc (.loop { state := .ready, pending := none, fn, tmps := a.tmps, params := ps, assign, body, defers := w.heap.size }))
      (rangePost Fence.wide n P (w.heap.size + 1) Q { a with defers := [{ target := .collected w.heap.size, args := #[] }] ++ a.defers })) :
    (Code.rangeFunc g ps assign body).wpIn Fence.wide n P Q a w := by
  refine wpIn_rangeFunc ?_
  intro fn _
  have hf := h fn
  obtain ⟨W1, hW1⟩ : ∃ W1, (w.alloc (.deferred (some []))).alloc (.loop { state := .ready, pending := none, fn, tmps := a.tmps, params := ps, assign, body, defers := w.heap.size }) = W1 := ⟨_, rfl⟩
  rw [hW1] at hf
  have he : (Instr.enterLoop fn a.tmps ps assign body none).run P w = .ok (w.heap.size + 1, [{ target := .collected w.heap.size, args := #[] }]) W1 := by rw [← hW1]; exact run_enterLoop_outer _ _ _ _ _
  refine ⟨w.heap.size + 1, [{ target := .collected w.heap.size, args := #[] }], W1, { target := .fn (.func gf) lb, args := #[.func (.yield (w.heap.size + 1)) #[] #[]] }, W1, gf, #[.func (.yield (w.heap.size + 1)) #[] #[]] ++ lb, W1, ?_, ?_, ?_, ?_, ?_, ?_⟩
  · exact he
  · exact res_ok hg
  · exact fun _ _ => trivial
  · exact inv_ok eg
  · intro h; exact absurd h (by decide)
  · exact hf
end Go.Proofs.Ybulkbgyy
