import Derived.Test.YbulkbgsmFmtProg
import Derived.WalkKit
import Derived.WalkSpells
import Derived.WalkLawsBesides
import Derived.Laws.BytesArg
import Derived.Lib.VarintMem
import Derived.Lib.Walk
import Derived.Lib.Slices
import Derived.Lib.Zigzag
import Derived.OwnWalk
import Derived.Laws.CopyOwn
import Derived.StillTailTactics
import Derived.BigQuiet
import Derived.BigRegion
import Derived.Deep.QuietTactic
namespace Go.Proofs.YbulkbgsmFmt
open Go.RowKit

/-- The block g holds just these cells. -/
def Row (W : World) (g : Nat) (e : TypeId) (xs : List Value) : Prop := W.heap[g]? = some (.cells xs.toArray e (0, 0))

theorem Row.lt {W : World} {g : Nat} {e : TypeId} {xs : List Value} (h : Row W g e xs) : g < W.heap.size := (Array.getElem?_eq_some_iff.1 h).1
theorem Row.cell {W : World} {g : Nat} {e : TypeId} {xs : List Value} (h : Row W g e xs) (j : Nat) : W.cell? ⟨g, j, none⟩ = xs[j]? := by
  unfold Row at h
  simp [World.cell?, h]
theorem Row.frozen {W : World} {g : Nat} {e : TypeId} {xs : List Value} (h : Row W g e xs) (j : Nat) : W.frozen? ⟨g, j, none⟩ = false := frozen_of_row W g j _ e h
theorem Row.alloc {W : World} {g : Nat} {e : TypeId} {xs : List Value} (h : Row W g e xs) (o : Obj) : Row (W.alloc o) g e xs := (Below.heap_alloc W o g h.lt).trans h
theorem Row.drewN {W : World} {g : Nat} {e : TypeId} {xs : List Value} (h : Row W g e xs) (n : Nat) : Row (W.drewN n) g e xs := h
theorem Row.drew {W : World} {g : Nat} {e : TypeId} {xs : List Value} (h : Row W g e xs) : Row W.drew g e xs := h
theorem Row.set {W : World} {g : Nat} {e : TypeId} {xs : List Value} (h : Row W g e xs) (j : Nat) (u : Value) : Row (W.setCell ⟨g, j, none⟩ u) g e (xs.set j u) := by
  have := heap_setCell_same W g j _ e u h
  unfold Row
  rw [this]
  simp
theorem Row.other {W : World} {g : Nat} {e : TypeId} {xs : List Value} (h : Row W g e xs) (b j : Nat) (u : Value) (hne : g ≠ b) : Row (W.setCell ⟨b, j, none⟩ u) g e xs := (Below.heap_setCell W ⟨b, j, none⟩ u g hne).trans h
theorem Row.new (W : World) (e : TypeId) (xs : Array Value) : Row (W.alloc (.cells xs e)) W.heap.size e xs.toList := by
  unfold Row
  rw [heap_alloc_new]

/-- From w to w' no block of w has turned, but those of which p says so. -/
structure Kept (p : Nat → Prop) (w w' : World) : Prop where
  os : w'.os = w.os
  tape : w'.tape = w.tape
  output : w'.output = w.output
  size : w.heap.size ≤ w'.heap.size
  block : ∀ k, k < w.heap.size → ¬ p k → w'.heap[k]? = w.heap[k]?

variable {p : Nat → Prop} {a w w' : World}
theorem Kept.refl (p : Nat → Prop) (w : World) : Kept p w w := ⟨rfl, rfl, rfl, Nat.le_refl _, fun _ _ _ => rfl⟩
theorem Kept.trans {b c : World} (h : Kept p a b) (k : Kept p b c) : Kept p a c :=
  ⟨k.os.trans h.os, k.tape.trans h.tape, k.output.trans h.output, Nat.le_trans h.size k.size, fun i hi hp => (k.block i (Nat.lt_of_lt_of_le hi h.size) hp).trans (h.block i hi hp)⟩
theorem Kept.mono {q : Nat → Prop} (h : Kept p w w') (hq : ∀ k, k < w.heap.size → p k → q k) : Kept q w w' := ⟨h.os, h.tape, h.output, h.size, fun k hk hn => h.block k hk (fun hp => hn (hq k hk hp))⟩
theorem Kept.drew (h : Kept p a w) : Kept p a w.drew := ⟨h.os, h.tape, h.output, h.size, h.block⟩
theorem Kept.drewN (h : Kept p a w) (n : Nat) : Kept p a (w.drewN n) := ⟨h.os, h.tape, h.output, h.size, h.block⟩
theorem Kept.alloc (h : Kept p a w) (o : Obj) : Kept p a (w.alloc o) :=
  ⟨h.os, h.tape, h.output, by have := h.size; simp; omega, fun k hk hp => (Below.heap_alloc w o k (Nat.lt_of_lt_of_le hk h.size)).trans (h.block k hk hp)⟩
theorem Kept.setCell (h : Kept p a w) {g j : Nat} (hp : g < a.heap.size → p g) (u : Value) : Kept p a (w.setCell ⟨g, j, none⟩ u) :=
  ⟨h.os, h.tape, h.output, by have := h.size; simp; omega, fun k hk hn => (Below.heap_setCell w ⟨g, j, none⟩ u k (fun e => hn (e ▸ hp (by have : k = g := e; omega)))).trans (h.block k hk hn)⟩
theorem Kept.grown {row : Option Nat} (h : Kept p a w) (hg : w.grownBy w' row) (hr : ∀ k, row = some k → k < a.heap.size → p k) : Kept p a w' :=
  ⟨hg.os.trans h.os, hg.tape.trans h.tape, hg.output.trans h.output, Nat.le_trans h.size hg.size, fun k hk hn => (hg.block k (Nat.lt_of_lt_of_le hk h.size) (fun e => hn (hr k e.symm hk))).trans (h.block k hk hn)⟩
theorem Kept.below {B : Nat} (h : Kept p w w') (hB : B ≤ w.heap.size) (hp : ∀ k, p k → B ≤ k) : Below B w w' :=
  ⟨h.os, h.tape, h.output, h.size, fun k hk => h.block k (by omega) (fun e => by have := hp k e; omega)⟩
theorem kept_of_below {B : Nat} (h : Below B w w') (hp : ∀ k, k < w.heap.size → B ≤ k → p k) : Kept p w w' :=
  ⟨h.os, h.tape, h.output, h.size, fun k hk hn => h.block k (Nat.lt_of_not_le (fun e => hn (hp k hk e)))⟩
theorem Row.kept {W W' : World} {g : Nat} {e : TypeId} {xs : List Value} (h : Row W g e xs) (hb : Kept p W W') (hg : ¬ p g) : Row W' g e xs := (hb.block g h.lt hg).trans h
theorem Kept.cell (h : Kept p w w') {q o : Nat} {v : Value} (hc : w.cell? ⟨q, o, none⟩ = some v) (hne : ¬ p q) : w'.cell? ⟨q, o, none⟩ = some v :=
  (World.cell?_of_block (h.block q (World.block_lt_of_cell? w _ hc) hne)).trans hc
theorem owns_kept {base : Nat} {e : TypeId} {size : Nat} {g n c : Nat} {xs : List Value} (h : w.ownsRow base e size (.slice (some ⟨g, 0, none⟩) n c) n xs) (hb : Kept p w w') (hg : ¬ p g) : w'.ownsRow base e size (.slice (some ⟨g, 0, none⟩) n c) n xs := by
  refine ⟨h.1, ?_⟩
  rcases h.2 with ⟨h1, _⟩ | ⟨g', cap, cur, hv, h2, h3, h4⟩
  · cases h1
  · cases hv
    exact .inr ⟨g, c, cur, rfl, h2, (hb.block g (Array.getElem?_eq_some_iff.1 h3).1 hg).trans h3, h4⟩

theorem mixed : Ybaf.prog.follows .mixedOrders = true := by kernel_rfl
theorem still_tail {P : Program} {id : Nat} {Q : Exit → Act → World → Prop} {a : Act} {w : World} {l : List Oper} (n : Nat) (hm : P.follows .mixedOrders = true) (hB : Region.lexTailB .any l.toArray n = true)
    (h : wpStill P l.toArray w.drew (fun a' => wpList P l.toArray Q (l.drop n) a' w.drew) (l.take n) a) : (Code.region id l.toArray true).wp P Q a w := wp_region_still_tail n hm hB h

/-- The cells of bytes. -/
def by8 (L : List Int) : List Value := L.map (.int .u8)
theorem by8_len (L : List Int) : (by8 L).length = L.length := by simp [by8]
theorem by8_one (L : List Int) : ∀ v ∈ by8 L, v.oneCell' = true := by
  intro v hv
  obtain ⟨x, _, rfl⟩ := List.mem_map.1 hv
  rfl

theorem kept_setRow (w : World) (g : Nat) (cs : Array Value) : Kept (fun k => k = g) w (w.setRow g cs) :=
  ⟨rfl, rfl, rfl, by simp [World.setRow], fun k _ hn => setRow_other w g k cs hn⟩

theorem wpList_copy_kept {P : Program} {w : World} {ops : Array Oper} {rest : List Oper} {o : Oper} {a : Act} {Q : Exit → Act → World → Prop} (hgd : o.guard = none) (d s : Operand) (dT sT : TypeId)
    (ho : o.op = .call { callee := .builtin .copy, args := #[d, s], argTypes := #[dT, sT] }) (elem : TypeId) (hu : P.underlying dT = some (.slice elem)) (hsz : (P.info? elem).map (·.size) = some 1)
    (dp sp : Option Addr) (dLen dCap sLen sCap : Nat) (hd : a.eval d = .slice dp dLen dCap) (hs : a.eval s = .slice sp sLen sCap)
    (g off : Nat) (cur : List Value) (t : TypeId) (hg : Row w g t cur) (cs : List Value) (hn : cs.length = Nat.min sLen dLen)
    (hpos : 0 < cs.length → dp = some ⟨g, off, none⟩ ∧ ∃ ad, sp = some ad ∧ ∀ j v, cs[j]? = some v → w.cell? (ad.add j) = some v)
    (hfit : off + cs.length ≤ cur.length) (h1 : ∀ v ∈ cs, v.oneCell' = true)
    (h : ∀ w', Row w' g t (splice cur off cs) → Kept (fun k => k = g) w w' → wpList P ops Q rest (a.put o.dst (goInt cs.length)) w') :
    wpList P ops Q (o :: rest) a w := by
  by_cases h0 : cs.length = 0
  · obtain rfl : cs = [] := List.eq_nil_of_length_eq_zero h0
    refine wpList_copy_nothing hgd d s dT sT ho elem hu hsz dp sp dLen dCap sLen sCap hd hs (by simpa using hn.symm) ?_
    exact h w (by simpa [splice] using hg) (Kept.refl _ _)
  · obtain ⟨rfl, ad, rfl, hsrc⟩ := hpos (by omega)
    refine wpList_copy_own hgd d s dT sT ho elem hu hsz g off dLen dCap ad sLen sCap hd hs cur.toArray t hg cs hn hsrc (by simpa using hfit) h1 ?_
    exact h _ (show _ = _ by simpa [splice] using setRow_heap w g _ _ t _ hg) (kept_setRow w g _)
end Go.Proofs.YbulkbgsmFmt
