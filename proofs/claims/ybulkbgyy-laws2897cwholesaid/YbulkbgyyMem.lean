import Derived.Test.YbulkbgyyProg
import Derived.Test.YbulkbgyyPlain
import Derived.WalkKit
import Derived.WalkSpells
import Derived.WalkLawsBesides
import Derived.Laws.BytesArg
namespace Go.Proofs.Ybulkbgyy
open Go.RowKit

/-- A member: its id and its address. -/
abbrev Mem := ByteArray × ByteArray

/-- The cells of a row of members. -/
def flat : List Mem → List Value
  | [] => []
  | m :: r => .string m.1 :: .string m.2 :: flat r

theorem flat_length : ∀ L : List Mem, (flat L).length = 2 * L.length
  | [] => rfl
  | m :: r => by simp [flat, flat_length r]; omega

theorem flat_append : ∀ A B : List Mem, flat (A ++ B) = flat A ++ flat B
  | [], B => rfl
  | m :: r, B => by simp [flat, flat_append r B]

theorem flat_get : ∀ (L : List Mem) (k : Nat) (h : k < L.length), (flat L)[k * 2]? = some (.string L[k].1) ∧ (flat L)[k * 2 + 1]? = some (.string L[k].2)
  | [], k, h => by simp at h
  | m :: r, 0, h => by simp [flat]
  | m :: r, k + 1, h => by
    have := flat_get r k (by simpa using h)
    have e1 : (k + 1) * 2 = k * 2 + 1 + 1 := by omega
    have e2 : (k + 1) * 2 + 1 = k * 2 + 1 + 1 + 1 := by omega
    rw [e1, show k * 2 + 1 + 1 + 1 = (k * 2 + 1) + 1 + 1 from rfl]
    simpa [flat] using this

theorem flat_set : ∀ (L : List Mem) (k : Nat) (m : Mem), ((flat L).set (k * 2) (.string m.1)).set (k * 2 + 1) (.string m.2) = flat (L.set k m)
  | [], k, m => by simp [flat]
  | a :: r, 0, m => by simp [flat]
  | a :: r, k + 1, m => by
    have := flat_set r k m
    have e1 : (k + 1) * 2 = k * 2 + 1 + 1 := by omega
    rw [e1]
    simp [flat, this]

theorem lt_of_cell {w : World} {b o : Nat} {v : Value} (h : w.cell? ⟨b, o, none⟩ = some v) : b < w.heap.size := by
  rcases Nat.lt_or_ge b w.heap.size with h' | h'
  · exact h'
  · simp [World.cell?, Array.getElem?_eq_none h'] at h

/-- The block g holds just these cells. -/
def Row (W : World) (g : Nat) (e : TypeId) (xs : List Value) : Prop := W.heap[g]? = some (.cells xs.toArray e (0, 0))

theorem Row.lt {W : World} {g : Nat} {e : TypeId} {xs : List Value} (h : Row W g e xs) : g < W.heap.size := (Array.getElem?_eq_some_iff.1 h).1
theorem Row.cell {W : World} {g : Nat} {e : TypeId} {xs : List Value} (h : Row W g e xs) (j : Nat) : W.cell? ⟨g, j, none⟩ = xs[j]? := by
  unfold Row at h
  simp [World.cell?, h]
theorem Row.frozen {W : World} {g : Nat} {e : TypeId} {xs : List Value} (h : Row W g e xs) (j : Nat) : W.frozen? ⟨g, j, none⟩ = false := frozen_of_row W g j _ e h
theorem Row.below {W W' : World} {g B : Nat} {e : TypeId} {xs : List Value} (h : Row W g e xs) (hb : Below B W W') (hg : g < B) : Row W' g e xs := (hb.block g hg).trans h
theorem Row.alloc {W : World} {g : Nat} {e : TypeId} {xs : List Value} (h : Row W g e xs) (o : Obj) : Row (W.alloc o) g e xs := (Below.heap_alloc W o g h.lt).trans h
theorem Row.drewN {W : World} {g : Nat} {e : TypeId} {xs : List Value} (h : Row W g e xs) (n : Nat) : Row (W.drewN n) g e xs := h
theorem Row.set {W : World} {g : Nat} {e : TypeId} {xs : List Value} (h : Row W g e xs) (j : Nat) (u : Value) : Row (W.setCell ⟨g, j, none⟩ u) g e (xs.set j u) := by
  have := heap_setCell_same W g j _ e u h
  unfold Row
  rw [this]
  simp
theorem Row.other {W : World} {g : Nat} {e : TypeId} {xs : List Value} (h : Row W g e xs) (b j : Nat) (u : Value) (hne : g ≠ b) : Row (W.setCell ⟨b, j, none⟩ u) g e xs := (Below.heap_setCell W ⟨b, j, none⟩ u g hne).trans h
theorem Row.new (W : World) (e : TypeId) (xs : Array Value) : Row (W.alloc (.cells xs e)) W.heap.size e xs.toList := by
  unfold Row
  rw [heap_alloc_new]

theorem made2 : ∀ n : Nat, (madeCells #[.string ByteArray.empty, .string ByteArray.empty] (n * 2)).toList = flat (List.replicate n (ByteArray.empty, ByteArray.empty)) := by
  intro n
  apply List.ext_getElem?
  intro i
  have hl := flat_length (List.replicate n ((ByteArray.empty, ByteArray.empty) : Mem))
  simp only [List.length_replicate] at hl
  by_cases hi : i < n * 2
  · have hk : i / 2 < (List.replicate n ((ByteArray.empty, ByteArray.empty) : Mem)).length := by simp; omega
    have := flat_get (List.replicate n ((ByteArray.empty, ByteArray.empty) : Mem)) (i / 2) hk
    rcases Nat.mod_two_eq_zero_or_one i with h | h
    · have e : i / 2 * 2 = i := by omega
      rw [e] at this
      rw [this.1]
      simp [madeCells, hi, h]
    · have e : i / 2 * 2 + 1 = i := by omega
      rw [e] at this
      rw [this.2]
      simp [madeCells, hi, h]
  · rw [List.getElem?_eq_none (by simp [size_madeCells]; omega), List.getElem?_eq_none (by omega)]
end Go.Proofs.Ybulkbgyy
