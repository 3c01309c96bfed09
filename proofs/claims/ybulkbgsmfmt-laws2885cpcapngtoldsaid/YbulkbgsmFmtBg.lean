import Derived.Test.YbulkbgsmFmtQs
namespace Go.Proofs.YbulkbgsmFmt
open Go.RowKit

theorem b32_parts (big : Bool) (v : Int) (h : 0 ≤ v ∧ v ≤ 4294967295) : ∃ x0 x1 x2 x3 : Int, b32 big v = [x0, x1, x2, x3] ∧ u32f big x0 x1 x2 x3 = v ∧ (0 ≤ x0 ∧ x0 ≤ 255) ∧ (0 ≤ x1 ∧ x1 ≤ 255) ∧ (0 ≤ x2 ∧ x2 ≤ 255) ∧ (0 ≤ x3 ∧ x3 ≤ 255) := by
  cases big with
  | true =>
    refine ⟨_, _, _, _, rfl, ?_, by omega, by omega, by omega, by omega⟩
    simp [u32f]
    omega
  | false =>
    refine ⟨_, _, _, _, rfl, ?_, by omega, by omega, by omega, by omega⟩
    simp [u32f]
    omega
theorem b16_parts (big : Bool) (v : Int) (h : 0 ≤ v ∧ v ≤ 65535) : ∃ x0 x1 : Int, b16 big v = [x0, x1] ∧ u16f big x0 x1 = v ∧ (0 ≤ x0 ∧ x0 ≤ 255) ∧ (0 ≤ x1 ∧ x1 ≤ 255) := by
  cases big with
  | true =>
    refine ⟨_, _, rfl, ?_, by omega, by omega⟩
    simp [u16f]
    omega
  | false =>
    refine ⟨_, _, rfl, ?_, by omega, by omega⟩
    simp [u16f]
    omega

theorem get_app {A B : List Int} {n j : Nat} {x : Int} (h : A.length = n) (hx : B[j]? = some x) : (A ++ B)[n + j]? = some x := by
  subst h
  rw [List.getElem?_append_right (by omega)]
  simpa using hx

theorem ifc_get (big : Bool) (l : Int) (h : 0 ≤ l ∧ l ≤ 65535) : ∃ x0 x1 : Int, (Bk.body big (.ifc l))[0]? = some x0 ∧ (Bk.body big (.ifc l))[1]? = some x1 ∧ u16f big x0 x1 = l ∧ (0 ≤ x0 ∧ x0 ≤ 255) ∧ (0 ≤ x1 ∧ x1 ≤ 255) ∧ (Bk.body big (.ifc l))[4]? = some 0 ∧ (Bk.body big (.ifc l))[5]? = some 0 ∧ (Bk.body big (.ifc l))[6]? = some 0 ∧ (Bk.body big (.ifc l))[7]? = some 0 := by
  obtain ⟨x0, x1, e, h1, h2, h3⟩ := b16_parts big l h
  have e0 : b16 big 0 = [0, 0] := by cases big <;> rfl
  have e1 : b32 big 0 = [0, 0, 0, 0] := by cases big <;> rfl
  refine ⟨x0, x1, ?_⟩
  simp only [Bk.body, e, e0, e1]
  exact ⟨rfl, rfl, h1, h2, h3, rfl, rfl, rfl, rfl⟩

theorem epb_get (big : Bool) (i : Nat) (f : List Int) (hi : i ≤ 100000) (hf : f.length ≤ 4096) : ∃ x0 x1 x2 x3 y0 y1 y2 y3 : Int, (Bk.body big (.epb i f))[0]? = some x0 ∧ (Bk.body big (.epb i f))[1]? = some x1 ∧ (Bk.body big (.epb i f))[2]? = some x2 ∧ (Bk.body big (.epb i f))[3]? = some x3 ∧ u32f big x0 x1 x2 x3 = (i : Int) ∧ (0 ≤ x0 ∧ x0 ≤ 255) ∧ (0 ≤ x1 ∧ x1 ≤ 255) ∧ (0 ≤ x2 ∧ x2 ≤ 255) ∧ (0 ≤ x3 ∧ x3 ≤ 255) ∧
    (Bk.body big (.epb i f))[12]? = some y0 ∧ (Bk.body big (.epb i f))[13]? = some y1 ∧ (Bk.body big (.epb i f))[14]? = some y2 ∧ (Bk.body big (.epb i f))[15]? = some y3 ∧ u32f big y0 y1 y2 y3 = (f.length : Int) ∧ (0 ≤ y0 ∧ y0 ≤ 255) ∧ (0 ≤ y1 ∧ y1 ≤ 255) ∧ (0 ≤ y2 ∧ y2 ≤ 255) ∧ (0 ≤ y3 ∧ y3 ≤ 255) ∧ ∀ j x, f[j]? = some x → (Bk.body big (.epb i f))[20 + j]? = some x := by
  obtain ⟨x0, x1, x2, x3, e, h1, h2, h3, h4, h5⟩ := b32_parts big (i : Int) (by omega)
  obtain ⟨y0, y1, y2, y3, g, k1, k2, k3, k4, k5⟩ := b32_parts big (f.length : Int) (by omega)
  obtain ⟨t0, t1, t2, t3, q, _⟩ := b32_parts big ((f.length : Int) + 5) (by omega)
  have e1 : b32 big 0 = [0, 0, 0, 0] := by cases big <;> rfl
  refine ⟨x0, x1, x2, x3, y0, y1, y2, y3, ?_⟩
  have hb : Bk.body big (.epb i f) = [x0, x1, x2, x3, 0, 0, 0, 0, 0, 0, 0, 0, y0, y1, y2, y3, t0, t1, t2, t3] ++ (f ++ padL f.length) := by
    simp only [Bk.body, e, e1, g, q, List.cons_append, List.nil_append]
  rw [hb]
  refine ⟨rfl, rfl, rfl, rfl, h1, h2, h3, h4, h5, rfl, rfl, rfl, rfl, k1, k2, k3, k4, k5, fun j x hx => get_app rfl ?_⟩
  rw [List.getElem?_append_left (List.getElem?_eq_some_iff.1 hx).1]
  exact hx

theorem spb_get (big : Bool) (f : List Int) (hf : f.length ≤ 4096) : ∃ y0 y1 y2 y3 : Int, (Bk.body big (.spb f))[0]? = some y0 ∧ (Bk.body big (.spb f))[1]? = some y1 ∧ (Bk.body big (.spb f))[2]? = some y2 ∧ (Bk.body big (.spb f))[3]? = some y3 ∧ u32f big y0 y1 y2 y3 = (f.length : Int) ∧ (0 ≤ y0 ∧ y0 ≤ 255) ∧ (0 ≤ y1 ∧ y1 ≤ 255) ∧ (0 ≤ y2 ∧ y2 ≤ 255) ∧ (0 ≤ y3 ∧ y3 ≤ 255) ∧ ∀ j x, f[j]? = some x → (Bk.body big (.spb f))[4 + j]? = some x := by
  obtain ⟨y0, y1, y2, y3, g, k1, k2, k3, k4, k5⟩ := b32_parts big (f.length : Int) (by omega)
  refine ⟨y0, y1, y2, y3, ?_⟩
  have hb : Bk.body big (.spb f) = [y0, y1, y2, y3] ++ (f ++ padL f.length) := by
    simp only [Bk.body, g, List.append_assoc]
  rw [hb]
  refine ⟨rfl, rfl, rfl, rfl, k1, k2, k3, k4, k5, fun j x hx => get_app rfl ?_⟩
  rw [List.getElem?_append_left (List.getElem?_eq_some_iff.1 hx).1]
  exact hx

theorem own_cells {w : World} {base n c I : Nat} {ls : List Int} (h : w.ownsRow base 89 2 (.slice (some ⟨I, 0, none⟩) n c) n (icells ls)) {i : Nat} {l : Int} (hl : ls[i]? = some l) : w.cell? ⟨I, i * 2, none⟩ = some (.int .i64 l) ∧ w.cell? ⟨I, i * 2 + 1, none⟩ = some (.int .u32 0) := by
  have hg := icells_get ls i l hl
  have a1 := h.cells (g := I) rfl _ _ hg.1
  have a2 := h.cells (g := I) rfl _ _ hg.2
  have hadd : ∀ j, (⟨I, 0, none⟩ : Addr).add j = ⟨I, j, none⟩ := fun j => by unfold Addr.add; split <;> simp_all
  rw [hadd] at a1 a2
  exact ⟨a1, a2⟩
end Go.Proofs.YbulkbgsmFmt
