import Derived.Test.YbulkbgsmFmtFrame
import Derived.Test.YbulkbgsmFmtPy
import Derived.Lib.SmallJoins
namespace Go.Proofs.YbulkbgsmFmt
open Go.ChangeShapes Go.WideShapes Go.ChangeAt Go.RowKit Go.Kit
open Go.Extern.Stop Go.Stop Go.Extern

theorem list4 {cs : List Value} (h : cs.length = 4) : ∃ a b c d, cs = [a, b, c, d] := by
  match cs, h with
  | [a, b, c, d], _ => exact ⟨a, b, c, d, rfl⟩

section
variable {H : Type} {enc : TypeId × Value → H} {W : World}

/-- The links that came in, as the walk wants them. -/
theorem ls_of {la : Option Addr} {len cap : Nat} {d : DataW H} {p : List MemPlace}
    (h : DataW.Trod enc Ybaf.prog W 0 (fun _ => true) true 46 (.slice la len cap) d p) : ∃ ls : List Int, ls.length = len ∧ (∀ l ∈ ls, 0 ≤ l ∧ l ≤ 65535) ∧ (0 < ls.length → ∃ lb lo, la = some ⟨lb, lo, none⟩ ∧ Lz W W.heap.size lb lo ls) := by
  obtain ⟨fuel, hf⟩ := h
  rcases open_ints Ybaf.underlying46 Ybaf.underlying22 (by kernel_rfl) hf with ⟨hcs, _⟩ | ⟨a, l, c, zs, hcs, _, hl, _, hzl, _, hc, hwf⟩
  · simp [Value.cells] at hcs
    obtain ⟨rfl, rfl, rfl⟩ := hcs
    exact ⟨[], rfl, fun l hl => (by cases hl), fun h => absurd h (by decide)⟩
  · simp [Value.cells] at hcs
    obtain ⟨rfl, rfl, rfl⟩ := hcs
    simp at hzl
    have htl : (zs.take len).length = len := by rw [List.length_take]; omega
    refine ⟨zs.take len, htl, fun l hl => bounds_u16 (hwf l (List.mem_of_mem_take hl)), fun h0 => ?_⟩
    obtain ⟨b, off, rfl, hc'⟩ := ints_at hc (by omega)
    refine ⟨b, off, rfl, World.block_lt_of_cell? W _ (hc' 0 (by omega)), fun i l hi => ?_⟩
    have hil : i < len := by have := (List.getElem?_eq_some_iff.1 hi).1; omega
    rw [List.getElem?_take_of_lt hil] at hi
    have e : zs.getD i 0 = l := by simp [List.getD, hi]
    have := hc' i (by omega)
    rw [e] at this
    exact this

/-- A packet's bytes. -/
theorem bs_of {v : Value} {n : Nat} {y : DataW H × List MemPlace}
    (hf : DataW.trod enc Ybaf.prog W 0 (fun _ => true) true n 24 [v] = some y) : ∃ (xs : List Int) (a : Option Addr) (c : Nat), v = .slice a xs.length c ∧ Bs W W.heap.size (.slice a xs.length c) xs ∧ ∀ x ∈ xs, 0 ≤ x ∧ x ≤ 255 := by
  rcases open_ints Ybaf.underlying24 Ybaf.underlying5 (by kernel_rfl) hf with ⟨hcs, _⟩ | ⟨a, l, c, zs, hcs, _, hl, _, hzl, _, hc, hwf⟩
  · simp at hcs
    subst hcs
    exact ⟨[], none, 0, rfl, ⟨none, 0, rfl, fun _ => ⟨rfl, rfl⟩, fun b hb => by cases hb⟩, fun x hx => by cases hx⟩
  · simp at hcs
    subst hcs
    simp at hzl
    have htl : (zs.take l).length = l := by rw [List.length_take]; omega
    refine ⟨zs.take l, some a, c, by rw [htl], ⟨some a, c, rfl, (fun h => by cases h), fun b hb i x hi => ?_⟩, fun x hx => bounds_u8 (hwf x (List.mem_of_mem_take hx))⟩
    cases hb
    have hil : i < l := by have := (List.getElem?_eq_some_iff.1 hi).1; omega
    rw [List.getElem?_take_of_lt hil] at hi
    have e : zs.getD i 0 = x := by simp [List.getD, hi]
    have := hc i (by omega)
    rw [e] at this
    exact ⟨lt_of_cell this, this⟩

/-- One packet, of its four cells. -/
theorem pkt_of {cs : List Value} {n : Nat} {x : DataW H × List MemPlace} (hf : DataW.trod enc Ybaf.prog W 0 (fun _ => true) true n 49 cs = some x) :
    ∃ (p : Pkt) (a : Option Addr) (c : Nat), cs = [.int .u8 (p.ifn : Int), .bool p.simple, .bool p.skip, .slice a p.data.length c] ∧ p.ifn ≤ 255 ∧ Bs W W.heap.size (.slice a p.data.length c) p.data ∧ ∀ x ∈ p.data, 0 ≤ x ∧ x ≤ 255 := by
  obtain ⟨y0, y1, y2, y3, k, _, hl, g0, g1, g2, g3⟩ := Go.Joins.trod_struct4 Ybaf.underlying49 hf
  have hl4 : cs.length = 4 := hl.trans (by kernel_rfl)
  have c4 : Ybaf.prog.cellsOf 4 = 1 := by kernel_rfl
  have c5 : Ybaf.prog.cellsOf 5 = 1 := by kernel_rfl
  have c24 : Ybaf.prog.cellsOf 24 = 1 := by kernel_rfl
  clear hl hf
  dsimp only at g0 g1 g2 g3
  rw [c5] at g0
  rw [c4] at g1 g2
  rw [c24] at g3
  obtain ⟨v0, v1, v2, v3, rfl⟩ := list4 hl4
  replace g0 : DataW.trod enc Ybaf.prog W 0 (fun _ => true) true k 5 [v0] = some y0 := g0
  replace g1 : DataW.trod enc Ybaf.prog W 0 (fun _ => true) true k 4 [v1] = some y1 := g1
  replace g2 : DataW.trod enc Ybaf.prog W 0 (fun _ => true) true k 4 [v2] = some y2 := g2
  replace g3 : DataW.trod enc Ybaf.prog W 0 (fun _ => true) true k 24 [v3] = some y3 := g3
  obtain ⟨m, e0, _, w0⟩ := DataW.trod_int Ybaf.underlying5 g0
  obtain ⟨b1, e1, _⟩ := DataW.trod_bool Ybaf.underlying4 g1
  obtain ⟨b2, e2, _⟩ := DataW.trod_bool Ybaf.underlying4 g2
  obtain ⟨f, a, c, rfl, hB, hb⟩ := bs_of g3
  cases e0
  cases e1
  cases e2
  have hm := bounds_u8 w0
  refine ⟨⟨m.toNat, b1, b2, f⟩, a, c, ?_, ?_, hB, hb⟩
  · show [Value.int .u8 m, _, _, _] = [Value.int .u8 (m.toNat : Int), _, _, _]
    rw [Int.toNat_of_nonneg hm.1]
  · show m.toNat ≤ 255
    omega

/-- The packets that came in, as the walk wants them. -/
theorem ps_of {pa : Option Addr} {len cap : Nat} {d : DataW H} {p : List MemPlace}
    (h : DataW.Trod enc Ybaf.prog W 0 (fun _ => true) true 47 (.slice pa len cap) d p) : ∃ ps : List Pkt, ps.length = len ∧ (∀ p ∈ ps, p.ifn ≤ 255 ∧ ∀ x ∈ p.data, 0 ≤ x ∧ x ≤ 255) ∧ Pz W W.heap.size pa ps := by
  obtain ⟨fuel, hf⟩ := h
  rcases Go.Deep.open_slice Ybaf.underlying47 hf with ⟨hcs, _⟩ | ⟨a, l, c, m, n, D, Pl, hcs, _, hl, _, hm, _, hx⟩
  · simp [Value.cells] at hcs
    obtain ⟨rfl, rfl, rfl⟩ := hcs
    exact ⟨[], rfl, fun l hl => (by cases hl), fun j p hp => by cases hp⟩
  · simp [Value.cells] at hcs
    obtain ⟨rfl, rfl, rfl⟩ := hcs
    simp at hm
    have h49 : Ybaf.prog.cellsOf 49 = 4 := by kernel_rfl
    rw [h49] at hx
    have inh : Inhabited Pkt := ⟨⟨0, false, false, []⟩⟩
    obtain ⟨Q, hQ⟩ := Go.Deep.choose_lt (α := Pkt) (n := len) (p := fun i q => ∃ (sa : Option Addr) (sc : Nat), q.ifn ≤ 255 ∧ Bs W W.heap.size (.slice sa q.data.length sc) q.data ∧ (∀ x ∈ q.data, 0 ≤ x ∧ x ≤ 255) ∧ W.cell? (a.add (i * 4)) = some (.int .u8 (q.ifn : Int)) ∧ W.cell? (a.add (i * 4 + 1)) = some (.bool q.simple) ∧ W.cell? (a.add (i * 4 + 2)) = some (.bool q.skip) ∧ W.cell? (a.add (i * 4 + 3)) = some (.slice sa q.data.length sc)) (fun i hi => by
      obtain ⟨cs', h1, h2⟩ := hx i (by omega)
      obtain ⟨q, sa, sc, rfl, h255, hB, hb⟩ := pkt_of h2
      obtain ⟨_, _, hcell⟩ := World.cells?_some h1
      have e0 := hcell 0 (by omega)
      have e1 := hcell 1 (by omega)
      have e2 := hcell 2 (by omega)
      have e3 := hcell 3 (by omega)
      rw [Go.Deep.add_add] at e0 e1 e2 e3
      exact ⟨q, sa, sc, h255, hB, hb, e0, e1, e2, e3⟩)
    refine ⟨(List.range len).map Q, by simp, fun p hp => ?_, fun j p hp => ?_⟩
    · obtain ⟨i, hi, rfl⟩ := List.mem_map.1 hp
      obtain ⟨_, _, h1, _, h2, _⟩ := hQ i (List.mem_range.1 hi)
      exact ⟨h1, h2⟩
    · rw [List.getElem?_map, Option.map_eq_some_iff] at hp
      obtain ⟨r, hr0, rfl⟩ := hp
      obtain ⟨hjl, hjr⟩ := List.getElem?_eq_some_iff.1 hr0
      simp at hjl hjr
      subst hjr
      obtain ⟨sa, sc, _, hB, _, c0, c1, c2, c3⟩ := hQ j hjl
      have hblk := lt_of_cell c0
      have c0' : W.cell? (a.add 0) ≠ none := by
        obtain ⟨_, _, _, _, _, d0, _⟩ := hQ 0 (by omega)
        rw [Nat.zero_mul] at d0
        rw [d0]
        exact fun h => by cases h
      obtain ⟨ab, ao, spot⟩ := a
      obtain ⟨v0, hv0⟩ := Option.ne_none_iff_exists'.1 c0'
      have hspot : spot = none := by simpa [Addr.add] using World.cell?_spot hv0
      subst hspot
      rw [add_plain] at c0 c1 c2 c3
      exact ⟨ab, ao, sa, sc, rfl, hblk, c0, by rw [Nat.add_assoc]; exact c1, by rw [Nat.add_assoc]; exact c2, by rw [Nat.add_assoc]; exact c3, hB⟩
end
end Go.Proofs.YbulkbgsmFmt
