import Derived.Test.YbulkbgsmFmtCards
import Derived.Test.YbulkbgsmFmtTie
import Derived.Test.YbulkbgsmFmtNz
import Derived.ProofKit
import Derived.OpenShut
import Derived.Below
import Derived.LaidMore
import Derived.Stop.LaidErr
import Derived.Stop.LaidTwo
import Derived.Stop.JoinedAt
import Derived.Stop.Texts
import Derived.Stop.JoinedTold
import Derived.Deep.Matrix
import Derived.Deep.DeepWitnessRef
import Derived.SevenTiedAt
namespace Go.Proofs.YbulkbgsmFmt
open Go.ChangeShapes Go.WideShapes Go.ChangeAt Go.RowKit Go.Kit
open Go.Extern.Stop Go.Stop Go.Extern

theorem Ybaf.own : ownKnob Ybaf.prog.godebug = none := by kernel_rfl
theorem Ybaf.laidOut : laidOutB Ybaf.pinned.checked.prog = true := by kernel_rfl
theorem Ybaf.laidOut' : laidOutB Ybaf.prog = true := by kernel_rfl
theorem Ybaf.stops : Ybaf.pinned.checked.prog.stops = Rows.lawS2885CClassicRow.stops := by kernel_rfl
theorem Ybaf.stopKnobs : Ybaf.pinned.checked.prog.stopKnobs = [] := by kernel_rfl
theorem Ybaf.quiet (os : Os) : Stop.quiet Ybaf.pinned.checked.prog os := by
  intro k hk
  rw [Ybaf.stopKnobs] at hk
  cases hk

theorem gEof : Ybaf.prog.globalNamed "io.EOF" = some 0 := by kernel_rfl
theorem gUn : Ybaf.prog.globalNamed "io.ErrUnexpectedEOF" = some 8 := by kernel_rfl
theorem gSb : Ybaf.prog.globalNamed "io.ErrShortBuffer" = some 9 := by kernel_rfl
theorem tSb : (Ybaf.prog.globals[9]?).map (·.type) = some 31 := by kernel_rfl
/-- The name of the variable that the specification reads. -/
def nNot : String := Rows.lawS2885CClassicSpec.vars.headD ""
theorem gNot : Ybaf.prog.globalNamed nNot = some 3 := by kernel_rfl
theorem tEof : (Ybaf.prog.globals[0]?).map (·.type) = some 31 := by kernel_rfl
theorem tUn : (Ybaf.prog.globals[8]?).map (·.type) = some 31 := by kernel_rfl
theorem tNot : (Ybaf.prog.globals[3]?).map (·.type) = some 31 := by kernel_rfl

theorem rowPtr (u : TypeId) (h : Ybaf.prog.typeName? 3 u = Ybaf.prog.typeName? 3 96) : u = 96 :=
  typeName_ptr_named (P := Ybaf.prog) (nm := "errors.errorString") (tp := 96) (by kernel_rfl) (by kernel_rfl) (by decide) u (h.trans (by kernel_rfl))

/-- What the listed variables give the walks. -/
theorem of_laid {W : World} (h : laidMetH Ybaf.prog Rows.lawS2885CClassicRow.laid W) :
    ∃ ae au an : Addr, Gl W W.heap.size ae au ∧ W.var? Ybaf.prog nNot = some #[.iface 96 (.pointer (some an))] := by
  rw [MakeChecks.laidMetH_plain _ _ _ (by kernel_rfl)] at h
  obtain ⟨a0, a1, s0, s1, c0, c1, t0, t1, hv0, hv1, hc0, -, -, hc1, -, -, hne, hb0, hb1⟩ := laid_sentinels2 h.tail gEof tEof gUn tUn Ybaf.underlying31 (fun u hu => rowPtr u (hu.trans (by kernel_rfl))) Ybaf.underlying96 Ybaf.underlying98 rfl rfl Ybaf.underlying9 (by kernel_rfl) (by kernel_rfl)
  obtain ⟨a2, s2, hv2, _⟩ := laid_sentinel h.tail.tail.tail.tail.tail.tail.tail gNot tNot Ybaf.underlying31 (fun u hu => rowPtr u (hu.trans (by kernel_rfl))) Ybaf.underlying96 Ybaf.underlying98 rfl rfl Ybaf.underlying9 (by kernel_rfl) (by kernel_rfl)
  obtain ⟨a3, s3, hv3, _⟩ := laid_sentinel h gSb tSb Ybaf.underlying31 (fun u hu => rowPtr u (hu.trans (by kernel_rfl))) Ybaf.underlying96 Ybaf.underlying98 rfl rfl Ybaf.underlying9 (by kernel_rfl) (by kernel_rfl)
  have c3 : W.cell? ⟨9, 0, none⟩ = some (.iface 96 (.pointer (some a3))) := by simpa using World.var?_cell gSb hv3 0
  have h10 : 10 ≤ W.heap.size := World.block_lt_of_cell? W _ c3
  refine ⟨a0, a1, a2, ⟨?_, ?_, hne, ⟨c0, t0, hb0⟩, ⟨c1, t1, hb1⟩, (Array.getElem?_eq_some_iff.1 hb0).1, (Array.getElem?_eq_some_iff.1 hb1).1, h10⟩, hv2⟩
  · simpa using World.var?_cell gEof hv0 0
  · simpa using World.var?_cell gUn hv1 0

/-- The door's own heap meets the condition. -/
theorem door_met (os : Os) (args : Array Value) : laidMetH Ybaf.prog Rows.lawS2885CClassicRow.laid ((World.doorLaid Ybaf.prog 161 os).forCall (fun _ _ => 0) ⟨#[], args, []⟩).memory :=
  laidMetH_of_parts3 (fuel := 8) (laidMet_of_run' 8 (by kernel_rfl) (by kernel_rfl)) (by kernel_rfl) (by kernel_rfl)

theorem bounds_u8 {n : Int} (h : (Lit.int .u8 n).wf = true) : 0 ≤ n ∧ n ≤ 255 := by
  simp [Lit.wf, IntKind.min, IntKind.max, IntKind.signed, IntKind.bits] at h
  omega
theorem bounds_u16 {n : Int} (h : (Lit.int .u16 n).wf = true) : 0 ≤ n ∧ n ≤ 65535 := by
  simp [Lit.wf, IntKind.min, IntKind.max, IntKind.signed, IntKind.bits] at h
  omega

theorem lt_of_cell {W : World} {a : Addr} {j : Nat} {v : Value} (h : W.cell? (a.add j) = some v) : a.block < W.heap.size := by
  have := World.block_lt_of_cell? W _ h
  have e : (a.add j).block = a.block := by unfold Addr.add; split <;> rfl
  rw [e] at this
  exact this

/-- The frames that came in, as the walk wants them. -/
theorem fs_of {H : Type} {enc : TypeId × Value → H} {W : World} {fa : Option Addr} {len cap : Nat} {d : DataW H} {p : List MemPlace}
    (h : DataW.Trod enc Ybaf.prog W 0 (fun _ => true) true 23 (.slice fa len cap) d p) : ∃ F : List (List Int), F.length = len ∧ Fs W W.heap.size fa F ∧ ∀ f ∈ F, ∀ x ∈ f, 0 ≤ x ∧ x ≤ 255 := by
  obtain ⟨fuel, hf⟩ := h
  rcases Go.Deep.open_int_rows Ybaf.underlying23 Ybaf.underlying24 Ybaf.underlying5 (by kernel_rfl) (by kernel_rfl) hf with ⟨hcs, _⟩ | ⟨a, l, c, A, Ln, C, Z, hcs, _, hl, _, _, hr⟩
  · simp [Value.cells] at hcs
    obtain ⟨rfl, rfl, rfl⟩ := hcs
    exact ⟨[], rfl, ⟨fun _ => rfl, fun b hb => by cases hb⟩, fun f hf => by cases hf⟩
  · simp [Value.cells] at hcs
    obtain ⟨rfl, rfl, rfl⟩ := hcs
    refine ⟨(List.range len).map fun r => (Z r).take (Ln r), by simp, ⟨(fun h => by cases h), fun b hb j f hf => ?_⟩, fun f hf x hx => ?_⟩
    · cases hb
      rw [List.getElem?_map, Option.map_eq_some_iff] at hf
      obtain ⟨r, hr0, rfl⟩ := hf
      obtain ⟨hjl, hjr⟩ := List.getElem?_eq_some_iff.1 hr0
      simp at hjl hjr
      subst hjr
      obtain ⟨h1, h2, h3, h4, h5, h6, h7⟩ := hr j (by omega)
      refine ⟨lt_of_cell h1, _, h1, A j, C j, ?_, ?_, fun b hb i x hx => ?_⟩
      · rw [List.length_take, Nat.min_eq_left (by omega)]
      · intro hn
        have hC := h6 hn
        exact ⟨List.eq_nil_of_length_eq_zero (by simp; omega), hC⟩
      · have hil : i < Ln j ∧ i < (Z j).length := by
          have := (List.getElem?_eq_some_iff.1 hx).1
          simp at this
          omega
        have hc := (h7 b hb).2 i (by omega)
        have e : (Z j).getD i 0 = x := by
          rw [List.getElem?_take_of_lt hil.1] at hx
          simp [List.getD, hx]
        rw [e] at hc
        exact ⟨lt_of_cell hc, hc⟩
    · obtain ⟨r, hr0, rfl⟩ := List.mem_map.1 hf
      have hrl := List.mem_range.1 hr0
      exact bounds_u8 ((hr r (by omega)).2.2.2.2.1 x (List.mem_of_mem_take hx))
end Go.Proofs.YbulkbgsmFmt
