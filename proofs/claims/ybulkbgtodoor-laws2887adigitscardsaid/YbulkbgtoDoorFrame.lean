import Derived.Test.YbulkbgtoDoorRows
import Derived.Test.YbulkbgtoDoorWalkC
import Derived.ProofKit
import Derived.OpenShut
import Derived.ShutString
import Derived.ChangeOld
import Derived.Below
import Derived.LaidMore
import Derived.Stop.LaidErr
namespace Go.Proofs.YbulkbgtoDoor
open Go.ChangeShapes Go.WideShapes Go.ChangeAt Go.RowKit
open Go.ChangeMaps (open_string shut_string)

theorem own : ownKnob Ybad.prog.godebug = none := by kernel_rfl
theorem laidOut : laidOutB Ybad.prog = true := by kernel_rfl

/-- A slice of bytes that came in, as the walks want it. -/
theorem reads_of {H : Type} {enc : TypeId × Value → H} {W : World} {a : Option Addr} {len cap : Nat} {d : DataW H} {p : List MemPlace}
    (h : DataW.Trod enc Ybad.prog W 0 (fun _ => true) true 22 (.slice a len cap) d p) : ∃ xs, Reads W a len cap xs := by
  obtain ⟨fuel, hf⟩ := h
  rcases open_ints Ybad.underlying22 Ybad.underlying5 (by kernel_rfl) hf with ⟨hcs, _⟩ | ⟨x, l, c, zs, hcs, _, hl, hm, hz, _, hcell, hwz⟩
  · simp [Value.cells] at hcs
    obtain ⟨rfl, rfl, rfl⟩ := hcs
    exact ⟨[], rfl, Nat.le_refl _, by omega, by simp, .inl rfl⟩
  · simp [Value.cells] at hcs
    obtain ⟨rfl, rfl, rfl⟩ := hcs
    have hz' : zs.length = cap := by simpa using hz
    refine ⟨zs.take len, by simp; omega, hl, hm, fun n hn => ?_, ?_⟩
    · exact bounds_u8 (hwz n (List.mem_of_mem_take hn))
    · by_cases h0 : len = 0
      · exact .inl h0
      · obtain ⟨b, off, rfl, hc⟩ := ints_at hcell (by omega)
        refine .inr ⟨b, off, rfl, fun i hi => ?_⟩
        rw [hc i (by omega)]
        simp [List.getD, hi]

theorem gSyn : Ybad.prog.globalNamed "strconv.ErrSyntax" = some 0 := by kernel_rfl
theorem gRange : Ybad.prog.globalNamed "strconv.ErrRange" = some 1 := by kernel_rfl
theorem tSyn : (Ybad.prog.globals[0]?).map (·.type) = some 50 := by kernel_rfl
theorem tRange : (Ybad.prog.globals[1]?).map (·.type) = some 50 := by kernel_rfl

theorem rowPtr (u : TypeId) (h : Ybad.prog.typeName? 3 u = Ybad.prog.typeName? 3 79) : u = 79 :=
  typeName_ptr_named (P := Ybad.prog) (nm := "errors.errorString") (tp := 79) (by kernel_rfl) (by kernel_rfl) (by decide) u (h.trans (by kernel_rfl))

/-- What the listed variables give the walks. -/
theorem of_laid {W : World} (h : laidMetH Ybad.prog Rows.lawS2887AParseRow.laid W) :
    (∃ tp p, W.var? Ybad.prog "strconv.ErrSyntax" = some #[.iface tp p]) ∧ ∃ tp p, W.var? Ybad.prog "strconv.ErrRange" = some #[.iface tp p] := by
  rw [MakeChecks.laidMetH_plain _ _ _ (by kernel_rfl)] at h
  have h3 := h.tail.tail.tail
  obtain ⟨a1, s1, hv1, _⟩ := laid_sentinel h3 gRange tRange Ybad.underlying50 (fun u hu => rowPtr u (hu.trans (by kernel_rfl))) Ybad.underlying79 Ybad.underlying81 rfl rfl Ybad.underlying9 (by kernel_rfl) (by kernel_rfl)
  obtain ⟨a2, s2, hv2, _⟩ := laid_sentinel h3.tail gSyn tSyn Ybad.underlying50 (fun u hu => rowPtr u (hu.trans (by kernel_rfl))) Ybad.underlying79 Ybad.underlying81 rfl rfl Ybad.underlying9 (by kernel_rfl) (by kernel_rfl)
  exact ⟨⟨_, _, hv2⟩, ⟨_, _, hv1⟩⟩

/-- The door's own heap meets the condition. -/
theorem door_met (os : Os) (args : Array Value) : laidMetH Ybad.prog Rows.lawS2887AParseRow.laid ((World.doorLaid Ybad.prog 62 os).forCall (fun _ _ => 0) ⟨#[], args, []⟩).memory :=
  laidMetH_of_parts3 (fuel := 8) (laidMet_of_run' 8 (by kernel_rfl) (by kernel_rfl)) (by kernel_rfl) (by kernel_rfl)
end Go.Proofs.YbulkbgtoDoor
