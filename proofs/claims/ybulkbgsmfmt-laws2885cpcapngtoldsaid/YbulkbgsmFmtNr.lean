import Derived.Test.YbulkbgsmFmtUi
namespace Go.Proofs.YbulkbgsmFmt
open Go.RowKit

/-- What the walks want of the package-level variables. -/
structure Gl (w : World) (M : Nat) (ae au : Addr) : Prop where
  e0 : w.cell? ⟨0, 0, none⟩ = some (.iface 96 (.pointer (some ae)))
  e8 : w.cell? ⟨8, 0, none⟩ = some (.iface 96 (.pointer (some au)))
  ne : ae ≠ au
  ra : ∃ ca ta, w.heap[ae.block]? = some (.cells ca ta (0, 0))
  ru : ∃ ca ta, w.heap[au.block]? = some (.cells ca ta (0, 0))
  la : ae.block < M
  lu : au.block < M
  m10 : 10 ≤ M

theorem Gl.kept {w w' : World} {M X : Nat} {ae au : Addr} (h : Gl w M ae au) (hk : Kept (Kp M X) w w') : Gl w' M ae au := by
  obtain ⟨e0, e8, ne, ⟨ca, ta, ra⟩, ⟨cu, tu, ru⟩, la, lu, m10⟩ := h
  refine ⟨hk.cell e0 (fun h => absurd h.1 (by omega)), hk.cell e8 (fun h => absurd h.1 (by omega)), ne, ⟨ca, ta, ?_⟩, ⟨cu, tu, ?_⟩, la, lu, m10⟩
  · exact (hk.block _ (Array.getElem?_eq_some_iff.1 ra).1 (fun h => absurd h.1 (by omega))).trans ra
  · exact (hk.block _ (Array.getElem?_eq_some_iff.1 ru).1 (fun h => absurd h.1 (by omega))).trans ru

theorem eq_other {w : World} {M : Nat} {ae au : Addr} (h : Gl w M ae au) : (binOp .eql 31 (.iface 96 (.pointer (some au))) (.iface 96 (.pointer (some ae)))).run Ybaf.prog w = .ok (.bool false) w := by
  obtain ⟨i, hi, hc⟩ := Option.map_eq_some_iff.1 Ybaf.comp96
  obtain ⟨j, hj, hs⟩ := Option.map_eq_some_iff.1 Ybaf.size98
  obtain ⟨_, _, ra⟩ := h.ra
  obtain ⟨_, _, ru⟩ := h.ru
  exact run_eql_iface_ptr_other w Ybaf.underlying31 Ybaf.underlying96 hi hc hj (by rw [hs]; decide) (fun e => h.ne e.symm) ru ra

attribute [local go_sem] eq_same

set_option maxHeartbeats 1000000 in
set_option maxRecDepth 100000 in
/-- (*Reader).cut at io.EOF. -/
theorem cut_eof (M Q B : Nat) (pn : Bool) (ord : Value) (fr : Nat) (offs lk at' : Int) (bv ifs : Value) (ae au : Addr) (inF : Bool) (w : World) (hQ : Row w Q 65 (crc B pn ord (fr : Int) offs bv lk ifs at')) (hfr : fr ≤ 1000000) (hG : Gl w M ae au) :
    Calls Ybaf.prog 32 #[.pointer (some ⟨Q, 0, none⟩), .iface 96 (.pointer (some ae)), .bool inF] w fun e w' => e = .returned (.iface 40 (.pointer (some ⟨w.heap.size, 0, none⟩))) ∧ w' = w.alloc (.cells #[.int .i64 ((fr : Int) + 1), .bool inF] 43) := by
  go_enter Ybaf.func32, Ybaf.ntmps32
  have c3 : w.cell? ⟨Q, 3, none⟩ = some (.int .i64 (fr : Int)) := hQ.cell 3
  have e0 := hG.e0
  have hw : IntKind.i64.wrap ((fr : Int) + 1) = (fr : Int) + 1 := IntWalk.i64_in _ (by omega)
  clear hQ hG
  go_wp2_with fail
  go_ret
  exact ⟨rfl, rfl⟩

set_option maxHeartbeats 1000000 in
set_option maxRecDepth 100000 in
/-- (*Reader).cut at io.ErrUnexpectedEOF. -/
theorem cut_uneof (M Q B : Nat) (pn : Bool) (ord : Value) (fr : Nat) (offs lk at' : Int) (bv ifs : Value) (ae au : Addr) (inF : Bool) (w : World) (hQ : Row w Q 65 (crc B pn ord (fr : Int) offs bv lk ifs at')) (hfr : fr ≤ 1000000) (hG : Gl w M ae au) :
    Calls Ybaf.prog 32 #[.pointer (some ⟨Q, 0, none⟩), .iface 96 (.pointer (some au)), .bool inF] w fun e w' => e = .returned (.iface 40 (.pointer (some ⟨w.heap.size, 0, none⟩))) ∧ w' = w.alloc (.cells #[.int .i64 ((fr : Int) + 1), .bool inF] 43) := by
  go_enter Ybaf.func32, Ybaf.ntmps32
  have c3 : w.cell? ⟨Q, 3, none⟩ = some (.int .i64 (fr : Int)) := hQ.cell 3
  have e0 := hG.e0
  have e8 := hG.e8
  have heq := eq_other hG
  have hw : IntKind.i64.wrap ((fr : Int) + 1) = (fr : Int) + 1 := IntWalk.i64_in _ (by omega)
  clear hQ hG
  go_wp2_with fail
  go_ret
  exact ⟨rfl, rfl⟩
end Go.Proofs.YbulkbgsmFmt
