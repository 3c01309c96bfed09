import Derived.Test.YbulkbgsmFmtRk
import Derived.Deep.RegionLaw
import Derived.Deep.RegionHeld3
import Derived.Deep.AppendLies
namespace Go.Proofs.YbulkbgsmFmt
open Go.RowKit
attribute [local go_sem] eq_same eq_nil m_u32le m_u32be m_u16le m_u16be

set_option maxHeartbeats 8000000 in
set_option maxRecDepth 100000 in
/-- The interface that is described is appended. -/
theorem ri_little {u1 u2 u3 u4 u5 u7 u8 u9 u10 u11 u12 u13 u14 u15 u16 u17 u18 u19 u20 u21 u22 u23 u24 u25 u26 u27 u28 u29 u30 u31 u32 u33 u34 u35 u36 u37 u38 u39 u40 u41 u42 u43 u44 u45 u46 u47 u48 u49 u50 u51 u52 u53 u54 u55 u56 u57 u58 u59 u60 u61 u62 u63 u64 u65 u66 u67 u68 u69 u70 u71 u72 u73 u74 u75 u76 u77 u78 u79 u80 u81 u82 u83 u84 u85 : Value} (Z : Exit → Act → World → Prop) (Q P c : Nat) (oa : Option Addr) (k oc : Nat) (xs : List Value) (l : Int) (x0 x1 : Int) (w : World) (q2 : w.cell? ⟨Q, 2, none⟩ = some (.iface 55 (.agg #[]))) (q7 : w.cell? ⟨Q, 7, none⟩ = some (.slice oa k oc)) (f7 : w.frozen? ⟨Q, 7, none⟩ = false) (base : Nat) (hbase : base ≤ w.heap.size) (hO : w.ownsRow base 89 2 (.slice oa k oc) k xs) (hk : k ≤ 1000000) (hc : 8 ≤ c)
    (nQ : ¬ (Value.slice oa k oc).ownBlock = some Q) (c0 : w.cell? ⟨P, 8, none⟩ = some (.int .u8 x0)) (c1 : w.cell? ⟨P, 9, none⟩ = some (.int .u8 x1)) (h0 : 0 ≤ x0 ∧ x0 ≤ 255) (h1 : 0 ≤ x1 ∧ x1 ≤ 255) (hl : u16f false x0 x1 = l) (hl2 : 0 ≤ l ∧ l ≤ 65535) (c4 : w.cell? ⟨P, 12, none⟩ = some (.int .u8 0)) (c5 : w.cell? ⟨P, 13, none⟩ = some (.int .u8 0)) (c6 : w.cell? ⟨P, 14, none⟩ = some (.int .u8 0)) (c7 : w.cell? ⟨P, 15, none⟩ = some (.int .u8 0))
    (HZ : Hid (∀ (v39 v40 v41 v42 v43 v44 v45 v46 v47 v48 v49 v50 v51 v52 v53 v54 v55 v56 v57 v58 v59 v60 v61 v62 v63 v64 v65 v66 v67 : Value) (g cg : Nat) (w3 : World), Kept (fun j => (Value.slice oa k oc).ownBlock = some j) w w3 → w3.ownsRow base 89 2 (.slice (some ⟨g, 0, none⟩) (k + 1) cg) (k + 1) (xs ++ [.int .i64 l, .int .u32 0]) → Z .normal ⟨#[.pointer (some ⟨Q, 0, none⟩), u1, u2, u3, u4, u5, .slice (some ⟨P, 8, none⟩) 8 c, u7, u8, u9, u10, u11, u12, u13, u14, u15, u16, u17, u18, u19, u20, u21, u22, u23, u24, u25, u26, u27, u28, u29, u30, u31, u32, u33, u34, u35, u36, u37, u38, v39, v40, v41, v42, v43, v44, v45, v46, v47, v48, v49, v50, v51, v52, v53, v54, v55, v56, v57, v58, v59, v60, v61, v62, v63, v64, v65, v66, v67, u68, u69, u70, u71, u72, u73, u74, u75, u76, u77, u78, u79, u80, u81, u82, u83, u84, u85], []⟩ (w3.setCell ⟨Q, 7, none⟩ (.slice (some ⟨g, 0, none⟩) (k + 1) cg)))) :
    Code.wp Ybaf.prog ((Ybaf.f22.body.bind (regOf 12)).getD .skip) Z ⟨#[.pointer (some ⟨Q, 0, none⟩), u1, u2, u3, u4, u5, .slice (some ⟨P, 8, none⟩) 8 c, u7, u8, u9, u10, u11, u12, u13, u14, u15, u16, u17, u18, u19, u20, u21, u22, u23, u24, u25, u26, u27, u28, u29, u30, u31, u32, u33, u34, u35, u36, u37, u38, u39, u40, u41, u42, u43, u44, u45, u46, u47, u48, u49, u50, u51, u52, u53, u54, u55, u56, u57, u58, u59, u60, u61, u62, u63, u64, u65, u66, u67, u68, u69, u70, u71, u72, u73, u74, u75, u76, u77, u78, u79, u80, u81, u82, u83, u84, u85], []⟩ w := by
  conv => arg 2; whnf
  obtain ⟨i9, hi, hz0, hz1, hz2⟩ := info_parts info89
  have HA0 := zu16 (big := false) (c := c) (p := fun _ => False) (fun h => h) c0 c1 h0 h1
  rw [hl] at HA0
  have HA : ∀ w0, Kept (fun _ => False) w w0 → Calls Ybaf.prog 65 #[.agg #[], .slice (some ⟨P, 8, none⟩) 2 c] w0 fun e w' => e = .returned (.int .u16 l) ∧ Kept (fun _ => False) w0 w' := HA0
  have HB : ∀ w0, Kept (fun _ => False) w w0 → Calls Ybaf.prog 19 #[.agg #[], .slice (some ⟨P, 12, none⟩) 4 (c - 4)] w0 fun e w' => e = .returned (.int .u32 0) ∧ Kept (fun _ => False) w0 w' := zu32 (big := false) (c := c - 4) (p := fun _ => False) (fun h => h) c4 c5 c6 c7 (by decide) (by decide) (by decide) (by decide)
  have hwl : IntKind.i64.wrap l = l := IntWalk.i64_in _ (by omega)
  have hc2 : (2 : Int) ≤ (c : Int) := by omega
  have hc8 : (8 : Int) ≤ (c : Int) := by omega
  have hc4 : ¬ c = 4 := by omega
  have hS0 : w.drew.cell? ⟨Q, 2, none⟩ = some (.iface 55 (.agg #[])) := q2
  have hQ0 : w.drew.cell? ⟨Q, 7, none⟩ = some (.slice oa k oc) := q7
  have hF0 : w.drew.frozen? ⟨Q, 7, none⟩ = false := f7
  have hO0 : w.drew.ownsRow base 89 2 (.slice oa k oc) k xs := hO
  have hD0 : Kept (fun _ => False) w w.drew := (Kept.refl _ w).drew
  have hml : k + 1 ≤ maxLen := by unfold maxLen; omega
  have hmb : (k + 1) * 16 ≤ 140737488355328 := by omega
  have h1c : ∀ u ∈ ([.int .i64 l, .int .u32 0] : List Value), u.oneCell' = true := by
    intro u hu
    simp only [List.mem_cons, List.not_mem_nil, or_false] at hu
    rcases hu with rfl | rfl <;> rfl
  clear HA0 c0 c1 c4 c5 c6 c7 h0 h1 hl q2 q7 f7 hO
  refine wp_region_noPanic ?_
  go_region_law (first | (refine step_append_lies _ rfl (.tmp 43) (.tmp 64) 63 rfl base 89 i9 _ 2 16 Ybaf.underlying63 hi hz0 hz1 hz2 rfl (by decide) (.slice oa k oc) k xs (by simp [Act.eval]) (World.ownsRow.alloc hO2 _) ⟨w2.heap.size, 0, none⟩ 1 1 [.int .i64 l, .int .u32 0] (by simp [Act.eval]) rfl (new_cells _ 89 [.int .i64 l, .int .u32 0] _ rfl) h1c (by decide) hml hmb (base_le hbase hD2) _ rfl ?_; intro g cg w3 hown3 hgrow3 _ _; have hQ3 : w3.cell? ⟨Q, 7, none⟩ = some (.slice oa k oc) := hgrow3.cell (((Kept.refl (fun _ => False) w2).alloc _).cell hQ2 (fun h => h)) (fun e => nQ e.symm); have hD3 : Kept (fun j => (Value.slice oa k oc).ownBlock = some j) w w3 := Kept.grown (Kept.alloc (Kept.mono (q := fun j => (Value.slice oa k oc).ownBlock = some j) hD2 (fun _ _ h => h.elim)) _) hgrow3 (fun _ h _ => h); have hF3 : w3.frozen? ⟨Q, 7, none⟩ = false := (World.frozen?_of_block (a := ⟨Q, 7, none⟩) (hD3.block Q (World.block_lt_of_cell? w.drew _ hQ0) nQ)).trans hF0) | (go_simp; go_at_call 65; with_reducible refine Calls.mono (HA _ ?_) ?_; (with_reducible assumption); rintro _ w2 ⟨rfl, hk2⟩; have hS2 : w2.cell? ⟨Q, 2, none⟩ = some (.iface 55 (.agg #[])) := hk2.cell (by with_reducible assumption) (fun h => h); have hQ2 : w2.cell? ⟨Q, 7, none⟩ = some (.slice oa k oc) := hk2.cell (by with_reducible assumption) (fun h => h); have hO2 : w2.ownsRow base 89 2 (.slice oa k oc) k xs := owns_keptF (by with_reducible assumption) hk2; have hD2 : Kept (fun _ => False) w w2 := Kept.trans (by with_reducible assumption) hk2; have hL2 : Q < w2.heap.size := World.block_lt_of_cell? w2 _ hQ2) | (go_simp; go_at_call 19; with_reducible refine Calls.mono (HB _ ?_) ?_; (with_reducible assumption); rintro _ w2 ⟨rfl, hk2⟩; have hS2 : w2.cell? ⟨Q, 2, none⟩ = some (.iface 55 (.agg #[])) := hk2.cell (by with_reducible assumption) (fun h => h); have hQ2 : w2.cell? ⟨Q, 7, none⟩ = some (.slice oa k oc) := hk2.cell (by with_reducible assumption) (fun h => h); have hO2 : w2.ownsRow base 89 2 (.slice oa k oc) k xs := owns_keptF (by with_reducible assumption) hk2; have hD2 : Kept (fun _ => False) w w2 := Kept.trans (by with_reducible assumption) hk2; have hL2 : Q < w2.heap.size := World.block_lt_of_cell? w2 _ hQ2))
  all_goals exact NoPanic.normal (HZ.out _ _ _ _ _ _ _ _ _ _ _ _ _ _ _ _ _ _ _ _ _ _ _ _ _ _ _ _ _ _ _ _ hD3 hown3)

end Go.Proofs.YbulkbgsmFmt
