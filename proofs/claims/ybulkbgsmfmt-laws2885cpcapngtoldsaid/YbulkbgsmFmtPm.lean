import Derived.Test.YbulkbgsmFmtPe
import Derived.Test.YbulkbgsmFmtSr
namespace Go.Proofs.YbulkbgsmFmt
open Go.RowKit
attribute [local go_sem] eq_same eq_nil

/-- Region k and what follows it in its sequence. -/
def fromReg (k : Nat) : Code → Option Code
  | .seq (.region id o b) r => if id = k then some (.seq (.region id o b) r) else fromReg k r
  | .seq a r => match fromReg k a with
    | some c => some c
    | none => fromReg k r
  | .block _ c => fromReg k c
  | .scope c => fromReg k c
  | _ => none

theorem Fl.whole {w : World} {N : Nat} {v : Value} {xs : List Int} (h : Fl w N v xs) (hx : 0 < xs.length) : ∃ D cap rs, v = .slice (some ⟨D, 0, none⟩) xs.length cap ∧ xs.length ≤ cap ∧ N ≤ D ∧ Row w D 5 (by8 xs ++ rs) := by
  obtain ⟨h1, h2⟩ := h
  rcases h2 with ⟨_, h2⟩ | ⟨g, c, cur, hv, hb, hg, hnc, hcm, hcs, ht⟩
  · omega
  · refine ⟨g, c, cur.toList.drop xs.length, hv, hnc, hb, ?_⟩
    rw [Nat.mul_one] at ht
    unfold Row
    rw [← ht, List.take_append_drop]
    exact hg

set_option maxHeartbeats 2000000 in
set_option maxRecDepth 100000 in
theorem pl_d {u1 u3 u4 u5 u6 u7 u8 u11 u12 u13 u14 u15 u16 u17 u18 u19 u20 u21 u22 u23 u24 u25 u26 u27 u28 u29 u30 u31 u32 u33 u34 u35 u36 u37 u38 u39 u40 u41 u42 u43 u44 u45 u46 u47 u48 u49 u50 u51 u52 u53 u54 u55 u56 u57 u58 u59 u60 u61 u62 u63 u64 u65 u66 u67 u68 u69 u70 u71 u72 u73 u74 u75 u76 u77 u78 u79 u80 u81 u82 u83 u84 u85 u86 u87 u88 u89 u90 u91 u92 u93 u94 u95 u96 u97 u98 u99 u100 u101 u102 u103 u104 u105 u106 u107 u108 u109 u110 u111 u112 u113 u114 u115 u116 u117 u118 u119 u120 u121 u122 u123 u124 u125 u126 u127 u128 u129 u130 u131 u132 u133 u134 u135 u136 u137 u138 u139 u140 u141 u142 u143 u144 u145 u146 u147 u148 u149 u150 u151 u152 u153 u154 u155 u156 u157 u158 u159 u160 u161 u162 u163 u164 u165 u166 u167 u168 u169 u170 u171 u172 u173 u174 u175 u176 u177 u178 u179 u180 u181 u182 u183 u184 u185 u186 u187 u188 u189 u190 u191 u192 u193 u194 u195 u196 u197 u198 u199 u200 u201 u202 u203 u204 u205 u206 u207 u208 u209 u210 u211 u212 u213 u214 u215 u216 u217 u218 u219 u220 u221 u222 u223 u224 u225 u226 u227 u228 u229 u230 u231 u232 u233 u234 u235 u236 u237 u238 u239 u240 u241 u242 u243 u244 u245 u246 u247 u248 u249 u250 u251 u252 u253 u254 u255 u256 u257 u258 u259 u260 u261 u262 u263 u264 u265 u266 u267 u268 u269 u270 u271 u272 u273 u274 u275 u276 u277 u278 u279 u280 u281 u282 u283 u284 u285 u286 u287 u288 u289 : Value} (R : Ending → World → Prop) (N lb lo lc pc : Nat) (pa : Option Addr) (v10 : Value) (big : Bool) (ls : List Int) (ps : List Pkt) (ae au : Addr) (w : World) (hq : Pq ls ps)
    (hF : Fl w N v10 (pfile big (allB ls ls.length ps))) (hNw : N ≤ w.heap.size) (h10 : 10 ≤ N) (hlz : Lz w N lb lo ls) (hpz : Pz w N pa ps) (hE : w.cell? ⟨0, 0, none⟩ = some (.iface 96 (.pointer (some ae)))) (hX : w.cell? ⟨8, 0, none⟩ = some (.iface 96 (.pointer (some au)))) (HR : Hid (∀ w', Kept (fun k => N ≤ k) w w' → R (.returned (.bool true)) w')) :
    Code.wp Ybaf.prog ((Ybaf.f4.body.bind (fromReg 60)).getD .skip) (bodyPost Ybaf.prog Ybaf.f4 R) ⟨#[.bool big, u1, .slice pa ps.length pc, u3, u4, u5, u6, u7, u8, .slice (some ⟨lb, lo, none⟩) ls.length lc, v10, u11, u12, u13, u14, u15, u16, u17, u18, u19, u20, u21, u22, u23, u24, u25, u26, u27, u28, u29, u30, u31, u32, u33, u34, u35, u36, u37, u38, u39, u40, u41, u42, u43, u44, u45, u46, u47, u48, u49, u50, u51, u52, u53, u54, u55, u56, u57, u58, u59, u60, u61, u62, u63, u64, u65, u66, u67, u68, u69, u70, u71, u72, u73, u74, u75, u76, u77, u78, u79, u80, u81, u82, u83, u84, u85, u86, u87, u88, u89, u90, u91, u92, u93, u94, u95, u96, u97, u98, u99, u100, u101, u102, u103, u104, u105, u106, u107, u108, u109, u110, u111, u112, u113, u114, u115, u116, u117, u118, u119, u120, u121, u122, u123, u124, u125, u126, u127, u128, u129, u130, u131, u132, u133, u134, u135, u136, u137, u138, u139, u140, u141, u142, u143, u144, u145, u146, u147, u148, u149, u150, u151, u152, u153, u154, u155, u156, u157, u158, u159, u160, u161, u162, u163, u164, u165, u166, u167, u168, u169, u170, u171, u172, u173, u174, u175, u176, u177, u178, u179, u180, u181, u182, u183, u184, u185, u186, u187, u188, u189, u190, u191, u192, u193, u194, u195, u196, u197, u198, u199, u200, u201, u202, u203, u204, u205, u206, u207, u208, u209, u210, u211, u212, u213, u214, u215, u216, u217, u218, u219, u220, u221, u222, u223, u224, u225, u226, u227, u228, u229, u230, u231, u232, u233, u234, u235, u236, u237, u238, u239, u240, u241, u242, u243, u244, u245, u246, u247, u248, u249, u250, u251, u252, u253, u254, u255, u256, u257, u258, u259, u260, u261, u262, u263, u264, u265, u266, u267, u268, u269, u270, u271, u272, u273, u274, u275, u276, u277, u278, u279, u280, u281, u282, u283, u284, u285, u286, u287, u288, u289], []⟩ w := by
  conv => arg 2; whnf
  have hok := allB_ok ls ls.length ps hq.lr hq.pr
  have hbl := allB_len ls ls.length ps
  have hfl := pfile_len big (allB ls ls.length ps) hok
  have hpg : 28 ≤ (pfile big (allB ls ls.length ps)).length := by
    unfold pfile
    rw [List.length_append, secHdr_len]
    omega
  have hll := hq.ll
  have hpl := hq.pl
  obtain ⟨D, cap, rs, rfl, hcap, hND, hrow⟩ := hF.whole (by omega)
  have hDl := hrow.lt
  have HQ : Hid (Pq ls ps ∧ Lz w N lb lo ls ∧ Pz w N pa ps ∧ w.cell? ⟨0, 0, none⟩ = some (.iface 96 (.pointer (some ae))) ∧ w.cell? ⟨8, 0, none⟩ = some (.iface 96 (.pointer (some au)))) := ⟨hq, hlz, hpz, hE, hX⟩
  have hka : Kept (fun _ => False) w (w.alloc (.cells #[.slice (some ⟨D, 0, none⟩) (pfile big (allB ls ls.length ps)).length cap, .int .i64 0, .int .i64 (-1)] 73)) := (Kept.refl _ w).alloc _
  have hY2 := Row.new w 73 #[.slice (some ⟨D, 0, none⟩) (pfile big (allB ls ls.length ps)).length cap, .int .i64 0, .int .i64 (-1)]
  have HN : Hid _ := pn_ok big w.heap.size w.heap.size D cap (pfile big (allB ls ls.length ps)) rs (-1) ae au _ hY2 (hrow.alloc _) (by omega) hcap (Nat.le_refl _) hDl (by omega) (hka.cell hE (fun h => h)) (hka.cell hX (fun h => h)) (pfile_in big _ hok) (sec_take12 big _) hpg (sec_major big _) (sec_end big _)
  have HKA : Hid (Kept (fun _ => False) w (w.alloc (.cells #[.slice (some ⟨D, 0, none⟩) (pfile big (allB ls ls.length ps)).length cap, .int .i64 0, .int .i64 (-1)] 73))) := hka
  clear hok hbl hfl hpg hF hrow hY2 hka hq hlz hpz hE hX
  generalize hP : (pfile big (allB ls ls.length ps)).length = pl at *
  have HPL : Hid ((pfile big (allB ls ls.length ps)).length = pl) := hP
  clear hP
  go_wp2_with fail
  rename_i K1 hK1 K2 hK2
  have HK1 : Hid _ := hK1
  clear hK1
  refine Calls.mono (bytesNew (some ⟨D, 0, none⟩) pl cap w) ?_
  rintro _ w2 ⟨rfl, rfl⟩
  go_wp2_with fail
  refine Calls.mono HN.out ?_
  rintro _ w3 ⟨Q, B, U, rfl, hk3, hC3⟩
  have hkA : Kept (fun k => w.heap.size ≤ k) w w3 := (Kept.mono (q := fun k => w.heap.size ≤ k) HKA.out (fun _ _ h => h.elim)).trans (Kept.mono (q := fun k => w.heap.size ≤ k) hk3 (fun _ _ h => Nat.le_of_not_lt h))
  have hkN : Kept (fun k => N ≤ k) w w3 := Kept.mono (q := fun k => N ≤ k) hkA (fun _ _ h => Nat.le_trans hNw h)
  have HZ : Hid (Nst w3 w.heap.size (fun _ => False) Q B w.heap.size U D cap big (allB ls ls.length ps) 0 0 (.slice none 0 0) ∧ w.heap.size ≤ w3.heap.size ∧ Lz w3 N lb lo ls ∧ Pz w3 N pa ps ∧ w3.cell? ⟨0, 0, none⟩ = some (.iface 96 (.pointer (some ae))) ∧ w3.cell? ⟨8, 0, none⟩ = some (.iface 96 (.pointer (some au)))) := by
    refine ⟨⟨?_, World.ownsRow_nil _ _ _ _, hDl, by omega⟩, hkA.size, HQ.out.2.1.kept hkN, HQ.out.2.2.1.kept hkN, hkN.cell HQ.out.2.2.2.1 (by omega), hkN.cell HQ.out.2.2.2.2 (by omega)⟩
    rw [pos_zero]
    refine hC3.reK (fun k hV => .inl ?_) (.inl hDl) (fun k hk => .inl (by omega)) (fun k hV => ?_)
    · rcases hV with hV | hV | hV
      · exact hV
      · exact hV.elim
      · cases hV
    · rcases hV with hV | hV | hV
      · exact hC3.vl k hV
      · exact hV.elim
      · cases hV
  have HR3 : Hid (∀ w', Kept (fun k => w.heap.size ≤ k) w3 w' → R (.returned (.bool true)) w') := fun w' hk' => HR.out w' (Kept.mono (q := fun k => N ≤ k) (hkA.trans hk') (fun _ _ h => Nat.le_trans hNw h))
  clear hk3 hC3 hkA hkN HN HKA HR
  go_wp2_with fail
  refine HK1.out _ _ ?_
  exact pl_e R N w.heap.size Q B w.heap.size U D cap lb lo lc pc pa big ls ps ae au w3 HQ.out.1 HZ.out.1 HZ.out.2.1 hNw HZ.out.2.2.1 HZ.out.2.2.2.1 HZ.out.2.2.2.2.1 HZ.out.2.2.2.2.2 HR3
end Go.Proofs.YbulkbgsmFmt
