import Derived.Test.YbulkbgsmFmtPp
namespace Go.Proofs.YbulkbgsmFmt
open Go.RowKit
attribute [local go_sem] eq_same eq_nil

theorem Pz.up {w : World} {N M : Nat} {pa : Option Addr} {ps : List Pkt} (h : Pz w N pa ps) (hM : N ≤ M) : Pz w M pa ps := by
  intro j p hp
  obtain ⟨pb, po, a, c, e, hb, h0, h1, h2, h3, a', c', e', hn, hx⟩ := h j p hp
  exact ⟨pb, po, a, c, e, by omega, h0, h1, h2, h3, a', c', e', hn, fun b hb' i x hi => ⟨Nat.lt_of_lt_of_le (hx b hb' i x hi).1 hM, (hx b hb' i x hi).2⟩⟩

set_option maxHeartbeats 2000000 in
set_option maxRecDepth 100000 in
theorem pl_a2 {u3 u4 u5 u6 u7 u8 u9 u10 u11 u12 u13 u14 u15 u16 u17 u18 u19 u20 u21 u22 u23 u24 u25 u26 u27 u28 u29 u30 u31 u32 u33 u34 u35 u36 u37 u38 u39 u40 u41 u42 u43 u44 u45 u46 u47 u48 u49 u50 u51 u52 u53 u54 u55 u56 u57 u58 u59 u60 u61 u62 u63 u64 u65 u66 u67 u68 u69 u70 u71 u72 u73 u74 u75 u76 u77 u78 u79 u80 u81 u82 u83 u84 u85 u86 u87 u88 u89 u90 u91 u92 u93 u94 u95 u96 u97 u98 u99 u100 u101 u102 u103 u104 u105 u106 u107 u108 u109 u110 u111 u112 u113 u114 u115 u116 u117 u118 u119 u120 u121 u122 u123 u124 u125 u126 u127 u128 u129 u130 u131 u132 u133 u134 u135 u136 u137 u138 u139 u140 u141 u142 u143 u144 u145 u146 u147 u148 u149 u150 u151 u152 u153 u154 u155 u156 u157 u158 u159 u160 u161 u162 u163 u164 u165 u166 u167 u168 u169 u170 u171 u172 u173 u174 u175 u176 u177 u178 u179 u180 u181 u182 u183 u184 u185 u186 u187 u188 u189 u190 u191 u192 u193 u194 u195 u196 u197 u198 u199 u200 u201 u202 u203 u204 u205 u206 u207 u208 u209 u210 u211 u212 u213 u214 u215 u216 u217 u218 u219 u220 u221 u222 u223 u224 u225 u226 u227 u228 u229 u230 u231 u232 u233 u234 u235 u236 u237 u238 u239 u240 u241 u242 u243 u244 u245 u246 u247 u248 u249 u250 u251 u252 u253 u254 u255 u256 u257 u258 u259 u260 u261 u262 u263 u264 u265 u266 u267 u268 u269 u270 u271 u272 u273 u274 u275 u276 u277 u278 u279 u280 u281 u282 u283 u284 u285 u286 u287 u288 u289 : Value} (R : Ending → World → Prop) (N lc pc : Nat) (la pa : Option Addr) (big : Bool) (ls : List Int) (ps : List Pkt) (ae au : Addr) (w : World) (hll : ls.length ≤ 300) (hpl : ps.length ≤ 300) (hlr : ∀ l ∈ ls, 0 ≤ l ∧ l ≤ 65535) (hpr : ∀ p ∈ ps, p.ifn ≤ 255 ∧ p.data.length ≤ 4096 ∧ ∀ x ∈ p.data, 0 ≤ x ∧ x ≤ 255)
    (hN : N ≤ w.heap.size) (h10 : 10 ≤ N) (hlz : 0 < ls.length → ∃ lb lo, la = some ⟨lb, lo, none⟩ ∧ Lz w N lb lo ls) (hpz : Pz w N pa ps) (hE : w.cell? ⟨0, 0, none⟩ = some (.iface 96 (.pointer (some ae)))) (hX : w.cell? ⟨8, 0, none⟩ = some (.iface 96 (.pointer (some au)))) (HR : Hid (∀ w', Kept (fun k => N ≤ k) w w' → R (.returned (.bool true)) w')) :
    Code.wp Ybaf.prog ((Ybaf.f4.body.bind (fromReg 9)).getD .skip) (bodyPost Ybaf.prog Ybaf.f4 R) ⟨#[.bool big, .slice la ls.length lc, .slice pa ps.length pc, u3, u4, u5, u6, u7, u8, u9, u10, u11, u12, u13, u14, u15, u16, u17, u18, u19, u20, u21, u22, u23, u24, u25, u26, u27, u28, u29, u30, u31, u32, u33, u34, u35, u36, u37, u38, u39, u40, u41, u42, u43, u44, u45, u46, u47, u48, u49, u50, u51, u52, u53, u54, u55, u56, u57, u58, u59, u60, u61, u62, u63, u64, u65, u66, u67, u68, u69, u70, u71, u72, u73, u74, u75, u76, u77, u78, u79, u80, u81, u82, u83, u84, u85, u86, u87, u88, u89, u90, u91, u92, u93, u94, u95, u96, u97, u98, u99, u100, u101, u102, u103, u104, u105, u106, u107, u108, u109, u110, u111, u112, u113, u114, u115, u116, u117, u118, u119, u120, u121, u122, u123, u124, u125, u126, u127, u128, u129, u130, u131, u132, u133, u134, u135, u136, u137, u138, u139, u140, u141, u142, u143, u144, u145, u146, u147, u148, u149, u150, u151, u152, u153, u154, u155, u156, u157, u158, u159, u160, u161, u162, u163, u164, u165, u166, u167, u168, u169, u170, u171, u172, u173, u174, u175, u176, u177, u178, u179, u180, u181, u182, u183, u184, u185, u186, u187, u188, u189, u190, u191, u192, u193, u194, u195, u196, u197, u198, u199, u200, u201, u202, u203, u204, u205, u206, u207, u208, u209, u210, u211, u212, u213, u214, u215, u216, u217, u218, u219, u220, u221, u222, u223, u224, u225, u226, u227, u228, u229, u230, u231, u232, u233, u234, u235, u236, u237, u238, u239, u240, u241, u242, u243, u244, u245, u246, u247, u248, u249, u250, u251, u252, u253, u254, u255, u256, u257, u258, u259, u260, u261, u262, u263, u264, u265, u266, u267, u268, u269, u270, u271, u272, u273, u274, u275, u276, u277, u278, u279, u280, u281, u282, u283, u284, u285, u286, u287, u288, u289], []⟩ w := by
  conv => arg 2; whnf
  have HQ : Hid (Pz w N pa ps ∧ w.cell? ⟨0, 0, none⟩ = some (.iface 96 (.pointer (some ae))) ∧ w.cell? ⟨8, 0, none⟩ = some (.iface 96 (.pointer (some au)))) := ⟨hpz, hE, hX⟩
  clear hpz hE hX
  refine wp_seq_k ?_
  intro K0 hK0
  have HK0 : Hid _ := hK0
  clear hK0
  go_wp2_with fail
  refine HK0.out _ _ ?_
  clear HK0
  refine wp_seq_k ?_
  intro K1 hK1
  have HK1 : Hid _ := hK1
  clear hK1
  by_cases h0 : ls.length = 0
  · have h0' : (ls.length : Int) = 0 := by omega
    go_wp2_with fail
    refine HK1.out _ _ ?_
    have hc1 : (w.alloc (.cells #[.int .u16 1] 22)).cell? ⟨w.heap.size, 0, none⟩ = some (.int .u16 1) := (Row.new w 22 #[.int .u16 1]).cell 0
    have hs1 : (w.alloc (.cells #[.int .u16 1] 22)).heap.size = w.heap.size + 1 := Array.size_push ..
    have hk1 : Kept (fun k => N ≤ k) w (w.alloc (.cells #[.int .u16 1] 22)) := (Kept.refl _ w).alloc _
    refine pl_b (ls := [1]) (lb := w.heap.size) (lo := 0) (lc := 1) R (w.heap.size + 1) pc pa big ps ae au _ ⟨by decide, by decide, hpl, ?_, hpr⟩ (by rw [hs1]; exact Nat.le_refl _) (by omega) ⟨Nat.lt_succ_self _, ?_⟩ ((HQ.out.1.kept hk1).up (by omega)) (hk1.cell HQ.out.2.1 (by omega)) (hk1.cell HQ.out.2.2 (by omega)) (fun w' hk' => HR.out w' (hk1.trans (Kept.mono hk' (fun j _ hj => ?_))))
    · intro l hl
      simp at hl
      subst hl
      decide
    · intro i l hi
      match i, hi with
      | 0, hi =>
        simp at hi
        subst hi
        exact hc1
      | i + 1, hi => simp at hi
    · omega
  · have h0' : ¬ (ls.length : Int) = 0 := by omega
    obtain ⟨lb, lo, rfl, hz⟩ := hlz (by omega)
    have HZ : Hid (Lz w N lb lo ls) := hz
    clear hz hlz
    go_wp2_with fail
    refine HK1.out _ _ ?_
    exact pl_b R N lb lo lc pc pa big ls ps ae au w ⟨by omega, hll, hpl, hlr, hpr⟩ hN h10 HZ.out HQ.out.1 HQ.out.2.1 HQ.out.2.2 HR
end Go.Proofs.YbulkbgsmFmt
