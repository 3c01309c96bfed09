import Derived.Test.YbulkbgveFmtTz
import Derived.Test.YbulkbgveFmtT1
import Derived.Test.YbulkbgveFmtT2
import Derived.Test.YbulkbgveFmtT3
import Derived.Test.YbulkbgveFmtT4
namespace Go.Proofs.YbulkbgveFmt
open Go.RowKit Go.Extern.Stop Go.Stop Go.Extern

set_option maxHeartbeats 4000000 in
set_option maxRecDepth 100000 in
theorem mid_b0 {u3 u4 u7 u8 u9 u10 u11 u12 u13 u17 u18 u19 u20 u21 u22 u23 u24 u25 u26 u27 u28 u29 u30 u31 u32 u33 u34 u35 u36 u37 u38 u39 u40 u41 u42 u43 u44 u45 u46 u47 u48 u49 u50 u51 u52 u53 u54 u55 u56 u57 u58 u59 u60 u61 u62 u63 u64 u65 u66 u67 u68 u69 u70 u71 u72 u73 u74 u75 u76 u77 u78 u79 u80 u81 u82 u83 u84 u85 u86 u87 u88 u89 u90 u91 u92 u93 u94 u95 u96 u97 u98 u99 u100 u101 u102 u103 u104 u105 u106 u107 u108 u109 u110 u111 u112 u113 u114 u115 u116 u117 u118 u119 u120 u121 u122 u123 u124 u125 u126 u127 u128 u129 u130 u131 u132 u133 u134 u135 u136 u137 u138 u139 u140 u141 u142 u143 u144 u145 u146 u147 u148 u149 u150 u151 u152 u153 u154 u155 u156 u157 u158 u159 u160 u161 u162 u163 u164 u165 u166 u167 u168 u169 u170 u171 u172 u173 u174 u175 u176 u177 u178 u179 u180 u181 u182 u183 u184 u185 u186 u187 u188 u189 u190 u191 u192 u193 u194 u195 u196 u197 u198 u199 u200 u201 u202 u203 u204 u205 u206 u207 u208 u209 u210 u211 u212 u213 u214 u215 u216 u217 u218 u219 u220 u221 u222 u223 u224 u225 u226 u227 u228 u229 u230 u231 u232 u233 u234 u235 u236 u237 u238 u239 u240 u241 u242 u243 u244 u245 u246 u247 u248 u249 u250 u251 u252 u253 u254 u255 u256 u257 u258 u259 u260 u261 u262 u263 u264 u265 u266 u267 u268 u269 u270 u271 u272 u273 u274 u275 u276 u277 u278 u279 u280 u281 u282 u283 u284 u285 u286 u287 u288 u289 u290 u291 u292 u293 u294 u295 u296 u297 u298 u299 : Value} (F : Interp) (l c i : Int) (HM : Hid ((FmtStop.textOf (F "fmt.Sprintf" (reading i) 0)).toList.isEmpty = false)) (pre : Bool) (pl : Int) (hq : Hid (¬ (pre = true ∧ pl ≠ 0))) (W wc : World) (zs : List Int) (hI : Row wc W.heap.size 3 (zs.map (.int .i64))) (hbel : Below W.heap.size W wc) (HF : Hid (F.answers W.tape)) :
    Code.wp Ybaf.prog ((Ybaf.f3.body.bind (fromRegion 9)).getD .skip) (bodyPost Ybaf.prog Ybaf.f3 fun e w' => e = .returned (.bool true) ∧ Below W.heap.size W w') ⟨#[.int .i64 l, .int .i64 c, .int .i64 i, u3, u4, .bool pre, .int .i64 pl, u7, u8, u9, u10, u11, u12, u13, .bool false, .int .i64 0, .slice (some ⟨W.heap.size, 0, none⟩) 0 0, u17, u18, u19, u20, u21, u22, u23, u24, u25, u26, u27, u28, u29, u30, u31, u32, u33, u34, u35, u36, u37, u38, u39, u40, u41, u42, u43, u44, u45, u46, u47, u48, u49, u50, u51, u52, u53, u54, u55, u56, u57, u58, u59, u60, u61, u62, u63, u64, u65, u66, u67, u68, u69, u70, u71, u72, u73, u74, u75, u76, u77, u78, u79, u80, u81, u82, u83, u84, u85, u86, u87, u88, u89, u90, u91, u92, u93, u94, u95, u96, u97, u98, u99, u100, u101, u102, u103, u104, u105, u106, u107, u108, u109, u110, u111, u112, u113, u114, u115, u116, u117, u118, u119, u120, u121, u122, u123, u124, u125, u126, u127, u128, u129, u130, u131, u132, u133, u134, u135, u136, u137, u138, u139, u140, u141, u142, u143, u144, u145, u146, u147, u148, u149, u150, u151, u152, u153, u154, u155, u156, u157, u158, u159, u160, u161, u162, u163, u164, u165, u166, u167, u168, u169, u170, u171, u172, u173, u174, u175, u176, u177, u178, u179, u180, u181, u182, u183, u184, u185, u186, u187, u188, u189, u190, u191, u192, u193, u194, u195, u196, u197, u198, u199, u200, u201, u202, u203, u204, u205, u206, u207, u208, u209, u210, u211, u212, u213, u214, u215, u216, u217, u218, u219, u220, u221, u222, u223, u224, u225, u226, u227, u228, u229, u230, u231, u232, u233, u234, u235, u236, u237, u238, u239, u240, u241, u242, u243, u244, u245, u246, u247, u248, u249, u250, u251, u252, u253, u254, u255, u256, u257, u258, u259, u260, u261, u262, u263, u264, u265, u266, u267, u268, u269, u270, u271, u272, u273, u274, u275, u276, u277, u278, u279, u280, u281, u282, u283, u284, u285, u286, u287, u288, u289, u290, u291, u292, u293, u294, u295, u296, u297, u298, u299], []⟩ wc := by
  conv => arg 2; whnf
  go_upto_region 10 with fail
  have hS0 := St.new hI hbel 0
  generalize hbe : wc.heap.size = b at hS0 ⊢
  generalize hRe : b + 1 = R at hS0 ⊢
  go_cut [60] from 25 (fun s60 wd => s60 = .bool false ∧ St W R b zs (rd b W.heap.size 0 0 0 0 0) wd)
  case first =>
    cases pre with
    | false =>
      clear hI hbel
      go_wp2_with fail
      go_meet
      case rel => exact ⟨rfl, hS0⟩
    | true =>
      have hp0 : pl = 0 := by
        by_cases h : pl = 0
        · exact h
        · exact absurd ⟨rfl, h⟩ hq
      subst hp0
      clear hI hbel
      go_wp2_with fail
      go_meet
      case rel => exact ⟨rfl, hS0⟩
  case rest =>
    clear hS0 hI hbel hbe hRe
    obtain ⟨rfl, hS⟩ := hcut
    have c9 : wc.cell? ⟨R, 9, none⟩ = some (.int .i64 0) := hS.row.cell 9
    have c10 : wc.cell? ⟨R, 10, none⟩ = some (.int .i64 0) := hS.row.cell 10
    have c11 : wc.cell? ⟨R, 11, none⟩ = some (.int .i64 0) := hS.row.cell 11
    have c12 : wc.cell? ⟨R, 12, none⟩ = some (.int .i64 0) := hS.row.cell 12
    have f9 := hS.row.frozen 9
    have f10 := hS.row.frozen 10
    have f11 := hS.row.frozen 11
    have f12 := hS.row.frozen 12
    have hRl := hS.row.lt
    go_wp2_with fail
    have hs := setup1 hS l c i 0
    clear hS c9 c10 c11 c12 f9 f10 f11 f12 hRl
    generalize (((((wc.setCell ⟨R, 9, none⟩ (.int .i64 l)).setCell ⟨R, 10, none⟩ (.int .i64 c)).setCell ⟨R, 11, none⟩ (.int .i64 i)).setCell ⟨R, 12, none⟩ (.int .i64 0)).alloc (.cells #[.int .i64 l, .int .i64 c, .int .i64 i, .int .i64 0] 31)) = w2 at hs ⊢
    generalize wc.heap.size = E at hs ⊢
    obtain ⟨hS, hE, nER⟩ := hs
    have c23 : w2.cell? ⟨R, 23, none⟩ = some (.int .i64 0) := hS.row.cell 23
    have c24 : w2.cell? ⟨R, 24, none⟩ = some (.int .i64 0) := hS.row.cell 24
    have c25 : w2.cell? ⟨R, 25, none⟩ = some (.int .i64 0) := hS.row.cell 25
    have c26 : w2.cell? ⟨R, 26, none⟩ = some (.int .i64 0) := hS.row.cell 26
    have c27 : w2.cell? ⟨R, 27, none⟩ = some (.int .i64 0) := hS.row.cell 27
    have c28 : w2.cell? ⟨R, 28, none⟩ = some (.int .i64 0) := hS.row.cell 28
    have c29 : w2.cell? ⟨R, 29, none⟩ = some (.int .i64 0) := hS.row.cell 29
    have c30 : w2.cell? ⟨R, 30, none⟩ = some (.int .i64 0) := hS.row.cell 30
    have hRl := hS.row.lt
    refine (empty_walk R 0 w2 c23).mono ?_
    rintro _ w3 ⟨rfl, rfl⟩
    go_wp2_with fail
    have hs := setup2 hS hE #[.int .i64 0, .int .i64 0, .int .i64 0, .int .i64 0] #[.int .i64 0, .int .i64 0, .int .i64 0, .int .i64 0]
    clear hS hE c23 c24 c25 c26 c27 c28 c29 c30 hRl
    generalize (w3.alloc (.cells #[.int .i64 0, .int .i64 0, .int .i64 0, .int .i64 0] 31)).alloc (.cells #[.int .i64 0, .int .i64 0, .int .i64 0, .int .i64 0] 31) = w4 at hs ⊢
    generalize w3.heap.size = F0 at hs ⊢
    obtain ⟨hS, hE, hF, hG, nFR, nGR⟩ := hs
    rename_i K1 hK1 K2 hK2
    by_cases hl : l = 0
    · subst hl
      refine (end_zero R b c i 0 w4 _ hS.row rfl (hS.br.cell 1) rfl rfl rfl rfl).mono ?_
      rintro _ w5 ⟨rfl, hR5, hk5⟩
      rw [rd_zero] at hR5
      have hF5 := hF.kept hk5 nFR
      have hG5 := hG.kept hk5 nGR
      refine hK2 _ _ (hK1 _ _ ?_)
      exact tail_zero 0 0 0 0 0 0 0 0 R F0 (F0 + 1) W w5 (hS.of_kept hR5 hk5).bel (hR5.cell 9) (hR5.cell 10) (hR5.cell 11) (hR5.cell 12) (hR5.cell 23) (hR5.cell 24) (hR5.cell 25) (hR5.cell 26) (hR5.cell 27) (hR5.cell 28) (hR5.cell 29) (hR5.cell 30) (hR5.cell 6) (hR5.cell 8) (hR5.cell 13) (hF5.cell 0) (hF5.cell 1) (hF5.cell 2) (hF5.cell 3) (hG5.cell 0) (hG5.cell 1) (hG5.cell 2) (hG5.cell 3)
    · by_cases hi : i = 0
      · subst hi
        refine (end_ok0 R b l c hl w4 _ hS.row rfl (hS.br.cell 1) hS.ne rfl rfl rfl rfl rfl rfl).mono ?_
        rintro _ w5 ⟨rfl, G, gc, ys, hR5, hY5, y0, y1, y2, y3, y4, hle, hk5⟩
        rw [rd_ok] at hR5
        have hE5 := hE.kept hk5 nER
        refine hK2 _ _ (hK1 _ _ ?_)
        exact tail_ok0 l c hl R E G gc W w5 (hS.of_kept hR5 hk5).bel (hR5.cell 9) (hR5.cell 10) (hR5.cell 11) (hR5.cell 12) (hR5.cell 23) (hR5.cell 6) (hR5.cell 8) (hR5.cell 13) (hE5.cell 0) (hE5.cell 1) (hE5.cell 2) (hE5.cell 3) ((hY5.cell 0).trans y0) ((hY5.cell 1).trans y1) ((hY5.cell 2).trans y2) ((hY5.cell 3).trans y3) ((hY5.cell 4).trans y4)
      · have hF4 : F.answers w4.tape := by rw [hS.bel.tape]; exact HF.out
        refine (end_bad F R b l c i hi _ rfl HM.out hl w4 hF4 _ hS.row rfl (hS.br.cell 1) hS.ne rfl rfl rfl rfl rfl rfl rfl rfl rfl rfl rfl rfl rfl rfl rfl).mono ?_
        rintro _ w5 ⟨rfl, G, gc, M, mc, ys, hR5, hY5, y0, y1, hle, hk5⟩
        rw [rd_bad] at hR5
        refine hK2 _ _ (hK1 _ _ ?_)
        exact tail_bad l c i hl hi R E G gc M mc W w5 (hS.of_kept hR5 hk5).bel (hR5.cell 9) (hR5.cell 10) (hR5.cell 11) (hR5.cell 12) (hR5.cell 23) (hR5.cell 6) (hR5.cell 8) (hR5.cell 13) ((hY5.cell 0).trans y0) ((hY5.cell 1).trans y1)
end Go.Proofs.YbulkbgveFmt
