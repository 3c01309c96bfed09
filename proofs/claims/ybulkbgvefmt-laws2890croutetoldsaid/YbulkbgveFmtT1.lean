import Derived.Test.YbulkbgveFmtT0
namespace Go.Proofs.YbulkbgveFmt
open Go.RowKit Go.Extern.Stop Go.Stop Go.Extern

set_option maxHeartbeats 4000000 in
set_option maxRecDepth 100000 in
theorem tail_first {u3 u4 u5 u6 u7 u8 u9 u10 u11 u12 u13 u14 u17 u21 u22 u23 u24 u25 u26 u27 u28 u29 u30 u31 u32 u33 u34 u35 u36 u37 u38 u39 u40 u41 u42 u43 u44 u45 u46 u47 u48 u49 u50 u51 u52 u53 u54 u55 u56 u57 u58 u59 u60 u61 u62 u63 u64 u65 u66 u67 u68 u69 u70 u71 u72 u73 u74 u75 u76 u77 u78 u79 u80 u81 u82 u83 u84 u85 u86 u87 u88 u89 u90 u91 u92 u93 u94 u95 u96 u97 u98 u99 u100 u101 u102 u103 u104 u105 u106 u107 u108 u109 u110 u111 u112 u113 u114 u115 u116 u117 u118 u119 u120 u121 u122 u123 u124 u125 u126 u127 u128 u129 u130 u131 u132 u133 u134 u135 u136 u137 u138 u139 u140 u141 u142 u143 u144 u145 u146 u147 u148 u149 u150 u151 u152 u153 u154 u155 u156 u157 u158 u159 u160 u161 u162 u163 u164 u165 u166 u167 u168 u169 u170 u171 u172 u173 u174 u175 u176 u177 u178 u179 u180 u181 u182 u183 u184 u185 u186 u187 u188 u189 u190 u191 u192 u193 u194 u195 u196 u197 u198 u199 u200 u201 u202 u203 u204 u205 u206 u207 u208 u209 u210 u211 u212 u213 u214 u215 u216 u217 u218 u219 u220 u221 u222 u223 u224 u225 u226 u227 u228 u229 u230 u231 u232 u233 u234 u235 u236 u237 u238 u239 u240 u241 u242 u243 u244 u245 u246 u247 u248 u249 u250 u251 u252 u253 u254 u255 u256 u257 u258 u259 u260 u261 u262 u263 u264 u265 u266 u267 u268 u269 u270 u271 u272 u273 u274 u275 u276 u277 u278 u279 u280 u281 u282 u283 u284 u285 u286 u287 u288 u289 u290 u291 u292 u293 u294 u295 u296 u297 u298 u299 : Value} (j : Nat) (hj : j < 8) (l c i v : Int) (hl : l ≠ 0) (hv : i ≤ v) (R E b C cc : Nat) (zs : List Int) (W w5 : World) (hS5 : St W R b zs (rg b W.heap.size (j + 1) 0 0 0 0 (.slice (some ⟨C, 0, none⟩) 1 cc) 1 l c i ((j : Int) + 1) l c i ((j : Int) + 1)) w5) (hE5 : Row w5 E 31 [.int .i64 l, .int .i64 c, .int .i64 i, .int .i64 ((j : Int) + 1)]) (hcell5 : w5.cell? ⟨W.heap.size, j, none⟩ = some (.int .i64 v)) :
    Code.wp Ybaf.prog ((Ybaf.f3.body.bind (afterRegion 17)).getD .skip) (bodyPost Ybaf.prog Ybaf.f3 fun e w' => e = .returned (.bool true) ∧ Below W.heap.size W w') ⟨#[.int .i64 l, .int .i64 c, .int .i64 i, u3, u4, u5, u6, u7, u8, u9, u10, u11, u12, u13, u14, .int .i64 ((j : Int) + 1), .slice (some ⟨W.heap.size, 0, none⟩) (j + 1) (j + 1), u17, .pointer (some ⟨R, 0, none⟩), .pointer (some ⟨E, 0, none⟩), .bool false, u21, u22, u23, u24, u25, u26, u27, u28, u29, u30, u31, u32, u33, u34, u35, u36, u37, u38, u39, u40, u41, u42, u43, u44, u45, u46, u47, u48, u49, u50, u51, u52, u53, u54, u55, u56, u57, u58, u59, u60, u61, u62, u63, u64, u65, u66, u67, u68, u69, u70, u71, u72, u73, u74, u75, u76, u77, u78, u79, u80, u81, u82, u83, u84, u85, u86, u87, u88, u89, u90, u91, u92, u93, u94, u95, u96, u97, u98, u99, u100, u101, u102, u103, u104, u105, u106, u107, u108, u109, u110, u111, u112, u113, u114, u115, u116, u117, u118, u119, u120, u121, u122, u123, u124, u125, u126, u127, u128, u129, u130, u131, u132, u133, u134, u135, u136, u137, u138, u139, u140, u141, u142, u143, u144, u145, u146, u147, u148, u149, u150, u151, u152, u153, u154, u155, u156, u157, u158, u159, u160, u161, u162, u163, u164, u165, u166, u167, u168, u169, u170, u171, u172, u173, u174, u175, u176, u177, u178, u179, u180, u181, u182, u183, u184, u185, u186, u187, u188, u189, u190, u191, u192, u193, u194, u195, u196, u197, u198, u199, u200, u201, u202, u203, u204, u205, u206, u207, u208, u209, u210, u211, u212, u213, u214, u215, u216, u217, u218, u219, u220, u221, u222, u223, u224, u225, u226, u227, u228, u229, u230, u231, u232, u233, u234, u235, u236, u237, u238, u239, u240, u241, u242, u243, u244, u245, u246, u247, u248, u249, u250, u251, u252, u253, u254, u255, u256, u257, u258, u259, u260, u261, u262, u263, u264, u265, u266, u267, u268, u269, u270, u271, u272, u273, u274, u275, u276, u277, u278, u279, u280, u281, u282, u283, u284, u285, u286, u287, u288, u289, u290, u291, u292, u293, u294, u295, u296, u297, u298, u299], []⟩ w5 := by
  conv => arg 2; whnf
  have hji : (j : Int) < (j : Int) + 1 := by omega
  have hj0 : (0 : Int) < (j : Int) + 1 := by omega
  have hj2 : (0 : Int) ≤ (j : Int) := by omega
  have hwj : IntKind.i64.wrap (j : Int) = (j : Int) := IntWalk.i64_in _ (by omega)
  have hs : Hid _ := setup3 hS5 hE5 #[.int .i64 l, .int .i64 c, .int .i64 i, .int .i64 ((j : Int) + 1)]
  have c9 : w5.cell? ⟨R, 9, none⟩ = some (.int .i64 0) := hS5.row.cell 9
  have c10 : w5.cell? ⟨R, 10, none⟩ = some (.int .i64 0) := hS5.row.cell 10
  have c11 : w5.cell? ⟨R, 11, none⟩ = some (.int .i64 0) := hS5.row.cell 11
  have c12 : w5.cell? ⟨R, 12, none⟩ = some (.int .i64 0) := hS5.row.cell 12
  have p0 : w5.cell? ⟨E, 0, none⟩ = some (.int .i64 l) := hE5.cell 0
  have p1 : w5.cell? ⟨E, 1, none⟩ = some (.int .i64 c) := hE5.cell 1
  have p2 : w5.cell? ⟨E, 2, none⟩ = some (.int .i64 i) := hE5.cell 2
  have p3 : w5.cell? ⟨E, 3, none⟩ = some (.int .i64 ((j : Int) + 1)) := hE5.cell 3
  clear hS5 hE5
  go_wp2_with fail
  generalize w5.alloc (.cells #[.int .i64 l, .int .i64 c, .int .i64 i, .int .i64 ((j : Int) + 1)] 31) = w6 at hs ⊢
  generalize w5.heap.size = H at hs ⊢
  obtain ⟨hS, hE, hH⟩ := hs.out
  have hfin := hS.bel
  clear hs c9 c10 c11 c12 p0 p1 p2 p3 hcell5
  have c23 : w6.cell? ⟨R, 23, none⟩ = some (.int .i64 l) := hS.row.cell 23
  have c24 : w6.cell? ⟨R, 24, none⟩ = some (.int .i64 c) := hS.row.cell 24
  have c25 : w6.cell? ⟨R, 25, none⟩ = some (.int .i64 i) := hS.row.cell 25
  have c26 : w6.cell? ⟨R, 26, none⟩ = some (.int .i64 ((j : Int) + 1)) := hS.row.cell 26
  have c27 : w6.cell? ⟨R, 27, none⟩ = some (.int .i64 l) := hS.row.cell 27
  have c28 : w6.cell? ⟨R, 28, none⟩ = some (.int .i64 c) := hS.row.cell 28
  have c29 : w6.cell? ⟨R, 29, none⟩ = some (.int .i64 i) := hS.row.cell 29
  have c30 : w6.cell? ⟨R, 30, none⟩ = some (.int .i64 ((j : Int) + 1)) := hS.row.cell 30
  have c6 : w6.cell? ⟨R, 6, none⟩ = some (.slice none 0 0) := hS.row.cell 6
  have c8 : w6.cell? ⟨R, 8, none⟩ = some (.int .i64 0) := hS.row.cell 8
  have c13 : w6.cell? ⟨R, 13, none⟩ = some (.slice none 0 0) := hS.row.cell 13
  have p0 : w6.cell? ⟨E, 0, none⟩ = some (.int .i64 l) := hE.cell 0
  have p1 : w6.cell? ⟨E, 1, none⟩ = some (.int .i64 c) := hE.cell 1
  have p2 : w6.cell? ⟨E, 2, none⟩ = some (.int .i64 i) := hE.cell 2
  have p3 : w6.cell? ⟨E, 3, none⟩ = some (.int .i64 ((j : Int) + 1)) := hE.cell 3
  have q0 : w6.cell? ⟨H, 0, none⟩ = some (.int .i64 l) := hH.cell 0
  have q1 : w6.cell? ⟨H, 1, none⟩ = some (.int .i64 c) := hH.cell 1
  have q2 : w6.cell? ⟨H, 2, none⟩ = some (.int .i64 i) := hH.cell 2
  have q3 : w6.cell? ⟨H, 3, none⟩ = some (.int .i64 ((j : Int) + 1)) := hH.cell 3
  clear hS hE hH
  go_quiet (fail)
  go_wp2_with fail
  go_ret
  exact ⟨rfl, below_drewN hfin _⟩
end Go.Proofs.YbulkbgveFmt
