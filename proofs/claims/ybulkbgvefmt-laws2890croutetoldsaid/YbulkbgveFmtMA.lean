import Derived.Test.YbulkbgveFmtTz
import Derived.Test.YbulkbgveFmtT4
namespace Go.Proofs.YbulkbgveFmt
open Go.RowKit Go.Extern.Stop Go.Stop Go.Extern

/-- What stands of the lines that wait. -/
structure Wt (B C K kn : Nat) (ys : List Value) (R b : Nat) (w : World) : Prop where
  row : Row w C 40 ys
  y0 : ys[0]? = some (.slice (some ⟨K, 0, none⟩) kn 4096)
  buf : Buf w B K kn
  le : kn ≤ 50
  RK : R ≠ K
  CK : C ≠ K
  RC : R ≠ C
  bC : b ≠ C
  bK : b ≠ K
  lC : B ≤ C
  lK : B ≤ K

theorem Wt.kept {B C K kn : Nat} {ys : List Value} {R b : Nat} {w w' : World} (h : Wt B C K kn ys R b w) (hk : Kept (fun k => k = R) w w') : Wt B C K kn ys R b w' :=
  ⟨h.row.kept hk (fun e => h.RC e.symm), h.y0, h.buf.kept hk (fun e => h.RK e.symm), h.le, h.RK, h.CK, h.RC, h.bC, h.bK, h.lC, h.lK⟩

theorem kept4 {w : World} {R : Nat} (l c i d : Int) (o : Obj) : Kept (fun k => k = R) w (((((w.setCell ⟨R, 9, none⟩ (.int .i64 l)).setCell ⟨R, 10, none⟩ (.int .i64 c)).setCell ⟨R, 11, none⟩ (.int .i64 i)).setCell ⟨R, 12, none⟩ (.int .i64 d)).alloc o) :=
  (((((Kept.refl (fun k => k = R) w).setCell (g := R) (j := 9) (fun _ => rfl) (.int .i64 l)).setCell (g := R) (j := 10) (fun _ => rfl) (.int .i64 c)).setCell (g := R) (j := 11) (fun _ => rfl) (.int .i64 i)).setCell (g := R) (j := 12) (fun _ => rfl) (.int .i64 d)).alloc o

theorem setup1g {W wc : World} {R b I n : Nat} {zs : List Int} {v : Value} {u f0 f1 f2 f3 g0 g1 g2 g3 : Int} {B C K kn : Nat} {ys : List Value} (hS : St W R b zs (rg b I n 0 0 0 0 v u f0 f1 f2 f3 g0 g1 g2 g3) wc) (hw : Wt B C K kn ys R b wc) (l c i d : Int) :
    St W R b zs (rg b I n l c i d v u f0 f1 f2 f3 g0 g1 g2 g3) (((((wc.setCell ⟨R, 9, none⟩ (.int .i64 l)).setCell ⟨R, 10, none⟩ (.int .i64 c)).setCell ⟨R, 11, none⟩ (.int .i64 i)).setCell ⟨R, 12, none⟩ (.int .i64 d)).alloc (.cells #[.int .i64 l, .int .i64 c, .int .i64 i, .int .i64 d] 31)) ∧ Wt B C K kn ys R b (((((wc.setCell ⟨R, 9, none⟩ (.int .i64 l)).setCell ⟨R, 10, none⟩ (.int .i64 c)).setCell ⟨R, 11, none⟩ (.int .i64 i)).setCell ⟨R, 12, none⟩ (.int .i64 d)).alloc (.cells #[.int .i64 l, .int .i64 c, .int .i64 i, .int .i64 d] 31)) ∧ Row (((((wc.setCell ⟨R, 9, none⟩ (.int .i64 l)).setCell ⟨R, 10, none⟩ (.int .i64 c)).setCell ⟨R, 11, none⟩ (.int .i64 i)).setCell ⟨R, 12, none⟩ (.int .i64 d)).alloc (.cells #[.int .i64 l, .int .i64 c, .int .i64 i, .int .i64 d] 31)) wc.heap.size 31 [.int .i64 l, .int .i64 c, .int .i64 i, .int .i64 d] ∧ (wc.heap.size ≠ R ∧ wc.heap.size ≠ C ∧ wc.heap.size ≠ K) := by
  have e : ((((wc.setCell ⟨R, 9, none⟩ (.int .i64 l)).setCell ⟨R, 10, none⟩ (.int .i64 c)).setCell ⟨R, 11, none⟩ (.int .i64 i)).setCell ⟨R, 12, none⟩ (.int .i64 d)).heap.size = wc.heap.size := by simp
  have h := Row.new ((((wc.setCell ⟨R, 9, none⟩ (.int .i64 l)).setCell ⟨R, 10, none⟩ (.int .i64 c)).setCell ⟨R, 11, none⟩ (.int .i64 i)).setCell ⟨R, 12, none⟩ (.int .i64 d)) 31 #[.int .i64 l, .int .i64 c, .int .i64 i, .int .i64 d]
  rw [e] at h
  exact ⟨(hS.curg l c i d).alloc _, hw.kept (kept4 l c i d _), h, Nat.ne_of_gt hS.row.lt, Nat.ne_of_gt hw.row.lt, Nat.ne_of_gt hw.buf.lt⟩

theorem setup2w {W w : World} {R b : Nat} {zs : List Int} {xs : List Value} {E : Nat} {zs' : List Value} {B C K kn : Nat} {ys : List Value} (hS : St W R b zs xs w) (hw : Wt B C K kn ys R b w) (hE : Row w E 31 zs') (u v : Array Value) :
    St W R b zs xs ((w.alloc (.cells u 31)).alloc (.cells v 31)) ∧ Wt B C K kn ys R b ((w.alloc (.cells u 31)).alloc (.cells v 31)) ∧ Row ((w.alloc (.cells u 31)).alloc (.cells v 31)) E 31 zs' ∧ Row ((w.alloc (.cells u 31)).alloc (.cells v 31)) w.heap.size 31 u.toList ∧ Row ((w.alloc (.cells u 31)).alloc (.cells v 31)) (w.heap.size + 1) 31 v.toList ∧ w.heap.size ≠ R ∧ w.heap.size + 1 ≠ R ∧ w.heap.size ≠ C ∧ w.heap.size ≠ K := by
  obtain ⟨h1, h2, h3, h4, h5, h6⟩ := setup2 hS hE u v
  exact ⟨h1, hw.kept (((Kept.refl _ w).alloc _).alloc _), h2, h3, h4, h5, h6, Nat.ne_of_gt hw.row.lt, Nat.ne_of_gt hw.buf.lt⟩

theorem St.of_kept3 {W : World} {R b : Nat} {zs : List Int} {xs zs' : List Value} {w w' : World} {B C K kn : Nat} {ys : List Value} (h : St W R b zs xs w) (hw : Wt B C K kn ys R b w) (hB : W.heap.size < B) (hR : Row w' R 43 zs') (hk : Kept (fun k => k = R ∨ k = C ∨ k = K) w w') : St W R b zs zs' w' := by
  have lC := hw.lC
  have lK := hw.lK
  have lR := h.lR
  refine ⟨hR, h.br.kept hk (fun e => e.elim h.ne (fun e => e.elim hw.bC hw.bK)), h.ind.kept hk (fun e => ?_), h.bel.trans (hk.below h.bel.size (fun k hk => ?_)), h.lb, h.lR, h.ne⟩
  · rcases e with e | e | e <;> omega
  · rcases hk with e | e | e <;> omega

theorem wt_mk {B C K kn : Nat} {ys : List Value} {R b : Nat} {w : World} (h1 : Row w C 40 ys) (h2 : ys[0]? = some (.slice (some ⟨K, 0, none⟩) kn 4096)) (h3 : Buf w B K kn) (h4 : kn ≤ 50) (hR : R < B) (hb : b < B) (hK : B < K) (hC : K < C) : Wt B C K kn ys R b w :=
  ⟨h1, h2, h3, h4, by omega, by omega, by omega, by omega, by omega, by omega, by omega⟩

set_option maxHeartbeats 4000000 in
set_option maxRecDepth 100000 in
theorem mid_a {u3 u4 u7 u8 u9 u10 u11 u12 u13 u17 u18 u19 u20 u21 u22 u23 u24 u25 u26 u27 u28 u29 u30 u31 u32 u33 u34 u35 u36 u37 u38 u39 u40 u41 u42 u43 u44 u45 u46 u47 u48 u49 u50 u51 u52 u53 u54 u55 u56 u57 u58 u59 u60 u61 u62 u63 u64 u65 u66 u67 u68 u69 u70 u71 u72 u73 u74 u75 u76 u77 u78 u79 u80 u81 u82 u83 u84 u85 u86 u87 u88 u89 u90 u91 u92 u93 u94 u95 u96 u97 u98 u99 u100 u101 u102 u103 u104 u105 u106 u107 u108 u109 u110 u111 u112 u113 u114 u115 u116 u117 u118 u119 u120 u121 u122 u123 u124 u125 u126 u127 u128 u129 u130 u131 u132 u133 u134 u135 u136 u137 u138 u139 u140 u141 u142 u143 u144 u145 u146 u147 u148 u149 u150 u151 u152 u153 u154 u155 u156 u157 u158 u159 u160 u161 u162 u163 u164 u165 u166 u167 u168 u169 u170 u171 u172 u173 u174 u175 u176 u177 u178 u179 u180 u181 u182 u183 u184 u185 u186 u187 u188 u189 u190 u191 u192 u193 u194 u195 u196 u197 u198 u199 u200 u201 u202 u203 u204 u205 u206 u207 u208 u209 u210 u211 u212 u213 u214 u215 u216 u217 u218 u219 u220 u221 u222 u223 u224 u225 u226 u227 u228 u229 u230 u231 u232 u233 u234 u235 u236 u237 u238 u239 u240 u241 u242 u243 u244 u245 u246 u247 u248 u249 u250 u251 u252 u253 u254 u255 u256 u257 u258 u259 u260 u261 u262 u263 u264 u265 u266 u267 u268 u269 u270 u271 u272 u273 u274 u275 u276 u277 u278 u279 u280 u281 u282 u283 u284 u285 u286 u287 u288 u289 u290 u291 u292 u293 u294 u295 u296 u297 u298 u299 : Value} (n : Nat) (l c i : Int) (pl : Int) (hpl : pl ≠ 0) (W wc : World) (zs : List Int) (hI : Row wc W.heap.size 3 (zs.map (.int .i64))) (hbel : Below W.heap.size W wc)  :
    Code.wp Ybaf.prog ((Ybaf.f3.body.bind (fromRegion 9)).getD .skip) (bodyPost Ybaf.prog Ybaf.f3 fun e w' => e = .returned (.bool true) ∧ Below W.heap.size W w') ⟨#[.int .i64 l, .int .i64 c, .int .i64 i, u3, u4, .bool true, .int .i64 pl, u7, u8, u9, u10, u11, u12, u13, .bool false, .int .i64 (n : Int), .slice (some ⟨W.heap.size, 0, none⟩) n n, u17, u18, u19, u20, u21, u22, u23, u24, u25, u26, u27, u28, u29, u30, u31, u32, u33, u34, u35, u36, u37, u38, u39, u40, u41, u42, u43, u44, u45, u46, u47, u48, u49, u50, u51, u52, u53, u54, u55, u56, u57, u58, u59, u60, u61, u62, u63, u64, u65, u66, u67, u68, u69, u70, u71, u72, u73, u74, u75, u76, u77, u78, u79, u80, u81, u82, u83, u84, u85, u86, u87, u88, u89, u90, u91, u92, u93, u94, u95, u96, u97, u98, u99, u100, u101, u102, u103, u104, u105, u106, u107, u108, u109, u110, u111, u112, u113, u114, u115, u116, u117, u118, u119, u120, u121, u122, u123, u124, u125, u126, u127, u128, u129, u130, u131, u132, u133, u134, u135, u136, u137, u138, u139, u140, u141, u142, u143, u144, u145, u146, u147, u148, u149, u150, u151, u152, u153, u154, u155, u156, u157, u158, u159, u160, u161, u162, u163, u164, u165, u166, u167, u168, u169, u170, u171, u172, u173, u174, u175, u176, u177, u178, u179, u180, u181, u182, u183, u184, u185, u186, u187, u188, u189, u190, u191, u192, u193, u194, u195, u196, u197, u198, u199, u200, u201, u202, u203, u204, u205, u206, u207, u208, u209, u210, u211, u212, u213, u214, u215, u216, u217, u218, u219, u220, u221, u222, u223, u224, u225, u226, u227, u228, u229, u230, u231, u232, u233, u234, u235, u236, u237, u238, u239, u240, u241, u242, u243, u244, u245, u246, u247, u248, u249, u250, u251, u252, u253, u254, u255, u256, u257, u258, u259, u260, u261, u262, u263, u264, u265, u266, u267, u268, u269, u270, u271, u272, u273, u274, u275, u276, u277, u278, u279, u280, u281, u282, u283, u284, u285, u286, u287, u288, u289, u290, u291, u292, u293, u294, u295, u296, u297, u298, u299], []⟩ wc := by
  conv => arg 2; whnf
  go_upto_region 10 with fail
  have hS0 := St.new hI hbel n
  generalize hbe : wc.heap.size = b at hS0 ⊢
  generalize hRe : b + 1 = R at hS0 ⊢
  go_cut [60] from 25 (fun s60 wd => s60 = .bool true ∧ St W R b zs (rd b W.heap.size n 0 0 0 0) wd)
  case first =>
    clear hI hbel
    go_wp2_with fail
    go_meet
    case rel => exact ⟨by simp [hpl], hS0⟩
  case rest =>
    clear hS0 hI hbel hbe hRe
    obtain ⟨rfl, hS⟩ := hcut
    go_wp2_with fail
    refine (add_first R pl 1 0 0 0 0 0 wc _ hS.row rfl rfl rfl rfl rfl rfl rfl rfl rfl rfl).mono ?_
    rintro _ w1 ⟨rfl, C, K, kn, cc, ys, hR1, hC1, hy0, hBuf, hkn, hWK, hKC, hk1⟩
    rw [rg_add] at hR1
    have hw : Hid (Wt wc.heap.size C K kn ys R b w1) := wt_mk hC1 hy0 hBuf hkn hS.row.lt hS.br.lt hWK hKC
    have hbz := hS.lb
    have hbl := hS.br.lt
    replace hS := hS.of_kept hR1 hk1
    have hWB : W.heap.size < wc.heap.size := Nat.lt_of_lt_of_le hbz (Nat.le_of_lt hbl)
    generalize wc.heap.size = B0 at hw hWB
    clear hR1 hC1 hy0 hBuf hkn hWK hKC hk1
    have c9 : w1.cell? ⟨R, 9, none⟩ = some (.int .i64 0) := hS.row.cell 9
    have c10 : w1.cell? ⟨R, 10, none⟩ = some (.int .i64 0) := hS.row.cell 10
    have c11 : w1.cell? ⟨R, 11, none⟩ = some (.int .i64 0) := hS.row.cell 11
    have c12 : w1.cell? ⟨R, 12, none⟩ = some (.int .i64 0) := hS.row.cell 12
    have f9 := hS.row.frozen 9
    have f10 := hS.row.frozen 10
    have f11 := hS.row.frozen 11
    have f12 := hS.row.frozen 12
    have hRl := hS.row.lt
    go_wp2_with fail
    have hs : Hid _ := setup1g hS hw.out l c i (n : Int)
    clear hS hw c9 c10 c11 c12 f9 f10 f11 f12 hRl
    generalize (((((w1.setCell ⟨R, 9, none⟩ (.int .i64 l)).setCell ⟨R, 10, none⟩ (.int .i64 c)).setCell ⟨R, 11, none⟩ (.int .i64 i)).setCell ⟨R, 12, none⟩ (.int .i64 (n : Int))).alloc (.cells #[.int .i64 l, .int .i64 c, .int .i64 i, .int .i64 (n : Int)] 31)) = w2 at hs ⊢
    generalize w1.heap.size = E at hs ⊢
    obtain ⟨hS, hw, hE, nER, nEC, nEK⟩ := hs.out
    clear hs
    have c23 : w2.cell? ⟨R, 23, none⟩ = some (.int .i64 pl) := hS.row.cell 23
    have c24 : w2.cell? ⟨R, 24, none⟩ = some (.int .i64 1) := hS.row.cell 24
    have c25 : w2.cell? ⟨R, 25, none⟩ = some (.int .i64 0) := hS.row.cell 25
    have c26 : w2.cell? ⟨R, 26, none⟩ = some (.int .i64 0) := hS.row.cell 26
    have c27 : w2.cell? ⟨R, 27, none⟩ = some (.int .i64 pl) := hS.row.cell 27
    have c28 : w2.cell? ⟨R, 28, none⟩ = some (.int .i64 1) := hS.row.cell 28
    have c29 : w2.cell? ⟨R, 29, none⟩ = some (.int .i64 0) := hS.row.cell 29
    have c30 : w2.cell? ⟨R, 30, none⟩ = some (.int .i64 0) := hS.row.cell 30
    have hRl := hS.row.lt
    have HW : Hid (Wt B0 C K kn ys R b w2) := hw
    clear hw
    refine (empty_walk R pl w2 c23).mono ?_
    rintro _ w3 ⟨rfl, rfl⟩
    go_wp2_with fail
    have hs : Hid _ := setup2w hS HW.out hE #[.int .i64 pl, .int .i64 1, .int .i64 0, .int .i64 0] #[.int .i64 pl, .int .i64 1, .int .i64 0, .int .i64 0]
    clear hS hE HW c23 c24 c25 c26 c27 c28 c29 c30 hRl
    generalize (w3.alloc (.cells #[.int .i64 pl, .int .i64 1, .int .i64 0, .int .i64 0] 31)).alloc (.cells #[.int .i64 pl, .int .i64 1, .int .i64 0, .int .i64 0] 31) = w4 at hs ⊢
    generalize w3.heap.size = F0 at hs ⊢
    obtain ⟨hS, hw, hE, hF, hG, nFR, nGR, nFC, nFK⟩ := hs.out
    rename_i K1 hK1 K2 hK2
    by_cases hl : l = 0
    · subst hl
      refine (end_zero R b c i (n : Int) w4 _ hS.row rfl (hS.br.cell 1) rfl rfl rfl rfl).mono ?_
      rintro _ w5 ⟨rfl, hR5, hk5⟩
      rw [rg_zero] at hR5
      have hF5 := hF.kept hk5 nFR
      have hG5 := hG.kept hk5 nGR
      refine hK2 _ _ (hK1 _ _ ?_)
      exact tail_zero pl 1 0 0 pl 1 0 0 R F0 (F0 + 1) W w5 (hS.of_kept hR5 hk5).bel (hR5.cell 9) (hR5.cell 10) (hR5.cell 11) (hR5.cell 12) (hR5.cell 23) (hR5.cell 24) (hR5.cell 25) (hR5.cell 26) (hR5.cell 27) (hR5.cell 28) (hR5.cell 29) (hR5.cell 30) (hR5.cell 6) (hR5.cell 8) (hR5.cell 13) (hF5.cell 0) (hF5.cell 1) (hF5.cell 2) (hF5.cell 3) (hG5.cell 0) (hG5.cell 1) (hG5.cell 2) (hG5.cell 3)
    · refine (end_more R b l c i (n : Int) hl w4 _ hS.row rfl (hS.br.cell 1) hS.ne rfl rfl rfl rfl B0 C K kn cc pl pl 1 0 0 ys rfl rfl rfl hpl rfl rfl rfl rfl hw.row hw.y0 hw.buf hw.le hw.RK hw.CK hw.RC hw.bC hw.bK).mono ?_
      rintro _ w5 ⟨rfl, hR5, hk5⟩
      rw [rg_more] at hR5
      have hE5 := hE.kept hk5 (fun h => h.elim nER (fun h => h.elim nEC nEK))
      have hF5 := hF.kept hk5 (fun h => h.elim nFR (fun h => h.elim nFC nFK))
      refine hK2 _ _ (hK1 _ _ ?_)
      exact tail_more n l c i pl hl hpl R E F0 b _ 1 zs W w5 (hS.of_kept3 hw hWB hR5 hk5) hE5 hF5
end Go.Proofs.YbulkbgveFmt
