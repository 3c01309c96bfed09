import Derived.Test.YbulkbgsmFmtPn
namespace Go.Proofs.YbulkbgsmFmt
open Go.RowKit
attribute [local go_sem] eq_same eq_nil

theorem ifc_bytes (big : Bool) (xs : List Int) (l : Int) : xs ++ b32 big 1 ++ b32 big 20 ++ b16 big l ++ b16 big 0 ++ b32 big 0 ++ b32 big 20 = xs ++ Bk.bytes big (.ifc l) := by
  have e : ((Bk.body big (.ifc l)).length : Int) + 12 = 20 := by rw [Bk.body_len]; rfl
  rw [Bk.bytes, e]
  simp only [Bk.typ, Bk.body, List.append_assoc]

/-- The file with its first i interfaces. -/
def ifile (big : Bool) (ls : List Int) (i : Nat) : List Int := pfile big ((ls.take i).map Bk.ifc)
theorem ifile_succ (big : Bool) (ls : List Int) (i : Nat) (h : i < ls.length) : ifile big ls (i + 1) = ifile big ls i ++ Bk.bytes big (.ifc ls[i]) := by
  unfold ifile
  rw [List.take_succ_eq_append_getElem h, List.map_append, pfile_app]
  simp
theorem ifile_all (big : Bool) (ls : List Int) (n : Nat) (ps : List Pkt) : ifile big ls ls.length = pfile big (allB ls n (ps.take 0)) := by
  simp [ifile, allB]
theorem ifile_zero (big : Bool) (ls : List Int) : ifile big ls 0 = secHdr big := by simp [ifile, pfile]

theorem fl_four (w : World) (N : Nat) (hN : N ≤ w.heap.size) : Fl (w.alloc (.cells #[.int .u8 10, .int .u8 13, .int .u8 13, .int .u8 10] 5)) N (.slice (some ⟨w.heap.size, 0, none⟩) 4 4) [10, 13, 13, 10] :=
  ⟨rfl, .inr ⟨w.heap.size, 4, _, rfl, hN, heap_alloc_new w _, by decide, by decide, rfl, rfl⟩⟩

set_option maxHeartbeats 4000000 in
set_option maxRecDepth 100000 in
theorem pl_b {u1 u3 u4 u5 u6 u7 u8 u10 u11 u12 u13 u14 u15 u16 u17 u18 u19 u20 u21 u22 u23 u24 u25 u26 u27 u28 u29 u30 u31 u32 u33 u34 u35 u36 u37 u38 u39 u40 u41 u42 u43 u44 u45 u46 u47 u48 u49 u50 u51 u52 u53 u54 u55 u56 u57 u58 u59 u60 u61 u62 u63 u64 u65 u66 u67 u68 u69 u70 u71 u72 u73 u74 u75 u76 u77 u78 u79 u80 u81 u82 u83 u84 u85 u86 u87 u88 u89 u90 u91 u92 u93 u94 u95 u96 u97 u98 u99 u100 u101 u102 u103 u104 u105 u106 u107 u108 u109 u110 u111 u112 u113 u114 u115 u116 u117 u118 u119 u120 u121 u122 u123 u124 u125 u126 u127 u128 u129 u130 u131 u132 u133 u134 u135 u136 u137 u138 u139 u140 u141 u142 u143 u144 u145 u146 u147 u148 u149 u150 u151 u152 u153 u154 u155 u156 u157 u158 u159 u160 u161 u162 u163 u164 u165 u166 u167 u168 u169 u170 u171 u172 u173 u174 u175 u176 u177 u178 u179 u180 u181 u182 u183 u184 u185 u186 u187 u188 u189 u190 u191 u192 u193 u194 u195 u196 u197 u198 u199 u200 u201 u202 u203 u204 u205 u206 u207 u208 u209 u210 u211 u212 u213 u214 u215 u216 u217 u218 u219 u220 u221 u222 u223 u224 u225 u226 u227 u228 u229 u230 u231 u232 u233 u234 u235 u236 u237 u238 u239 u240 u241 u242 u243 u244 u245 u246 u247 u248 u249 u250 u251 u252 u253 u254 u255 u256 u257 u258 u259 u260 u261 u262 u263 u264 u265 u266 u267 u268 u269 u270 u271 u272 u273 u274 u275 u276 u277 u278 u279 u280 u281 u282 u283 u284 u285 u286 u287 u288 u289 : Value} (R : Ending → World → Prop) (N lb lo lc pc : Nat) (pa : Option Addr) (big : Bool) (ls : List Int) (ps : List Pkt) (ae au : Addr) (w : World) (hq : Pq ls ps)
    (hN : N ≤ w.heap.size) (h10 : 10 ≤ N) (hlz : Lz w N lb lo ls) (hpz : Pz w N pa ps) (hE : w.cell? ⟨0, 0, none⟩ = some (.iface 96 (.pointer (some ae)))) (hX : w.cell? ⟨8, 0, none⟩ = some (.iface 96 (.pointer (some au)))) (HR : Hid (∀ w', Kept (fun k => N ≤ k) w w' → R (.returned (.bool true)) w')) :
    Code.wp Ybaf.prog ((Ybaf.f4.body.bind (fromReg 12)).getD .skip) (bodyPost Ybaf.prog Ybaf.f4 R) ⟨#[.bool big, u1, .slice pa ps.length pc, u3, u4, u5, u6, u7, u8, .slice (some ⟨lb, lo, none⟩) ls.length lc, u10, u11, u12, u13, u14, u15, u16, u17, u18, u19, u20, u21, u22, u23, u24, u25, u26, u27, u28, u29, u30, u31, u32, u33, u34, u35, u36, u37, u38, u39, u40, u41, u42, u43, u44, u45, u46, u47, u48, u49, u50, u51, u52, u53, u54, u55, u56, u57, u58, u59, u60, u61, u62, u63, u64, u65, u66, u67, u68, u69, u70, u71, u72, u73, u74, u75, u76, u77, u78, u79, u80, u81, u82, u83, u84, u85, u86, u87, u88, u89, u90, u91, u92, u93, u94, u95, u96, u97, u98, u99, u100, u101, u102, u103, u104, u105, u106, u107, u108, u109, u110, u111, u112, u113, u114, u115, u116, u117, u118, u119, u120, u121, u122, u123, u124, u125, u126, u127, u128, u129, u130, u131, u132, u133, u134, u135, u136, u137, u138, u139, u140, u141, u142, u143, u144, u145, u146, u147, u148, u149, u150, u151, u152, u153, u154, u155, u156, u157, u158, u159, u160, u161, u162, u163, u164, u165, u166, u167, u168, u169, u170, u171, u172, u173, u174, u175, u176, u177, u178, u179, u180, u181, u182, u183, u184, u185, u186, u187, u188, u189, u190, u191, u192, u193, u194, u195, u196, u197, u198, u199, u200, u201, u202, u203, u204, u205, u206, u207, u208, u209, u210, u211, u212, u213, u214, u215, u216, u217, u218, u219, u220, u221, u222, u223, u224, u225, u226, u227, u228, u229, u230, u231, u232, u233, u234, u235, u236, u237, u238, u239, u240, u241, u242, u243, u244, u245, u246, u247, u248, u249, u250, u251, u252, u253, u254, u255, u256, u257, u258, u259, u260, u261, u262, u263, u264, u265, u266, u267, u268, u269, u270, u271, u272, u273, u274, u275, u276, u277, u278, u279, u280, u281, u282, u283, u284, u285, u286, u287, u288, u289], []⟩ w := by
  conv => arg 2; whnf
  have HQ : Hid (Pq ls ps ∧ Lz w N lb lo ls ∧ Pz w N pa ps ∧ w.cell? ⟨0, 0, none⟩ = some (.iface 96 (.pointer (some ae))) ∧ w.cell? ⟨8, 0, none⟩ = some (.iface 96 (.pointer (some au)))) := ⟨hq, hlz, hpz, hE, hX⟩
  have hl0 := hq.l0
  have hll := hq.ll
  have hF0 : Fl (w.alloc (.cells #[.int .u8 10, .int .u8 13, .int .u8 13, .int .u8 10] 5)) N (.slice (some ⟨w.heap.size, 0, none⟩) 4 4) [10, 13, 13, 10] ∧ Kept (fun k => N ≤ k) w (w.alloc (.cells #[.int .u8 10, .int .u8 13, .int .u8 13, .int .u8 10] 5)) := ⟨fl_four w N hN, (Kept.refl _ w).alloc _⟩
  clear hq hlz hpz hE hX
  have HC0 : Hid _ := put32f hF0 big hN 28 (by decide) (by decide)
  clear hF0
  go_wp2_with fail
  refine Calls.mono HC0.out ?_
  rintro _ w2 ⟨v2, rfl, hF1⟩
  have HC1 : Hid _ := put32f hF1 big hN 439041101 (by simp [b32_len]) (by decide)
  clear hF1
  clear HC0
  go_wp2_with fail
  refine Calls.mono HC1.out ?_
  rintro _ w3 ⟨v3, rfl, hF2⟩
  have HC2 : Hid _ := put16f hF2 big hN 1 (by simp [b32_len]) (by decide)
  clear hF2
  clear HC1
  go_wp2_with fail
  refine Calls.mono HC2.out ?_
  rintro _ w4 ⟨v4, rfl, hF3⟩
  have HC3 : Hid _ := put16f hF3 big hN 0 (by simp [b32_len, b16_len]) (by decide)
  clear hF3
  clear HC2
  go_wp2_with fail
  refine Calls.mono HC3.out ?_
  rintro _ w5 ⟨v5, rfl, hF4⟩
  have HC4 : Hid _ := put32f hF4 big hN 4294967295 (by simp [b32_len, b16_len]) (by decide)
  clear hF4
  clear HC3
  go_wp2_with fail
  refine Calls.mono HC4.out ?_
  rintro _ w6 ⟨v6, rfl, hF5⟩
  have HC5 : Hid _ := put32f hF5 big hN 4294967295 (by simp [b32_len, b16_len]) (by decide)
  clear hF5
  clear HC4
  go_wp2_with fail
  refine Calls.mono HC5.out ?_
  rintro _ w7 ⟨v7, rfl, hF6⟩
  have HC6 : Hid _ := put32f hF6 big hN 28 (by simp [b32_len, b16_len]) (by decide)
  clear hF6
  clear HC5
  go_wp2_with fail
  refine Calls.mono HC6.out ?_
  rintro _ w8 ⟨v8, rfl, hF7⟩
  have HF : Hid (Fl w8 N v8 (ifile big ls 0) ∧ Kept (fun k => N ≤ k) w w8) := by
    rw [ifile_zero]
    exact hF7
  clear hF7 HC6
  go_wp2_with fail
  rename_i K1 hK1
  have HK1 : Hid _ := hK1
  clear hK1
  go_loopg [10, 75] (ls.length + 1) (fun gk s10 s75 wr => ∃ i : Nat, gk = ls.length + 1 - i ∧ i ≤ ls.length ∧ s75 = .int .i64 (i : Int) ∧ Fl wr N s10 (ifile big ls i) ∧ Kept (fun k => N ≤ k) w wr)
  case atStart => exact ⟨0, rfl, Nat.zero_le _, rfl, HF.out.1, HF.out.2⟩
  case round =>
    obtain ⟨i, rfl, hi, rfl, hFl, hK⟩ := hrel
    clear HF
    by_cases hin : i < ls.length
    · have hli := (HQ.out.2.1.kept hK).2 i ls[i] (List.getElem?_eq_getElem hin)
      have hlr := HQ.out.1.lr ls[i] (List.getElem_mem hin)
      have hst := ifile_succ big ls i hin
      have hlen : (ifile big ls i).length ≤ 2000000 := by
        unfold ifile
        have h := pfile_len big ((ls.take i).map Bk.ifc) (fun b hb => by
          obtain ⟨l, hl, rfl⟩ := List.mem_map.1 hb
          exact HQ.out.1.lr l (List.mem_of_mem_take hl))
        rw [List.length_map, List.length_take] at h
        omega
      rw [← ifc_bytes] at hst
      have HST : Hid _ := hst
      clear hst
      generalize ls[i] = l at hli hlr HST
      generalize ifile big ls i = X0 at hFl hlen HST
      obtain ⟨oaF, ocF, rfl⟩ := owns_form hFl
      have hG0 : Fl wr N (.slice oaF X0.length ocF) X0 ∧ Kept (fun k => N ≤ k) w wr := ⟨hFl, hK⟩
      have hwi : IntKind.i64.wrap ((i : Int) + 1) = (i : Int) + 1 := IntWalk.i64_in _ (by omega)
      clear hFl hK
      have HD0 : Hid _ := put32f hG0 big hN 1 (by omega) (by decide)
      clear hG0
      go_wp2_with fail
      refine Calls.mono HD0.out ?_
      rintro _ z2 ⟨y2, rfl, hG1⟩
      have HD1 : Hid _ := put32f hG1 big hN 20 (by simp [b32_len]; omega) (by decide)
      clear hG1
      clear HD0
      go_wp2_with fail
      refine Calls.mono HD1.out ?_
      rintro _ z3 ⟨y3, rfl, hG2⟩
      have HD2 : Hid _ := put16f hG2 big hN l (by simp [b32_len]; omega) hlr
      clear hG2
      clear HD1
      go_wp2_with fail
      refine Calls.mono HD2.out ?_
      rintro _ z4 ⟨y4, rfl, hG3⟩
      have HD3 : Hid _ := put16f hG3 big hN 0 (by simp [b32_len, b16_len]; omega) (by decide)
      clear hG3
      clear HD2
      go_wp2_with fail
      refine Calls.mono HD3.out ?_
      rintro _ z5 ⟨y5, rfl, hG4⟩
      have HD4 : Hid _ := put32f hG4 big hN 0 (by simp [b32_len, b16_len]; omega) (by decide)
      clear hG4
      clear HD3
      go_wp2_with fail
      refine Calls.mono HD4.out ?_
      rintro _ z6 ⟨y6, rfl, hG5⟩
      have HD5 : Hid _ := put32f hG5 big hN 20 (by simp [b32_len, b16_len]; omega) (by decide)
      clear hG5
      clear HD4
      go_wp2_with fail
      refine Calls.mono HD5.out ?_
      rintro _ z7 ⟨y7, rfl, hG6⟩
      have HZ : Hid (Fl z7 N y7 (ifile big ls (i + 1)) ∧ Kept (fun k => N ≤ k) w z7) := by
        rw [HST.out]
        exact hG6
      clear hG6 HD5
      go_wp2_with fail
      go_roundg (ls.length + 1 - (i + 1))
      case rel => exact ⟨i + 1, rfl, by omega, by simp, HZ.out.1, HZ.out.2⟩
      case measure => omega
    · have hie : i = ls.length := by omega
      subst hie
      rw [ifile_all big ls ls.length ps] at hFl
      obtain ⟨oaF, ocF, rfl⟩ := owns_form hFl
      have HFl : Hid (Fl wr N (.slice oaF (pfile big (allB ls ls.length (ps.take 0))).length ocF) (pfile big (allB ls ls.length (ps.take 0))) ∧ Kept (fun k => N ≤ k) w wr) := ⟨hFl, hK⟩
      clear hFl hK
      go_wp2_with fail
      refine HK1.out _ _ ?_
      have hK := HFl.out.2
      exact pl_c R N lb lo lc pc pa _ big ls ps ae au wr HQ.out.1 HFl.out.1 (Nat.le_trans hN hK.size) h10 (HQ.out.2.1.kept hK) (HQ.out.2.2.1.kept hK) (hK.cell HQ.out.2.2.2.1 (by omega)) (hK.cell HQ.out.2.2.2.2 (by omega)) (fun w' hk' => HR.out w' (hK.trans hk'))
end Go.Proofs.YbulkbgsmFmt
