import Derived.Test.YbulkbgsmFmtCc
namespace Go.Proofs.YbulkbgsmFmt
open Go.RowKit
attribute [local go_sem] eq_same eq_nil

set_option maxHeartbeats 2000000 in
set_option maxRecDepth 100000 in
theorem cl_b {u4 u5 u6 u7 u8 u9 u10 u11 u12 u13 u14 u15 u16 u17 u18 u19 u20 u21 u22 u23 u24 u25 u26 u27 u28 u29 u30 u31 u32 u33 u34 u35 u36 u37 u38 u39 u40 u41 u42 u43 u44 u45 u46 u47 u48 u49 u50 u51 u52 u53 u54 u55 u56 u57 u58 u59 u60 u61 u62 u63 u64 u65 u66 u67 u68 u69 u70 u71 u72 u73 u74 u75 u76 u77 u78 u79 u80 u81 u82 u83 u84 u85 u86 u87 u88 u89 u90 u91 u92 u93 u94 u95 u96 u97 u98 u99 u100 u101 u102 u103 u104 u105 u106 u107 u108 u109 u110 u111 u112 u113 u114 u115 u116 u117 u118 u119 u120 u121 u122 u123 u124 u125 u126 u127 u128 u129 u130 u131 u132 u133 u134 u135 u136 u137 u138 u139 u140 u141 u142 u143 u144 u145 u146 u147 u148 u149 u150 u151 u152 u153 u154 u155 u156 u157 u158 u159 u160 u161 u162 u163 u164 u165 u166 u167 u168 u169 u170 u171 u172 u173 u174 u175 u176 u177 u178 u179 u180 u181 u182 u183 u184 u185 u186 u187 u188 u189 u190 u191 u192 u193 u194 u195 u196 u197 u198 u199 u200 u201 u202 u203 u204 u205 u206 u207 u208 u209 u210 u211 u212 u213 u214 u215 u216 u217 u218 u219 u220 u221 u222 u223 u224 u225 u226 u227 u228 u229 u230 u231 u232 u233 u234 u235 u236 : Value} (R : Ending → World → Prop) (N fc : Nat) (fa : Option Addr) (big : Bool) (link cut : Int) (F : List (List Int)) (ae au : Addr) (w : World)
    (hfs : Fs w N fa F) (hG : Gl w N ae au) (hN : N ≤ w.heap.size)
    (fl : ∀ f ∈ F, f.length ≤ 4096 ∧ ∀ x ∈ f, 0 ≤ x ∧ x ≤ 255) (fn : F.length ≤ 300) (lk : 0 ≤ link ∧ link ≤ 65535) (hcut : 0 ≤ cut ∧ cut ≤ 65535) (HR : Hid (∀ w', Kept (fun k => N ≤ k) w w' → R (.returned (.bool true)) w')) :
    Code.wp Ybaf.prog ((Ybaf.f3.body.bind (fromRegion 9)).getD .skip) (bodyPost Ybaf.prog Ybaf.f3 R) ⟨#[.bool big, .int .u16 link, .slice fa F.length fc, .int .u16 cut, u4, u5, u6, u7, u8, u9, u10, u11, u12, u13, u14, u15, u16, u17, u18, u19, u20, u21, u22, u23, u24, u25, u26, u27, u28, u29, u30, u31, u32, u33, u34, u35, u36, u37, u38, u39, u40, u41, u42, u43, u44, u45, u46, u47, u48, u49, u50, u51, u52, u53, u54, u55, u56, u57, u58, u59, u60, u61, u62, u63, u64, u65, u66, u67, u68, u69, u70, u71, u72, u73, u74, u75, u76, u77, u78, u79, u80, u81, u82, u83, u84, u85, u86, u87, u88, u89, u90, u91, u92, u93, u94, u95, u96, u97, u98, u99, u100, u101, u102, u103, u104, u105, u106, u107, u108, u109, u110, u111, u112, u113, u114, u115, u116, u117, u118, u119, u120, u121, u122, u123, u124, u125, u126, u127, u128, u129, u130, u131, u132, u133, u134, u135, u136, u137, u138, u139, u140, u141, u142, u143, u144, u145, u146, u147, u148, u149, u150, u151, u152, u153, u154, u155, u156, u157, u158, u159, u160, u161, u162, u163, u164, u165, u166, u167, u168, u169, u170, u171, u172, u173, u174, u175, u176, u177, u178, u179, u180, u181, u182, u183, u184, u185, u186, u187, u188, u189, u190, u191, u192, u193, u194, u195, u196, u197, u198, u199, u200, u201, u202, u203, u204, u205, u206, u207, u208, u209, u210, u211, u212, u213, u214, u215, u216, u217, u218, u219, u220, u221, u222, u223, u224, u225, u226, u227, u228, u229, u230, u231, u232, u233, u234, u235, u236], []⟩ w := by
  conv => arg 2; whnf
  have HFS : Hid (Fs w N fa F) := hfs
  have HG : Hid (Gl w N ae au) := hG
  have HFL : Hid (∀ f ∈ F, f.length ≤ 4096 ∧ ∀ x ∈ f, 0 ≤ x ∧ x ≤ 255) := fl
  clear hfs hG fl
  have hwl : IntKind.u32.wrap link = link := by rw [IntKind.wrap_u32]; omega
  have hor := or_link link lk
  have HC0 : Hid _ := put32 N (.slice none 0 0) ([]) big 2712847316 w (World.ownsRow_nil w N 5 1) hN (by decide) (by decide)
  go_wp2_with fail
  refine Calls.mono HC0.out ?_
  rintro _ w1 ⟨v1, rfl, hF1, hkk1⟩
  have hK1 : Kept (fun k => N ≤ k) w w1 := (Kept.mono (q := fun k => N ≤ k) hkk1 (fun j _ hj => by cases hj))
  have hN1 : N ≤ w1.heap.size := Nat.le_trans hN hK1.size
  have hF1' : Hid (Fl w1 N v1 ([] ++ b32 big 2712847316)) := hF1
  clear hkk1
  have HC1 : Hid _ := put16 N v1 ([] ++ b32 big 2712847316) big 2 w1 hF1 hN1 (by simp [b32_len]) (by decide)
  clear hF1 HC0
  go_wp2_with fail
  refine Calls.mono HC1.out ?_
  rintro _ w2 ⟨v2, rfl, hF2, hkk2⟩
  have hK2 : Kept (fun k => N ≤ k) w w2 := hK1.trans (Kept.mono (q := fun k => N ≤ k) hkk2 (fun j _ hj => (hF1'.out.lt j hj).1))
  have hN2 : N ≤ w2.heap.size := Nat.le_trans hN hK2.size
  have hF2' : Hid (Fl w2 N v2 ([] ++ b32 big 2712847316 ++ b16 big 2)) := hF2
  clear hkk2
  have HC2 : Hid _ := put16 N v2 ([] ++ b32 big 2712847316 ++ b16 big 2) big 4 w2 hF2 hN2 (by simp [b32_len, b16_len]) (by decide)
  clear hF2 HC1
  go_wp2_with fail
  refine Calls.mono HC2.out ?_
  rintro _ w3 ⟨v3, rfl, hF3, hkk3⟩
  have hK3 : Kept (fun k => N ≤ k) w w3 := hK2.trans (Kept.mono (q := fun k => N ≤ k) hkk3 (fun j _ hj => (hF2'.out.lt j hj).1))
  have hN3 : N ≤ w3.heap.size := Nat.le_trans hN hK3.size
  have hF3' : Hid (Fl w3 N v3 ([] ++ b32 big 2712847316 ++ b16 big 2 ++ b16 big 4)) := hF3
  clear hkk3
  have HC3 : Hid _ := put32 N v3 ([] ++ b32 big 2712847316 ++ b16 big 2 ++ b16 big 4) big 0 w3 hF3 hN3 (by simp [b32_len, b16_len]) (by decide)
  clear hF3 HC2
  go_wp2_with fail
  refine Calls.mono HC3.out ?_
  rintro _ w4 ⟨v4, rfl, hF4, hkk4⟩
  have hK4 : Kept (fun k => N ≤ k) w w4 := hK3.trans (Kept.mono (q := fun k => N ≤ k) hkk4 (fun j _ hj => (hF3'.out.lt j hj).1))
  have hN4 : N ≤ w4.heap.size := Nat.le_trans hN hK4.size
  have hF4' : Hid (Fl w4 N v4 ([] ++ b32 big 2712847316 ++ b16 big 2 ++ b16 big 4 ++ b32 big 0)) := hF4
  clear hkk4
  have HC4 : Hid _ := put32 N v4 ([] ++ b32 big 2712847316 ++ b16 big 2 ++ b16 big 4 ++ b32 big 0) big 0 w4 hF4 hN4 (by simp [b32_len, b16_len]) (by decide)
  clear hF4 HC3
  go_wp2_with fail
  refine Calls.mono HC4.out ?_
  rintro _ w5 ⟨v5, rfl, hF5, hkk5⟩
  have hK5 : Kept (fun k => N ≤ k) w w5 := hK4.trans (Kept.mono (q := fun k => N ≤ k) hkk5 (fun j _ hj => (hF4'.out.lt j hj).1))
  have hN5 : N ≤ w5.heap.size := Nat.le_trans hN hK5.size
  have hF5' : Hid (Fl w5 N v5 ([] ++ b32 big 2712847316 ++ b16 big 2 ++ b16 big 4 ++ b32 big 0 ++ b32 big 0)) := hF5
  clear hkk5
  have HC5 : Hid _ := put32 N v5 ([] ++ b32 big 2712847316 ++ b16 big 2 ++ b16 big 4 ++ b32 big 0 ++ b32 big 0) big 65535 w5 hF5 hN5 (by simp [b32_len, b16_len]) (by decide)
  clear hF5 HC4
  go_wp2_with fail
  refine Calls.mono HC5.out ?_
  rintro _ w6 ⟨v6, rfl, hF6, hkk6⟩
  have hK6 : Kept (fun k => N ≤ k) w w6 := hK5.trans (Kept.mono (q := fun k => N ≤ k) hkk6 (fun j _ hj => (hF5'.out.lt j hj).1))
  have hN6 : N ≤ w6.heap.size := Nat.le_trans hN hK6.size
  have hF6' : Hid (Fl w6 N v6 ([] ++ b32 big 2712847316 ++ b16 big 2 ++ b16 big 4 ++ b32 big 0 ++ b32 big 0 ++ b32 big 65535)) := hF6
  clear hkk6
  have HC6 : Hid _ := put32 N v6 ([] ++ b32 big 2712847316 ++ b16 big 2 ++ b16 big 4 ++ b32 big 0 ++ b32 big 0 ++ b32 big 65535) big (link + 2684354560) w6 hF6 hN6 (by simp [b32_len, b16_len]) (by omega)
  clear hF6 HC5
  go_wp2_with fail
  rename_i K1 hK1 K2 hK2
  have HK1 : Hid _ := hK1
  clear hK1
  refine Calls.mono HC6.out ?_
  rintro _ w7 ⟨v7, rfl, hF7, hkk7⟩
  have hK7 : Kept (fun k => N ≤ k) w w7 := hK6.trans (Kept.mono (q := fun k => N ≤ k) hkk7 (fun j _ hj => (hF6'.out.lt j hj).1))
  have hN7 : N ≤ w7.heap.size := Nat.le_trans hN hK7.size
  have hF7' : Hid (Fl w7 N v7 ([] ++ b32 big 2712847316 ++ b16 big 2 ++ b16 big 4 ++ b32 big 0 ++ b32 big 0 ++ b32 big 65535 ++ b32 big (link + 2684354560))) := hF7
  clear hkk7
  have HK : Hid (Kept (fun k => N ≤ k) w w7) := hK7
  have HF7 : Hid (Fl w7 N v7 ([] ++ b32 big 2712847316 ++ b16 big 2 ++ b16 big 4 ++ b32 big 0 ++ b32 big 0 ++ b32 big 65535 ++ b32 big (link + 2684354560))) := hF7
  clear hF7 hK7
  go_wp2_with fail
  refine HK1.out _ _ ?_
  have hF0 : Fl w7 N v7 (fileAt big link F 0) := by rw [file_zero]; exact HF7.out
  exact cl_c R N fc fa big link cut F ae au v7 w7 hF0 (HFS.out.kept HK.out) (HG.out.kept (X := w.heap.size) (Kept.mono (q := Kp N w.heap.size) HK.out (fun _ hl hj => ⟨hj, Nat.ne_of_lt hl⟩))) (Nat.le_trans hN HK.out.size) HFL.out fn lk hcut (fun w' hk' => HR.out w' (HK.out.trans hk'))
end Go.Proofs.YbulkbgsmFmt
