import Derived.Test.YbulkbgsmFmtCe
namespace Go.Proofs.YbulkbgsmFmt
open Go.RowKit
attribute [local go_sem] eq_same eq_nil

/-- Region k and what follows it in its sequence. -/
def fromRegion (k : Nat) : Code → Option Code
  | .seq (.region id o b) r => if id = k then some (.seq (.region id o b) r) else fromRegion k r
  | .seq a r => match fromRegion k a with
    | some c => some c
    | none => fromRegion k r
  | .block _ c => fromRegion k c
  | .scope c => fromRegion k c
  | _ => none

theorem nw_ok (big : Bool) (M Y D cap : Nat) (L : List Int) (rs : List Value) (pr : Int) (ae au : Addr) (w : World) (hY : Row w Y 73 [.slice (some ⟨D, 0, none⟩) L.length cap, .int .i64 0, .int .i64 pr]) (hD : Row w D 5 (by8 L ++ rs)) (hLl : L.length ≤ 4000000) (hcap : L.length ≤ cap) (mY : M ≤ Y) (mD : D < M)
    (hG : Gl w M ae au) (hL : 24 ≤ L.length) (hb : ∀ x ∈ L, 0 ≤ x ∧ x ≤ 255) (hm : L.take 4 = b32 big 2712847316) (hv : u16f big L[4] L[5] = 2) (lk v32 : Int) (hv32 : u32f big L[20] L[21] L[22] L[23] = v32) (hlk : bits .and .u32 v32 65535 = lk) (hwl : IntKind.i64.wrap lk = lk) :
    Calls Ybaf.prog 7 #[.iface 34 (.pointer (some ⟨Y, 0, none⟩))] w fun e w' => ∃ Q B U : Nat, e = .returned (.tuple #[.pointer (some ⟨Q, 0, none⟩), .nilIface]) ∧ Kept (fun k => M ≤ k) w w' ∧ Cr w' M D Q B Y U D cap L 24 false (bo big) 0 lk (.slice none 0 0) := by
  cases big with
  | true => exact nw_big M Y D cap L rs pr ae au w hY hD hLl hcap mY mD hG hL hb hm hv lk v32 hv32 hlk hwl
  | false => exact nw_little M Y D cap L rs pr ae au w hY hD hLl hcap mY mD hG hL hb hm hv lk v32 hv32 hlk hwl

theorem rem_cut (cut : Int) (m : Nat) (hc : 0 ≤ cut ∧ cut ≤ 65535) : ∃ d : Nat, d < m + 1 ∧ cut % ((m : Int) + 1) = (d : Int) := by
  obtain ⟨c, rfl⟩ := Int.eq_ofNat_of_zero_le hc.1
  refine ⟨c % (m + 1), Nat.mod_lt _ (by omega), ?_⟩
  have : ((m : Int) + 1) = ((m + 1 : Nat) : Int) := by omega
  rw [this]
  exact (Int.natCast_emod c (m + 1)).symm

theorem Fl.row {w : World} {N D len cap : Nat} {xs : List Int} (h : Fl w N (.slice (some ⟨D, 0, none⟩) len cap) xs) (keep : Nat) (hk : keep ≤ xs.length) : len = xs.length ∧ xs.length ≤ cap ∧ N ≤ D ∧ ∃ rs, Row w D 5 (by8 (xs.take keep) ++ rs) := by
  obtain ⟨h1, h2⟩ := h
  rcases h2 with ⟨h2, _⟩ | ⟨g, c, cur, hv, hb, hg, hnc, hcm, hcs, ht⟩
  · cases h2
  · cases hv
    refine ⟨rfl, hnc, hb, cur.toList.drop keep, ?_⟩
    have e : by8 (xs.take keep) = cur.toList.take keep := by
      have := congrArg (List.take keep) ht
      rw [List.take_take, Nat.mul_one, Nat.min_eq_left hk] at this
      rw [this]
      simp [by8]
    unfold Row
    rw [e, List.take_append_drop]
    exact hg

set_option maxHeartbeats 2000000 in
set_option maxRecDepth 100000 in
theorem cl_d {u4 u5 u6 u7 u8 u9 u10 u14 u15 u16 u17 u18 u19 u20 u21 u22 u23 u24 u25 u26 u27 u28 u29 u30 u31 u32 u33 u34 u35 u36 u37 u38 u39 u40 u41 u42 u43 u44 u45 u46 u47 u48 u49 u50 u51 u52 u53 u54 u55 u56 u57 u58 u59 u60 u61 u62 u63 u64 u65 u66 u67 u68 u69 u70 u71 u72 u73 u74 u75 u76 u77 u78 u79 u80 u81 u82 u83 u84 u85 u86 u87 u88 u89 u90 u91 u92 u93 u94 u95 u96 u97 u98 u99 u100 u101 u102 u103 u104 u105 u106 u107 u108 u109 u110 u111 u112 u113 u114 u115 u116 u117 u118 u119 u120 u121 u122 u123 u124 u125 u126 u127 u128 u129 u130 u131 u132 u133 u134 u135 u136 u137 u138 u139 u140 u141 u142 u143 u144 u145 u146 u147 u148 u149 u150 u151 u152 u153 u154 u155 u156 u157 u158 u159 u160 u161 u162 u163 u164 u165 u166 u167 u168 u169 u170 u171 u172 u173 u174 u175 u176 u177 u178 u179 u180 u181 u182 u183 u184 u185 u186 u187 u188 u189 u190 u191 u192 u193 u194 u195 u196 u197 u198 u199 u200 u201 u202 u203 u204 u205 u206 u207 u208 u209 u210 u211 u212 u213 u214 u215 u216 u217 u218 u219 u220 u221 u222 u223 u224 u225 u226 u227 u228 u229 u230 u231 u232 u233 u234 u235 u236 : Value} (R : Ending → World → Prop) (N S D capS len cap12 fc : Nat) (fa : Option Addr) (big : Bool) (link cut : Int) (F : List (List Int)) (ae au : Addr) (w : World)
    (hF : Fl w N (.slice (some ⟨D, 0, none⟩) len cap12) (fileAt big link F F.length)) (hfs : Fs w N fa F) (hG : Gl w N ae au) (hSl : S < w.heap.size) (hDl : D < w.heap.size) (hN : N ≤ w.heap.size) (sc : ∀ j, j < F.length → w.cell? ⟨S, j, none⟩ = some (.int .i64 (st big link F j : Int)))
    (fl : ∀ f ∈ F, f.length ≤ 4096 ∧ ∀ x ∈ f, 0 ≤ x ∧ x ≤ 255) (fn : F.length ≤ 300) (lk : 0 ≤ link ∧ link ≤ 65535) (hcut : 0 ≤ cut ∧ cut ≤ 65535) (HR : Hid (∀ w', Kept (fun k => N ≤ k) w w' → R (.returned (.bool true)) w')) :
    Code.wp Ybaf.prog ((Ybaf.f3.body.bind (fromRegion 28)).getD .skip) (bodyPost Ybaf.prog Ybaf.f3 R) ⟨#[.bool big, .int .u16 link, .slice fa F.length fc, .int .u16 cut, u4, u5, u6, u7, u8, u9, u10, .int .i64 (F.length : Int), .slice (some ⟨D, 0, none⟩) len cap12, .slice (some ⟨S, 0, none⟩) F.length capS, u14, u15, u16, u17, u18, u19, u20, u21, u22, u23, u24, u25, u26, u27, u28, u29, u30, u31, u32, u33, u34, u35, u36, u37, u38, u39, u40, u41, u42, u43, u44, u45, u46, u47, u48, u49, u50, u51, u52, u53, u54, u55, u56, u57, u58, u59, u60, u61, u62, u63, u64, u65, u66, u67, u68, u69, u70, u71, u72, u73, u74, u75, u76, u77, u78, u79, u80, u81, u82, u83, u84, u85, u86, u87, u88, u89, u90, u91, u92, u93, u94, u95, u96, u97, u98, u99, u100, u101, u102, u103, u104, u105, u106, u107, u108, u109, u110, u111, u112, u113, u114, u115, u116, u117, u118, u119, u120, u121, u122, u123, u124, u125, u126, u127, u128, u129, u130, u131, u132, u133, u134, u135, u136, u137, u138, u139, u140, u141, u142, u143, u144, u145, u146, u147, u148, u149, u150, u151, u152, u153, u154, u155, u156, u157, u158, u159, u160, u161, u162, u163, u164, u165, u166, u167, u168, u169, u170, u171, u172, u173, u174, u175, u176, u177, u178, u179, u180, u181, u182, u183, u184, u185, u186, u187, u188, u189, u190, u191, u192, u193, u194, u195, u196, u197, u198, u199, u200, u201, u202, u203, u204, u205, u206, u207, u208, u209, u210, u211, u212, u213, u214, u215, u216, u217, u218, u219, u220, u221, u222, u223, u224, u225, u226, u227, u228, u229, u230, u231, u232, u233, u234, u235, u236], []⟩ w := by
  conv => arg 2; whnf
  have hstl : len = st big link F F.length := (hF.row 0 (Nat.zero_le _)).1
  have hst1 := st_ge big link F F.length
  have hst2 := st_le big link F (fun f hf => (fl f hf).1) F.length
  obtain ⟨m, hm⟩ : ∃ m : Nat, len = m + 24 := ⟨len - 24, by omega⟩
  obtain ⟨d, hd, hrem⟩ := rem_cut cut m hcut
  obtain ⟨keep, hkeep⟩ : ∃ keep : Nat, keep + d = len := ⟨len - d, by omega⟩
  obtain ⟨-, hc12, hND, rs, hrow⟩ := hF.row keep (by unfold st at hstl; omega)
  have hlenL : ((fileAt big link F F.length).take keep).length = keep := by rw [List.length_take, Nat.min_eq_left (by unfold st at hstl; omega)]
  have hbyt : ∀ x ∈ (fileAt big link F F.length).take keep, 0 ≤ x ∧ x ≤ 255 := fun x hx => file_in big link F lk fl F.length fn x (List.mem_of_mem_take hx)
  have hmg := hdr_magic big link F (n := F.length) (show 24 ≤ keep by omega)
  have hmj := hdr_major big link F (n := F.length) (show 24 ≤ keep by omega)
  have hli := hdr_link big link F (n := F.length) (show 24 ≤ keep by omega)
  have hm10 := hG.m10
  obtain ⟨L, hL⟩ : ∃ L, L = (fileAt big link F F.length).take keep := ⟨_, rfl⟩
  rw [← hL] at hrow hlenL hbyt hmg hmj hli
  have hwc : IntKind.i64.wrap cut = cut := IntWalk.i64_in _ (by omega)
  have hlm : (len : Int) - 24 = (m : Int) := by omega
  have hw1 : IntKind.i64.wrap ((len : Int) - 24) = (len : Int) - 24 := IntWalk.i64_in _ (by omega)
  have hw2 : IntKind.i64.wrap ((len : Int) - 24 + 1) = (len : Int) - 24 + 1 := IntWalk.i64_in _ (by omega)
  rw [← hlm] at hrem
  have hw3 : IntKind.i64.wrap ((len : Int) - (d : Int)) = (keep : Int) := by rw [show (len : Int) - (d : Int) = (keep : Int) by omega]; exact IntWalk.i64_in _ (by omega)
  have hm1 : ¬ (len : Int) - 24 + 1 = 0 := by omega
  have hkc : (keep : Int) ≤ (cap12 : Int) := by unfold st at hstl; omega
  have HX : Hid (24 ≤ keep ∧ keep ≤ len ∧ len = st big link F F.length ∧ len ≤ 4000000) := ⟨by omega, by omega, hstl, by omega⟩
  have HF : Hid (L.length = keep ∧ (∀ x ∈ L, 0 ≤ x ∧ x ≤ 255) ∧ L.take 4 = b32 big 2712847316 ∧ (L.drop 4).take 2 = b16 big 2 ∧ (L.drop 20).take 4 = b32 big (link + 2684354560) ∧ Row w D 5 (by8 L ++ rs) ∧ L = (fileAt big link F F.length).take keep) := ⟨hlenL, hbyt, hmg, hmj, hli, hrow, hL⟩
  have HG : Hid (Gl w N ae au) := hG
  have HFS : Hid (Fs w N fa F) := hfs
  have HSC : Hid (∀ j, j < F.length → w.cell? ⟨S, j, none⟩ = some (.int .i64 (st big link F j : Int))) := sc
  have HFL : Hid (∀ f ∈ F, f.length ≤ 4096 ∧ ∀ x ∈ f, 0 ≤ x ∧ x ≤ 255) := fl
  clear hstl hst1 hst2 hm hd hkeep hlenL hbyt hmg hmj hli hrow hL hlm hF hfs hG sc fl hc12
  go_wp2_with fail
  rename_i K1 hK1 K2 hK2
  have HK1 : Hid _ := hK1
  clear hK1
  refine Calls.mono (bytesNew (some ⟨D, 0, none⟩) keep cap12 w) ?_
  rintro _ w2 ⟨rfl, rfl⟩
  have hka : Kept (fun _ => False) w (w.alloc (.cells #[.slice (some ⟨D, 0, none⟩) keep cap12, .int .i64 0, .int .i64 (-1)] 73)) := (Kept.refl _ w).alloc _
  have hG2 : Gl (w.alloc (.cells #[.slice (some ⟨D, 0, none⟩) keep cap12, .int .i64 0, .int .i64 (-1)] 73)) w.heap.size ae au := by
    obtain ⟨e0, e8, ne, ra, ru, la, lu, m10⟩ := HG.out
    exact (Gl.mk e0 e8 ne ra ru (by omega) (by omega) (by omega) : Gl w w.heap.size ae au).kept (X := 0) (Kept.mono (q := Kp w.heap.size 0) hka (fun _ _ h => h.elim))
  have hY2 := Row.new w 73 #[.slice (some ⟨D, 0, none⟩) keep cap12, .int .i64 0, .int .i64 (-1)]
  obtain ⟨f1, f2, f3, f4, f5, f6, f7⟩ := HF.out
  have hY3 : Row (w.alloc (.cells #[.slice (some ⟨D, 0, none⟩) keep cap12, .int .i64 0, .int .i64 (-1)] 73)) w.heap.size 73 [.slice (some ⟨D, 0, none⟩) L.length cap12, .int .i64 0, .int .i64 (-1)] := by rw [f1]; exact hY2
  have HN : Hid _ := nw_ok big w.heap.size w.heap.size D cap12 L rs (-1) ae au _ hY3 (f6.alloc _) (by have := HX.out; omega) (by have := HX.out; omega) (Nat.le_refl _) hDl hG2 (by have := HX.out; omega) f2 f3 (u16_at big L 4 2 f4 (by have := HX.out; omega)) link (link + 2684354560) (u32_at big L 20 _ f5 (by have := HX.out; omega)) (and_link link lk) (IntWalk.i64_in _ (by omega))
  clear f1 f2 f3 f4 f5 f6 f7 hY2 hY3
  go_wp2_with fail
  refine Calls.mono HN.out ?_
  rintro _ w3 ⟨Q, B, U, rfl, hk3, hC3⟩
  have hkA : Kept (fun k => w.heap.size ≤ k) w w3 := (Kept.mono (q := fun k => w.heap.size ≤ k) hka (fun _ _ h => h.elim)).trans hk3
  have hLp : Lp w N w.heap.size S D capS len keep fa big link F L ae au := by
    obtain ⟨e0, e8, ne, ra, ru, la, lu, m10⟩ := HG.out
    exact ⟨HFS.out, Gl.mk e0 e8 ne ra ru (by omega) (by omega) (by omega), hN, hSl, HSC.out, HX.out.2.2.1, HX.out.2.1, HX.out.1, HF.out.2.2.2.2.2.2, HFL.out, fn, lk⟩
  have HLp : Hid (Lp w3 N w.heap.size S D capS len keep fa big link F L ae au) := hLp.kept hkA
  have HC3 : Hid (Cr w3 w.heap.size D Q B w.heap.size U D cap12 L 24 false (bo big) 0 link (.slice none 0 0)) := hC3
  have HR3 : Hid (∀ w', Kept (fun k => w.heap.size ≤ k) w3 w' → R (.returned (.bool true)) w') := fun w' hk' => HR.out w' (Kept.mono (q := fun k => N ≤ k) (hkA.trans hk') (fun _ _ h => Nat.le_trans hN h))
  clear hka hG2 HN hk3 hC3 hkA hLp HFS HG HSC HX HF HFL HR
  go_wp2_with fail
  refine HK1.out _ _ ?_
  exact cl_e R N w.heap.size Q B w.heap.size U D cap12 S capS len cap12 keep fc fa big link cut F L ae au w3 HLp.out HC3.out HR3
end Go.Proofs.YbulkbgsmFmt
