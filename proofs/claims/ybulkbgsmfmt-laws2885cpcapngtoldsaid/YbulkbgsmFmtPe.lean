import Derived.Test.YbulkbgsmFmtNp
import Derived.Test.YbulkbgsmFmtPd
import Derived.Deep.LoopGhost
namespace Go.Proofs.YbulkbgsmFmt
open Go.RowKit

theorem eq_nils2 (w : World) : (binOp .eql 24 (.slice none 0 0) (.slice none 0 0)).run Ybaf.prog w = .ok (.bool true) w := by kernel_rfl
attribute [local go_sem] eq_same eq_nil eq_nils2

/-- The link types, as the law has them. -/
def Lz (w : World) (N lb lo : Nat) (ls : List Int) : Prop := lb < N ∧ ∀ i l, ls[i]? = some l → w.cell? ⟨lb, lo + i, none⟩ = some (.int .u16 l)
theorem Lz.kept {w w' : World} {N lb lo : Nat} {ls : List Int} (h : Lz w N lb lo ls) (hk : Kept (fun k => N ≤ k) w w') : Lz w' N lb lo ls := ⟨h.1, fun i l hl => hk.cell (h.2 i l hl) (Nat.not_le.2 h.1)⟩

/-- The packets that came in. -/
def Pz (w : World) (N : Nat) (pa : Option Addr) (ps : List Pkt) : Prop := ∀ j p, ps[j]? = some p → ∃ (pb po : Nat) (a : Option Addr) (c : Nat), pa = some ⟨pb, po, none⟩ ∧ pb < N ∧ w.cell? ⟨pb, po + j * 4, none⟩ = some (.int .u8 (p.ifn : Int)) ∧ w.cell? ⟨pb, po + j * 4 + 1, none⟩ = some (.bool p.simple) ∧ w.cell? ⟨pb, po + j * 4 + 2, none⟩ = some (.bool p.skip) ∧ w.cell? ⟨pb, po + j * 4 + 3, none⟩ = some (.slice a p.data.length c) ∧ Bs w N (.slice a p.data.length c) p.data
theorem Pz.kept {w w' : World} {N : Nat} {pa : Option Addr} {ps : List Pkt} (h : Pz w N pa ps) (hk : Kept (fun k => N ≤ k) w w') : Pz w' N pa ps := by
  intro j p hp
  obtain ⟨pb, po, a, c, h1, h2, h3, h4, h5, h6, h7⟩ := h j p hp
  exact ⟨pb, po, a, c, h1, h2, hk.cell h3 (Nat.not_le.2 h2), hk.cell h4 (Nat.not_le.2 h2), hk.cell h5 (Nat.not_le.2 h2), hk.cell h6 (Nat.not_le.2 h2), h7.kept hk⟩

theorem bs_off {w : World} {P off c : Nat} {xs : List Int} (h : ∀ j x, xs[j]? = some x → w.cell? ⟨P, off + j, none⟩ = some (.int .u8 x)) : Bs w (P + 1) (.slice (some ⟨P, off, none⟩) xs.length c) xs := by
  refine ⟨some ⟨P, off, none⟩, c, rfl, (fun h => by cases h), fun b hb j x hx => ?_⟩
  cases hb
  refine ⟨Nat.lt_succ_self _, ?_⟩
  have hadd : (⟨P, off, none⟩ : Addr).add j = ⟨P, off + j, none⟩ := by unfold Addr.add; split <;> simp_all
  rw [hadd]
  exact h j x hx

set_option maxHeartbeats 2000000 in
set_option maxRecDepth 100000 in
theorem pl_e {u1 u3 u4 u5 u6 u7 u8 u10 u11 u12 u13 u14 u15 u16 u17 u18 u21 u22 u23 u24 u25 u26 u27 u28 u29 u30 u31 u32 u33 u34 u35 u36 u37 u38 u39 u40 u41 u42 u43 u44 u45 u46 u47 u48 u49 u50 u51 u52 u53 u54 u55 u56 u57 u58 u59 u60 u61 u62 u63 u64 u65 u66 u67 u68 u69 u70 u71 u72 u73 u74 u75 u76 u77 u78 u79 u80 u81 u82 u83 u84 u85 u86 u87 u88 u89 u90 u91 u92 u93 u94 u95 u96 u97 u98 u99 u100 u101 u102 u103 u104 u105 u106 u107 u108 u109 u110 u111 u112 u113 u114 u115 u116 u117 u118 u119 u120 u121 u122 u123 u124 u125 u126 u127 u128 u129 u130 u131 u132 u133 u134 u135 u136 u137 u138 u139 u140 u141 u142 u143 u144 u145 u146 u147 u148 u149 u150 u151 u152 u153 u154 u155 u156 u157 u158 u159 u160 u161 u162 u163 u164 u165 u166 u167 u168 u169 u170 u171 u172 u173 u174 u175 u176 u177 u178 u179 u180 u181 u182 u183 u184 u185 u186 u187 u188 u189 u190 u191 u192 u193 u194 u195 u196 u197 u198 u199 u200 u201 u202 u203 u204 u205 u206 u207 u208 u209 u210 u211 u212 u213 u214 u215 u216 u217 u218 u219 u220 u221 u222 u223 u224 u225 u226 u227 u228 u229 u230 u231 u232 u233 u234 u235 u236 u237 u238 u239 u240 u241 u242 u243 u244 u245 u246 u247 u248 u249 u250 u251 u252 u253 u254 u255 u256 u257 u258 u259 u260 u261 u262 u263 u264 u265 u266 u267 u268 u269 u270 u271 u272 u273 u274 u275 u276 u277 u278 u279 u280 u281 u282 u283 u284 u285 u286 u287 u288 u289 : Value} (R : Ending → World → Prop) (N M Q B Y U D cap lb lo lc pc : Nat) (pa : Option Addr) (big : Bool) (ls : List Int) (ps : List Pkt) (ae au : Addr) (w : World) (hq : Pq ls ps)
    (hN : Nst w M (fun _ => False) Q B Y U D cap big (allB ls ls.length ps) 0 0 (.slice none 0 0)) (hM : M ≤ w.heap.size) (hNM : N ≤ M) (hlz : Lz w N lb lo ls) (hpz : Pz w N pa ps) (hE : w.cell? ⟨0, 0, none⟩ = some (.iface 96 (.pointer (some ae)))) (hX : w.cell? ⟨8, 0, none⟩ = some (.iface 96 (.pointer (some au)))) (HR : Hid (∀ w', Kept (fun k => M ≤ k) w w' → R (.returned (.bool true)) w')) :
    Code.wp Ybaf.prog ((Ybaf.f4.body.bind (afterRegion 60)).getD .skip) (bodyPost Ybaf.prog Ybaf.f4 R) ⟨#[.bool big, u1, .slice pa ps.length pc, u3, u4, u5, u6, u7, u8, .slice (some ⟨lb, lo, none⟩) ls.length lc, u10, u11, u12, u13, u14, u15, u16, u17, u18, .pointer (some ⟨Q, 0, none⟩), .nilIface, u21, u22, u23, u24, u25, u26, u27, u28, u29, u30, u31, u32, u33, u34, u35, u36, u37, u38, u39, u40, u41, u42, u43, u44, u45, u46, u47, u48, u49, u50, u51, u52, u53, u54, u55, u56, u57, u58, u59, u60, u61, u62, u63, u64, u65, u66, u67, u68, u69, u70, u71, u72, u73, u74, u75, u76, u77, u78, u79, u80, u81, u82, u83, u84, u85, u86, u87, u88, u89, u90, u91, u92, u93, u94, u95, u96, u97, u98, u99, u100, u101, u102, u103, u104, u105, u106, u107, u108, u109, u110, u111, u112, u113, u114, u115, u116, u117, u118, u119, u120, u121, u122, u123, u124, u125, u126, u127, u128, u129, u130, u131, u132, u133, u134, u135, u136, u137, u138, u139, u140, u141, u142, u143, u144, u145, u146, u147, u148, u149, u150, u151, u152, u153, u154, u155, u156, u157, u158, u159, u160, u161, u162, u163, u164, u165, u166, u167, u168, u169, u170, u171, u172, u173, u174, u175, u176, u177, u178, u179, u180, u181, u182, u183, u184, u185, u186, u187, u188, u189, u190, u191, u192, u193, u194, u195, u196, u197, u198, u199, u200, u201, u202, u203, u204, u205, u206, u207, u208, u209, u210, u211, u212, u213, u214, u215, u216, u217, u218, u219, u220, u221, u222, u223, u224, u225, u226, u227, u228, u229, u230, u231, u232, u233, u234, u235, u236, u237, u238, u239, u240, u241, u242, u243, u244, u245, u246, u247, u248, u249, u250, u251, u252, u253, u254, u255, u256, u257, u258, u259, u260, u261, u262, u263, u264, u265, u266, u267, u268, u269, u270, u271, u272, u273, u274, u275, u276, u277, u278, u279, u280, u281, u282, u283, u284, u285, u286, u287, u288, u289], []⟩ w := by
  conv => arg 2; whnf
  have HN0 : Hid (Nst w M (fun _ => False) Q B Y U D cap big (allB ls ls.length ps) 0 0 (.slice none 0 0)) := hN
  have m10 := hN.2.2.2
  have HQ : Hid (Pq ls ps) := hq
  have hl0 := hq.l0
  have hpl := hq.pl
  have hll := hq.ll
  have HLZ : Hid (Lz w N lb lo ls) := hlz
  have HPZ : Hid (Pz w N pa ps) := hpz
  have HE : Hid (w.cell? ⟨0, 0, none⟩ = some (.iface 96 (.pointer (some ae))) ∧ w.cell? ⟨8, 0, none⟩ = some (.iface 96 (.pointer (some au)))) := ⟨hE, hX⟩
  clear hN hlz hpz hE hX hq
  go_wp2_with fail
  rename_i K1 hK1
  have HK1 : Hid _ := hK1
  clear hK1
  go_loopg [222] (ps.length + 1) (fun gk s222 wr => ∃ j : Nat, gk = ps.length + 1 - j ∧ j ≤ ps.length ∧ s222 = .int .i64 (j : Int) ∧ Kept (fun k => M ≤ k) w wr ∧ ∃ (oa : Option Addr) (oc : Nat), Nst wr M (fun _ => False) Q B Y U D cap big (allB ls ls.length ps) (curs ls ls.length ps j) (j : Int) (.slice oa (lnk (allB ls ls.length ps) (curs ls ls.length ps j)).length oc))
  case atStart => exact ⟨0, rfl, Nat.zero_le _, rfl, Kept.refl _ _, none, 0, HN0.out⟩
  case round =>
    obtain ⟨j, rfl, hj, rfl, hK, oa, oc, hNj⟩ := hrel
    clear HN0
    have hKN : Kept (fun k => N ≤ k) w wr := Kept.mono (q := fun k => N ≤ k) hK (fun _ _ h => Nat.le_trans hNM h)
    have hMr : M ≤ wr.heap.size := Nat.le_trans hM hK.size
    have hEr := hK.cell HE.out.1 (by omega)
    have hXr := hK.cell HE.out.2 (by omega)
    by_cases hjn : j < ps.length
    · obtain ⟨pb, po, da, dc, rfl, hpN, p0, p1, p2, p3, hBs⟩ := (HPZ.out.kept hKN) j ps[j] (List.getElem?_eq_getElem hjn)
      have hlz := HLZ.out.kept hKN
      have l0 := hlz.2 0 _ (get_want hl0)
      simp only [Nat.add_zero] at l0
      have hpb := World.block_lt_of_cell? wr _ p0
      have hlb := World.block_lt_of_cell? wr _ l0
      obtain ⟨w1, hw1⟩ : ∃ w1, w1 = wr.alloc (.cells #[.int .u8 (ps[j].ifn : Int), .bool ps[j].simple, .bool ps[j].skip, .slice da ps[j].data.length dc] 49) := ⟨_, rfl⟩
      have hS : Row w1 wr.heap.size 49 [.int .u8 (ps[j].ifn : Int), .bool ps[j].simple, .bool ps[j].skip, .slice da ps[j].data.length dc] := by rw [hw1]; exact Row.new wr 49 #[.int .u8 (ps[j].ifn : Int), .bool ps[j].simple, .bool ps[j].skip, .slice da ps[j].data.length dc]
      have hka : Kept (fun _ => False) wr w1 := by rw [hw1]; exact (Kept.refl _ wr).alloc _
      have hN1 : Nst w1 M (fun k => k = wr.heap.size) Q B Y U D cap big (allB ls ls.length ps) (curs ls ls.length ps j) (j : Int) (.slice oa (lnk (allB ls ls.length ps) (curs ls ls.length ps j)).length oc) := (hNj.kept hka).reX (fun k hk => by subst hk; exact .inr ⟨49, _, hS, by decide, by decide, by decide, by decide⟩)
      have HN1 : Hid _ := np_ok M (fun k => k = wr.heap.size) Q B Y U D cap big ls ps HQ.out j hjn oa oc ae au w1 (fun k hk => by subst hk; exact ⟨49, _, hS, by decide⟩) hN1 (Nat.le_trans hMr hka.size) (hka.cell hEr (fun h => h)) (hka.cell hXr (fun h => h))
      rw [hw1] at HN1
      have HW : Hid (Row w1 wr.heap.size 49 [.int .u8 (ps[j].ifn : Int), .bool ps[j].simple, .bool ps[j].skip, .slice da ps[j].data.length dc] ∧ Kept (fun _ => False) wr w1 ∧ w1 = wr.alloc (.cells #[.int .u8 (ps[j].ifn : Int), .bool ps[j].simple, .bool ps[j].skip, .slice da ps[j].data.length dc] 49)) := ⟨hS, hka, hw1⟩
      have HB : Hid (Bs wr N (.slice da ps[j].data.length dc) ps[j].data) := hBs
      have HK : Hid (Kept (fun k => M ≤ k) w wr ∧ Kept (fun k => N ≤ k) w wr) := ⟨hK, hKN⟩
      have hwj : IntKind.i64.wrap ((j : Int) + 1) = (j : Int) + 1 := IntWalk.i64_in _ (by omega)
      obtain ⟨r, hr⟩ : ∃ r, r = ps[j].ifn % ls.length := ⟨_, rfl⟩
      have hrl : r < ls.length := by rw [hr]; exact Nat.mod_lt _ hl0
      have lr := hlz.2 r _ (get_want hrl)
      have hwr : Hid (ps[j].want ls = if ps[j].simple then ls.getD 0 0 else ls.getD r 0) := by rw [hr]; rfl
      have hrem : (ps[j].ifn : Int) % (ls.length : Int) = (r : Int) := by rw [hr]; exact (Int.natCast_emod _ _).symm
      have hi255 := (HQ.out.pr ps[j] (List.getElem_mem hjn)).1
      have hw0 := HQ.out.lr _ (List.mem_of_getElem? (get_want hl0))
      have hwr0 := HQ.out.lr _ (List.mem_of_getElem? (get_want hrl))
      clear hK hKN hNj hS hka hN1 hw1 hBs hlz hr
      generalize ps[j].want ls = wv at HN1 hwr
      generalize ps[j].ifn = ifn at p0 HN1 HW hrem hi255
      generalize ps[j].simple = sm at p1 HN1 HW hwr
      generalize ps[j].skip = sk at p2 HN1 HW
      generalize ps[j].data = f at p3 HN1 HW HB
      generalize ls.getD 0 0 = z0 at l0 hw0 hwr
      generalize ls.getD r 0 = zr at lr hwr0 hwr
      have hwi : IntKind.i64.wrap (ifn : Int) = (ifn : Int) := IntWalk.i64_in _ (by omega)
      have hnz : ¬ (ls.length : Int) = 0 := by omega
      have hrl2 : (r : Int) < (ls.length : Int) := by omega
      have hlp : (0 : Int) < (ls.length : Int) := by omega
      have hr0 : (0 : Int) ≤ (r : Int) := by omega
      cases sm with
      | true =>
        go_wp2_with fail
        refine Calls.mono HN1.out ?_
        rintro _ w2 ⟨oa2, oc2, P, off, c, rfl, hdat, hN2, hk2⟩
        have hS2 : Row w2 wr.heap.size 49 [.int .u8 (ifn : Int), .bool true, .bool sk, .slice da f.length dc] := (HW.out.2.2 ▸ HW.out.1).kept hk2 (fun h => h.2 rfl)
        have s3 : w2.cell? ⟨wr.heap.size, 3, none⟩ = some (.slice da f.length dc) := hS2.cell 3
        have hSl := hS2.lt
        have hka2 : Kept (fun _ => False) w2 (w2.alloc (.cells #[.int .i64 ((j : Int) + 1), .int .i64 wv, .slice (some ⟨P, off, none⟩) f.length c] 37)) := (Kept.refl _ w2).alloc _
        have hkr1 : Kept (fun _ => False) wr (wr.alloc (.cells #[.int .u8 (ifn : Int), .bool true, .bool sk, .slice da f.length dc] 49)) := (Kept.refl _ wr).alloc _
        have hkr2 : Kept (fun k => M ≤ k) wr w2 := (Kept.mono (q := fun k => M ≤ k) hkr1 (fun _ _ h => h.elim)).trans (Kept.mono (q := fun k => M ≤ k) hk2 (fun _ _ h => h.1))
        have hkr3 : Kept (fun k => M ≤ k) wr (w2.alloc (.cells #[.int .i64 ((j : Int) + 1), .int .i64 wv, .slice (some ⟨P, off, none⟩) f.length c] 37)) := hkr2.trans (Kept.mono (q := fun k => M ≤ k) hka2 (fun _ _ h => h.elim))
        have HEQ : Hid (Calls Ybaf.prog 10 #[.slice (some ⟨P, off, none⟩) f.length c, .slice da f.length dc] (w2.alloc (.cells #[.int .i64 ((j : Int) + 1), .int .i64 wv, .slice (some ⟨P, off, none⟩) f.length c] 37)) fun e w' => e = .returned (.bool true) ∧ w' = w2.alloc (.cells #[.int .i64 ((j : Int) + 1), .int .i64 wv, .slice (some ⟨P, off, none⟩) f.length c] 37)) := beq_same _ _ (strOfNums f) _ (bs_off (fun i x hx => hka2.cell (hdat i x hx) (fun h => h))).conv (HB.out.kept (Kept.mono (q := fun k => N ≤ k) hkr3 (fun _ _ h => Nat.le_trans hNM h))).conv
        have HZ : Hid (Kept (fun k => M ≤ k) w (w2.alloc (.cells #[.int .i64 ((j : Int) + 1), .int .i64 wv, .slice (some ⟨P, off, none⟩) f.length c] 37)) ∧ Nst (w2.alloc (.cells #[.int .i64 ((j : Int) + 1), .int .i64 wv, .slice (some ⟨P, off, none⟩) f.length c] 37)) M (fun _ => False) Q B Y U D cap big (allB ls ls.length ps) (curs ls ls.length ps (j + 1)) ((j : Int) + 1) (.slice oa2 (lnk (allB ls ls.length ps) (curs ls ls.length ps (j + 1))).length oc2)) := ⟨HK.out.1.trans hkr3, (hN2.kept hka2).reX (fun _ h => h.elim)⟩
        have hwv : wv = z0 := hwr.out
        have hwv2 : IntKind.i64.wrap wv = wv := IntWalk.i64_in _ (by rw [hwv]; omega)
        subst hwv
        clear hdat hN2 hk2 hS2 hka2 hkr1 hkr2 hkr3 HN1 HW HB HK hwr
        go_wp2_with fail
        refine Calls.mono HEQ.out ?_
        rintro _ w3 ⟨rfl, rfl⟩
        go_wp2_with fail
        go_roundg (ps.length + 1 - (j + 1))
        case rel => exact ⟨j + 1, rfl, by omega, by simp, HZ.out.1, oa2, oc2, by simpa using HZ.out.2⟩
        case measure => omega
      | false =>
        go_wp2_with fail
        refine Calls.mono HN1.out ?_
        rintro _ w2 ⟨oa2, oc2, P, off, c, rfl, hdat, hN2, hk2⟩
        have hS2 : Row w2 wr.heap.size 49 [.int .u8 (ifn : Int), .bool false, .bool sk, .slice da f.length dc] := (HW.out.2.2 ▸ HW.out.1).kept hk2 (fun h => h.2 rfl)
        have s3 : w2.cell? ⟨wr.heap.size, 3, none⟩ = some (.slice da f.length dc) := hS2.cell 3
        have hSl := hS2.lt
        have hka2 : Kept (fun _ => False) w2 (w2.alloc (.cells #[.int .i64 ((j : Int) + 1), .int .i64 wv, .slice (some ⟨P, off, none⟩) f.length c] 37)) := (Kept.refl _ w2).alloc _
        have hkr1 : Kept (fun _ => False) wr (wr.alloc (.cells #[.int .u8 (ifn : Int), .bool false, .bool sk, .slice da f.length dc] 49)) := (Kept.refl _ wr).alloc _
        have hkr2 : Kept (fun k => M ≤ k) wr w2 := (Kept.mono (q := fun k => M ≤ k) hkr1 (fun _ _ h => h.elim)).trans (Kept.mono (q := fun k => M ≤ k) hk2 (fun _ _ h => h.1))
        have hkr3 : Kept (fun k => M ≤ k) wr (w2.alloc (.cells #[.int .i64 ((j : Int) + 1), .int .i64 wv, .slice (some ⟨P, off, none⟩) f.length c] 37)) := hkr2.trans (Kept.mono (q := fun k => M ≤ k) hka2 (fun _ _ h => h.elim))
        have HEQ : Hid (Calls Ybaf.prog 10 #[.slice (some ⟨P, off, none⟩) f.length c, .slice da f.length dc] (w2.alloc (.cells #[.int .i64 ((j : Int) + 1), .int .i64 wv, .slice (some ⟨P, off, none⟩) f.length c] 37)) fun e w' => e = .returned (.bool true) ∧ w' = w2.alloc (.cells #[.int .i64 ((j : Int) + 1), .int .i64 wv, .slice (some ⟨P, off, none⟩) f.length c] 37)) := beq_same _ _ (strOfNums f) _ (bs_off (fun i x hx => hka2.cell (hdat i x hx) (fun h => h))).conv (HB.out.kept (Kept.mono (q := fun k => N ≤ k) hkr3 (fun _ _ h => Nat.le_trans hNM h))).conv
        have HZ : Hid (Kept (fun k => M ≤ k) w (w2.alloc (.cells #[.int .i64 ((j : Int) + 1), .int .i64 wv, .slice (some ⟨P, off, none⟩) f.length c] 37)) ∧ Nst (w2.alloc (.cells #[.int .i64 ((j : Int) + 1), .int .i64 wv, .slice (some ⟨P, off, none⟩) f.length c] 37)) M (fun _ => False) Q B Y U D cap big (allB ls ls.length ps) (curs ls ls.length ps (j + 1)) ((j : Int) + 1) (.slice oa2 (lnk (allB ls ls.length ps) (curs ls ls.length ps (j + 1))).length oc2)) := ⟨HK.out.1.trans hkr3, (hN2.kept hka2).reX (fun _ h => h.elim)⟩
        have hwv : wv = zr := hwr.out
        have hwv2 : IntKind.i64.wrap wv = wv := IntWalk.i64_in _ (by rw [hwv]; omega)
        subst hwv
        clear hdat hN2 hk2 hS2 hka2 hkr1 hkr2 hkr3 HN1 HW HB HK hwr
        go_wp2_with fail
        refine Calls.mono HEQ.out ?_
        rintro _ w3 ⟨rfl, rfl⟩
        go_wp2_with fail
        go_roundg (ps.length + 1 - (j + 1))
        case rel => exact ⟨j + 1, rfl, by omega, by simp, HZ.out.1, oa2, oc2, by simpa using HZ.out.2⟩
        case measure => omega
    · have hje : j = ps.length := by omega
      subst hje
      have HN1 : Hid _ := np_eof M (fun _ => False) Q B Y U D cap big ls ps HQ.out oa oc ae au (ps.length : Int) wr (fun _ h => h.elim) hNj hMr hEr hXr
      have HK : Hid (Kept (fun k => M ≤ k) w wr) := hK
      have HEr : Hid (wr.cell? ⟨0, 0, none⟩ = some (.iface 96 (.pointer (some ae)))) := hEr
      clear hNj hK hKN hXr
      go_wp2_with fail
      refine HK1.out _ _ ?_
      go_wp2_with fail
      refine Calls.mono HN1.out ?_
      rintro _ w2 ⟨rfl, hk2⟩
      have hk2' : Kept (fun k => M ≤ k) wr w2 := Kept.mono (q := fun k => M ≤ k) hk2 (fun _ _ h => h.1)
      have e0 := hk2'.cell HEr.out (by omega)
      have hs2 : 0 < w2.heap.size := World.block_lt_of_cell? w2 _ e0
      have HZ : Hid (R (.returned (.bool true)) (w2.alloc (.cells #[.int .i64 0, .int .i64 0, .slice none 0 0] 37))) := HR.out _ ((HK.out.trans hk2').alloc _)
      clear hk2 hk2' HK HN1
      go_wp2_with fail
      exact HZ.out
end Go.Proofs.YbulkbgsmFmt
