import Derived.Test.YbulkbgsmFmtNz
import Derived.Deep.LoopGhost
namespace Go.Proofs.YbulkbgsmFmt
open Go.RowKit

theorem ta_te (a : Addr) (w : World) : (Instr.typeAssert (.iface 40 (.pointer (some a))) 31 40 true).run Ybaf.prog w = .ok (.tuple #[.pointer (some a), .bool true]) w := by kernel_rfl
theorem eq_nils (w : World) : (binOp .eql 24 (.slice none 0 0) (.slice none 0 0)).run Ybaf.prog w = .ok (.bool true) w := by kernel_rfl
attribute [local go_sem] eq_same eq_nil ta_te eq_nils

theorem add_block (b : Addr) (k : Nat) : (b.add k).block = b.block := by unfold Addr.add; split <;> rfl
theorem add_at (S j : Nat) : (⟨S, 0, none⟩ : Addr).add j = ⟨S, j, none⟩ := by unfold Addr.add; split <;> simp_all

/-- What the last loop stands on. -/
structure Lp (w : World) (N M S D capS len keep : Nat) (fa : Option Addr) (big : Bool) (link : Int) (F : List (List Int)) (L : List Int) (ae au : Addr) : Prop where
  fs : Fs w N fa F
  gl : Gl w M ae au
  nm : N ≤ M
  sm : S < M
  sc : ∀ j, j < F.length → w.cell? ⟨S, j, none⟩ = some (.int .i64 (st big link F j : Int))
  ln : len = st big link F F.length
  kl : keep ≤ len
  kg : 24 ≤ keep
  eL : L = (fileAt big link F F.length).take keep
  fl : ∀ f ∈ F, f.length ≤ 4096 ∧ ∀ x ∈ f, 0 ≤ x ∧ x ≤ 255
  fn : F.length ≤ 300
  lk : 0 ≤ link ∧ link ≤ 65535

theorem Lp.kept {w w' : World} {N M S D capS len keep : Nat} {fa : Option Addr} {big : Bool} {link : Int} {F : List (List Int)} {L : List Int} {ae au : Addr} (h : Lp w N M S D capS len keep fa big link F L ae au) (hk : Kept (fun k => M ≤ k) w w') : Lp w' N M S D capS len keep fa big link F L ae au :=
  ⟨h.fs.kept (Kept.mono (q := fun k => N ≤ k) hk (fun _ _ hk => Nat.le_trans h.nm hk)), h.gl.kept (X := w.heap.size) (Kept.mono (q := Kp M w.heap.size) hk (fun _ h1 hk => ⟨hk, Nat.ne_of_lt h1⟩)), h.nm, h.sm, fun j hj => hk.cell (h.sc j hj) (Nat.not_le.2 h.sm), h.ln, h.kl, h.kg, h.eL, h.fl, h.fn, h.lk⟩

theorem Lp.len {w : World} {N M S D capS len keep : Nat} {fa : Option Addr} {big : Bool} {link : Int} {F : List (List Int)} {L : List Int} {ae au : Addr} (h : Lp w N M S D capS len keep fa big link F L ae au) : L.length = keep := by
  have h1 := h.kl
  have h2 := h.ln
  unfold st at h2
  rw [h.eL, List.length_take, Nat.min_eq_left (by omega)]
theorem Lp.byt {w : World} {N M S D capS len keep : Nat} {fa : Option Addr} {big : Bool} {link : Int} {F : List (List Int)} {L : List Int} {ae au : Addr} (h : Lp w N M S D capS len keep fa big link F L ae au) : ∀ x ∈ L, 0 ≤ x ∧ x ≤ 255 := by
  intro x hx
  rw [h.eL] at hx
  exact file_in big link F h.lk h.fl F.length h.fn x (List.mem_of_mem_take hx)
theorem Lp.u32 {w : World} {N M S D capS len keep : Nat} {fa : Option Addr} {big : Bool} {link : Int} {F : List (List Int)} {L : List Int} {ae au : Addr} (h : Lp w N M S D capS len keep fa big link F L ae au) {k : Nat} (hk : k < F.length) (hp : st big link F k + 16 ≤ L.length) : u32f big L[st big link F k + 8] L[st big link F k + 9] L[st big link F k + 10] L[st big link F k + 11] = ((F.getD k []).length : Int) := by
  have hl := h.len
  have h1 := rec_n big link F hk (show st big link F k + 16 ≤ keep by omega)
  rw [← h.eL] at h1
  exact u32_at big L (st big link F k + 8) _ h1 (by omega)
theorem Lp.data {w : World} {N M S D capS len keep : Nat} {fa : Option Addr} {big : Bool} {link : Int} {F : List (List Int)} {L : List Int} {ae au : Addr} (h : Lp w N M S D capS len keep fa big link F L ae au) {k : Nat} (hk : k < F.length) (hp : st big link F k + 16 + (F.getD k []).length ≤ L.length) : (L.drop (st big link F k + 16)).take (F.getD k []).length = F.getD k [] := by
  have hl := h.len
  have h1 := rec_data big link F hk (show st big link F k + 16 + (F.getD k []).length ≤ keep by omega)
  rw [← h.eL] at h1
  exact h1

set_option maxHeartbeats 2000000 in
set_option maxRecDepth 100000 in
theorem cl_e {u4 u5 u6 u7 u8 u9 u10 u14 u15 u16 u20 u21 u22 u23 u24 u25 u26 u27 u28 u29 u30 u31 u32 u33 u34 u35 u36 u37 u38 u39 u40 u41 u42 u43 u44 u45 u46 u47 u48 u49 u50 u51 u52 u53 u54 u55 u56 u57 u58 u59 u60 u61 u62 u63 u64 u65 u66 u67 u68 u69 u70 u71 u72 u73 u74 u75 u76 u77 u78 u79 u80 u81 u82 u83 u84 u85 u86 u87 u88 u89 u90 u91 u92 u93 u94 u95 u96 u97 u98 u99 u100 u101 u102 u103 u104 u105 u106 u107 u108 u109 u110 u111 u112 u113 u114 u115 u116 u117 u118 u119 u120 u121 u122 u123 u124 u125 u126 u127 u128 u129 u130 u131 u132 u133 u134 u135 u136 u137 u138 u139 u140 u141 u142 u143 u144 u145 u146 u147 u148 u149 u150 u151 u152 u153 u154 u155 u156 u157 u158 u159 u160 u161 u162 u163 u164 u165 u166 u167 u168 u169 u170 u171 u172 u173 u174 u175 u176 u177 u178 u179 u180 u181 u182 u183 u184 u185 u186 u187 u188 u189 u190 u191 u192 u193 u194 u195 u196 u197 u198 u199 u200 u201 u202 u203 u204 u205 u206 u207 u208 u209 u210 u211 u212 u213 u214 u215 u216 u217 u218 u219 u220 u221 u222 u223 u224 u225 u226 u227 u228 u229 u230 u231 u232 u233 u234 u235 u236 : Value} (R : Ending → World → Prop) (N M Q B Y U D cap S capS len cap12 keep fc : Nat) (fa : Option Addr) (big : Bool) (link cut : Int) (F : List (List Int)) (L : List Int) (ae au : Addr) (w : World)
    (hL : Lp w N M S D capS len keep fa big link F L ae au) (hC : Cr w M D Q B Y U D cap L 24 false (bo big) 0 link (.slice none 0 0)) (HR : Hid (∀ w', Kept (fun k => M ≤ k) w w' → R (.returned (.bool true)) w')) :
    Code.wp Ybaf.prog ((Ybaf.f3.body.bind (afterRegion 30)).getD .skip) (bodyPost Ybaf.prog Ybaf.f3 R) ⟨#[.bool big, .int .u16 link, .slice fa F.length fc, .int .u16 cut, u4, u5, u6, u7, u8, u9, u10, .int .i64 (F.length : Int), .slice (some ⟨D, 0, none⟩) len cap12, .slice (some ⟨S, 0, none⟩) F.length capS, u14, u15, u16, .int .i64 (keep : Int), .pointer (some ⟨Q, 0, none⟩), .nilIface, u20, u21, u22, u23, u24, u25, u26, u27, u28, u29, u30, u31, u32, u33, u34, u35, u36, u37, u38, u39, u40, u41, u42, u43, u44, u45, u46, u47, u48, u49, u50, u51, u52, u53, u54, u55, u56, u57, u58, u59, u60, u61, u62, u63, u64, u65, u66, u67, u68, u69, u70, u71, u72, u73, u74, u75, u76, u77, u78, u79, u80, u81, u82, u83, u84, u85, u86, u87, u88, u89, u90, u91, u92, u93, u94, u95, u96, u97, u98, u99, u100, u101, u102, u103, u104, u105, u106, u107, u108, u109, u110, u111, u112, u113, u114, u115, u116, u117, u118, u119, u120, u121, u122, u123, u124, u125, u126, u127, u128, u129, u130, u131, u132, u133, u134, u135, u136, u137, u138, u139, u140, u141, u142, u143, u144, u145, u146, u147, u148, u149, u150, u151, u152, u153, u154, u155, u156, u157, u158, u159, u160, u161, u162, u163, u164, u165, u166, u167, u168, u169, u170, u171, u172, u173, u174, u175, u176, u177, u178, u179, u180, u181, u182, u183, u184, u185, u186, u187, u188, u189, u190, u191, u192, u193, u194, u195, u196, u197, u198, u199, u200, u201, u202, u203, u204, u205, u206, u207, u208, u209, u210, u211, u212, u213, u214, u215, u216, u217, u218, u219, u220, u221, u222, u223, u224, u225, u226, u227, u228, u229, u230, u231, u232, u233, u234, u235, u236], []⟩ w := by
  conv => arg 2; whnf
  go_wp2_with fail
  go_loopg [20] (F.length + 1) (fun gk s20 wr => ∃ k : Nat, gk = F.length + 1 - k ∧ k ≤ F.length ∧ s20 = .int .i64 (k : Int) ∧ Kept (fun k => M ≤ k) w wr ∧ st big link F k ≤ keep ∧ Cr wr M D Q B Y U D cap L (st big link F k) false (bo big) (k : Int) link (.slice none 0 0))
  case atStart => exact ⟨0, rfl, Nat.zero_le _, rfl, Kept.refl _ _, by rw [st_zero]; exact hL.kg, by rw [st_zero]; exact hC⟩
  case round =>
    obtain ⟨k, rfl, hk, rfl, hkp, hst, hCk⟩ := hrel
    have hLk := hL.kept hkp
    clear hC
    have hlen := hLk.len
    have hstn := st_mono big link F hk
    rw [← hLk.ln] at hstn
    have hst300 : st big link F k ≤ 24 + k * 4112 := st_le big link F (fun f hf => (hLk.fl f hf).1) k
    have hfn := hLk.fn
    by_cases hA : keep = st big link F k
    · have HN : Hid (Calls Ybaf.prog 9 #[.pointer (some ⟨Q, 0, none⟩)] wr fun e w' => e = .returned (.tuple #[.agg #[.int .i64 0, .int .i64 0, .slice none 0 0], .iface 96 (.pointer (some ae))]) ∧ Kept (fun k => M ≤ k) wr w') := nx_eof M Q B Y U D cap L (st big link F k) big k link (.slice none 0 0) ae au wr hCk hLk.gl (by omega)
      have HL : Hid (Lp wr N M S D capS len keep fa big link F L ae au) := hLk
      have HK : Hid (Kept (fun k => M ≤ k) w wr) := hkp
      have hm10 := hLk.gl.m10
      by_cases hkn : k < F.length
      · have hsc := hLk.sc k hkn
        generalize st big link F k = p0 at hsc hA hst hstn hst300
        subst hA
        clear hLk hL hkp hCk hlen
        go_wp2_with fail
        refine Calls.mono HN.out ?_
        rintro _ w2 ⟨rfl, hk2⟩
        have e0 := (HL.out.kept hk2).gl.e0
        have hkw : Kept (fun k => M ≤ k) w (w2.alloc (.cells #[.int .i64 0, .int .i64 0, .slice none 0 0] 37)) := (HK.out.trans hk2).alloc _
        have HF : Hid _ := HR.out _ hkw
        have hs2 : 0 < w2.heap.size := by have := World.block_lt_of_cell? w2 _ e0; exact this
        clear hkw hk2 HN HL HK
        go_wp2_with fail
        exact HF.out
      · have hln : len = st big link F k := by rw [hLk.ln]; congr 1; omega
        rw [← hln] at hA
        subst hA
        clear hLk hL hkp hCk hlen
        go_wp2_with fail
        refine Calls.mono HN.out ?_
        rintro _ w2 ⟨rfl, hk2⟩
        have e0 := (HL.out.kept hk2).gl.e0
        have hkw : Kept (fun k => M ≤ k) w (w2.alloc (.cells #[.int .i64 0, .int .i64 0, .slice none 0 0] 37)) := (HK.out.trans hk2).alloc _
        have HF : Hid _ := HR.out _ hkw
        have hs2 : 0 < w2.heap.size := by have := World.block_lt_of_cell? w2 _ e0; exact this
        clear hkw hk2 HN HL HK
        go_wp2_with fail
        exact HF.out
    · have hkn : k < F.length := by
        rcases Nat.lt_or_ge k F.length with h | h
        · exact h
        · have : k = F.length := by omega
          subst this
          have := hLk.ln
          have := hLk.kl
          omega
      obtain ⟨b, fa1, fc1, rfl, hbN, hcb, hBs⟩ := hLk.fs.at k hkn
      have hn4 : (F.getD k []).length ≤ 4096 := by
        have e : F.getD k [] = F[k] := by simp [List.getD, hkn]
        rw [e]
        exact (hLk.fl _ (List.getElem_mem hkn)).1
      have hsc := hLk.sc k hkn
      have hss := st_succ big link F k
      have hwi : IntKind.i64.wrap ((k : Int) + 1) = (k : Int) + 1 := IntWalk.i64_in _ (by omega)
      have hu := hLk.u32 hkn
      have hd := hLk.data hkn
      have hby := hLk.byt
      have hgl := hLk.gl
      have hnm := hLk.nm
      have hbN2 : b.block < M := by omega
      have hfl : ∀ w', Kept (fun k => M ≤ k) wr w' → w'.cell? (b.add k) = some (.slice fa1 (F.getD k []).length fc1) ∧ Bs w' N (.slice fa1 (F.getD k []).length fc1) (F.getD k []) := fun w' hk' => ⟨(World.cell?_of_block (hk'.block _ (World.block_lt_of_cell? wr _ hcb) (fun h => by rw [add_block] at h; omega))).trans hcb, hBs.kept (Kept.mono (q := fun k => N ≤ k) hk' (fun _ _ h => Nat.le_trans hnm h))⟩
      have HFL : Hid _ := hfl
      clear hfl hcb hBs hL
      have HK : Hid (Kept (fun k => M ≤ k) w wr) := hkp
      generalize (F.getD k []) = f at hss hn4 hu hd HFL
      by_cases hB : keep < st big link F k + 16 + f.length
      · have HN : Hid _ := nx_cut M Q B Y U D cap L (st big link F k) big k link (.slice none 0 0) ae au wr hCk hgl (by omega) f.length (by omega) hby (by omega) (by omega) hu
        clear hLk hkp hCk hu hd hby hgl hss
        generalize st big link F k = p0 at hsc hA hB hst hstn hst300
        have hA1 : ¬ keep ≤ p0 := by omega
        have hB1 : (keep : Int) < (p0 : Int) + 16 + (f.length : Int) := by omega
        have hw1 : IntKind.i64.wrap ((p0 : Int) + 16) = (p0 : Int) + 16 := IntWalk.i64_in _ (by omega)
        have hw2 : IntKind.i64.wrap ((p0 : Int) + 16 + (f.length : Int)) = (p0 : Int) + 16 + (f.length : Int) := IntWalk.i64_in _ (by omega)
        clear hlen
        go_wp2_with fail
        refine Calls.mono HN.out ?_
        rintro _ w2 ⟨T, rfl, hT, hk2⟩
        have hf2 := (HFL.out w2 hk2).1
        have hbl2 := World.block_lt_of_cell? w2 _ hf2
        have t0 : w2.cell? ⟨T, 0, none⟩ = some (.int .i64 ((k : Int) + 1)) := hT.cell 0
        have t1 : w2.cell? ⟨T, 1, none⟩ = some (.bool true) := hT.cell 1
        have hTl := hT.lt
        have hkw : Kept (fun k => M ≤ k) w (w2.alloc (.cells #[.int .i64 0, .int .i64 0, .slice none 0 0] 37)) := (HK.out.trans hk2).alloc _
        have HF : Hid _ := HR.out _ hkw
        have hf3 : (w2.alloc (.cells #[.int .i64 0, .int .i64 0, .slice none 0 0] 37)).cell? (b.add k) = some (.slice fa1 f.length fc1) := (World.cell?_of_block (Below.heap_alloc w2 _ _ hbl2)).trans hf2
        clear hkw hk2 HN HK HFL hT
        go_wp2_with fail
        exact HF.out
      · have hd' := hd (by omega)
        have hN0 := nx_ok M Q B Y U D cap L (st big link F k) big k link (.slice none 0 0) ae au wr hCk hgl (by omega) f.length (by omega) hby (by omega) hu
        rw [hd', ← hss] at hN0
        have HN : Hid _ := hN0
        have hst1 : st big link F (k + 1) ≤ keep := by omega
        have hlk : IntKind.i64.wrap link = link := IntWalk.i64_in _ (by have := hLk.lk; omega)
        clear hLk hkp hCk hu hd hby hgl hN0 hd' hss
        generalize st big link F k = p0 at hsc hA hB hst hstn hst300
        have hA1 : ¬ keep ≤ p0 := by omega
        have hB1 : ¬ (keep : Int) < (p0 : Int) + 16 + (f.length : Int) := by omega
        have hw1 : IntKind.i64.wrap ((p0 : Int) + 16) = (p0 : Int) + 16 := IntWalk.i64_in _ (by omega)
        have hw2 : IntKind.i64.wrap ((p0 : Int) + 16 + (f.length : Int)) = (p0 : Int) + 16 + (f.length : Int) := IntWalk.i64_in _ (by omega)
        clear hlen
        go_wp2_with fail
        refine Calls.mono HN.out ?_
        rintro _ w2 ⟨P, cp, qs, rfl, hcp, hql, hP, hqs, hk2, hC2⟩
        have hf2 := (HFL.out w2 hk2).1
        have hB2 := (HFL.out w2 hk2).2
        have hbl2 := World.block_lt_of_cell? w2 _ hf2
        have hka : Kept (fun _ => False) w2 (w2.alloc (.cells #[.int .i64 ((k : Int) + 1), .int .i64 link, .slice (some ⟨P, 0, none⟩) f.length cp] 37)) := (Kept.refl _ w2).alloc _
        have HQ : Hid (∀ nq, Calls Ybaf.prog 10 #[.slice (some ⟨P, 0, none⟩) f.length cp, .slice fa1 f.length fc1] ((w2.alloc (.cells #[.int .i64 ((k : Int) + 1), .int .i64 link, .slice (some ⟨P, 0, none⟩) f.length cp] 37)).drewN nq) fun e w' => e = .returned (.bool true) ∧ w' = (w2.alloc (.cells #[.int .i64 ((k : Int) + 1), .int .i64 link, .slice (some ⟨P, 0, none⟩) f.length cp] 37)).drewN nq) := fun nq => beq_same _ _ (strOfNums f) _ (((hP.alloc _).drewN nq).bs (by omega) hqs).conv (hB2.kept ((Kept.mono (q := fun k => N ≤ k) hka (fun _ _ h => h.elim)).drewN nq)).conv
        have hf3 : (w2.alloc (.cells #[.int .i64 ((k : Int) + 1), .int .i64 link, .slice (some ⟨P, 0, none⟩) f.length cp] 37)).cell? (b.add k) = some (.slice fa1 f.length fc1) := (World.cell?_of_block (Below.heap_alloc w2 _ _ hbl2)).trans hf2
        have HF : Hid (∀ nq, Kept (fun k => M ≤ k) w ((w2.alloc (.cells #[.int .i64 ((k : Int) + 1), .int .i64 link, .slice (some ⟨P, 0, none⟩) f.length cp] 37)).drewN nq) ∧ Cr ((w2.alloc (.cells #[.int .i64 ((k : Int) + 1), .int .i64 link, .slice (some ⟨P, 0, none⟩) f.length cp] 37)).drewN nq) M D Q B Y U D cap L (st big link F (k + 1)) false (bo big) ((k : Int) + 1) link (.slice none 0 0)) := fun nq => ⟨((HK.out.trans hk2).alloc _).drewN nq, hC2.kept (hka.drewN nq)⟩
        have HS1 : Hid (st big link F (k + 1) ≤ keep) := hst1
        clear hk2 HN HK HFL hP hB2 hC2 hka hst1 hqs
        go_wp2_with fail
        go_quiet ((go_at_call 10; exact Calls.quiet_of_same (HQ.out _)))
        go_wp2_with fail
        go_roundg (F.length + 1 - (k + 1))
        case rel => exact ⟨k + 1, rfl, by omega, by simp, (HF.out nq).1, HS1.out, by simpa using (HF.out nq).2⟩
        case measure => omega
end Go.Proofs.YbulkbgsmFmt
