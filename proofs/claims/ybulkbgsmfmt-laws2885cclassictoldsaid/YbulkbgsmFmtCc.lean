import Derived.Test.YbulkbgsmFmtCd
import Derived.Laws.AppendOwnNone
namespace Go.Proofs.YbulkbgsmFmt
open Go.RowKit
attribute [local go_sem] eq_same eq_nil

theorem info3 : (Ybaf.prog.info? 3).map (fun i => (i.zero, i.size, i.bytes)) = some (some (.int .i64 0), 1, 8) := by kernel_rfl

theorem own_some {w : World} {base : Nat} {e : TypeId} {size : Nat} {v : Value} {n : Nat} {xs : List Value} (h : w.ownsRow base e size v n xs) (hn : 0 < n) : ∃ g cap, v = .slice (some ⟨g, 0, none⟩) n cap ∧ base ≤ g ∧ g < w.heap.size := by
  rcases h.2 with ⟨_, h2⟩ | ⟨g, cap, cur, hv, hb, hg, _⟩
  · omega
  · exact ⟨g, cap, hv, hb, (Array.getElem?_eq_some_iff.1 hg).1⟩

theorem own_ne {w : World} {N D S : Nat} {n m c d : Nat} {xs ys : List Value} (h : w.ownsRow N 5 1 (.slice (some ⟨D, 0, none⟩) n c) n xs) (k : w.ownsRow N 3 1 (.slice (some ⟨S, 0, none⟩) m d) m ys) : D ≠ S := by
  rintro rfl
  rcases h.2 with ⟨h2, _⟩ | ⟨g, cap, cur, hv, hb, hg, _⟩
  · cases h2
  · cases hv
    rcases k.2 with ⟨k2, _⟩ | ⟨g', cap', cur', kv, kb, kg, _⟩
    · cases k2
    · cases kv
      have := hg.symm.trans kg
      simp only [Option.some.injEq, Obj.cells.injEq] at this
      exact absurd this.2.1 (by decide)

theorem Fl.kept {w w' : World} {N D n c : Nat} {xs : List Int} {p : Nat → Prop} (h : Fl w N (.slice (some ⟨D, 0, none⟩) n c) xs) (hk : Kept p w w') (hD : ¬ p D) : Fl w' N (.slice (some ⟨D, 0, none⟩) n c) xs := by
  have e : n = xs.length := (h.row 0 (Nat.zero_le _)).1
  subst e
  exact owns_kept h hk hD

/-- The starts of the first k records. -/
def starts (big : Bool) (link : Int) (F : List (List Int)) (k : Nat) : List Value := (List.range k).map fun j => .int .i64 (st big link F j : Int)
theorem starts_succ (big : Bool) (link : Int) (F : List (List Int)) (k : Nat) : starts big link F (k + 1) = starts big link F k ++ [.int .i64 (st big link F k : Int)] := by
  simp [starts, List.range_succ]
theorem starts_get (big : Bool) (link : Int) (F : List (List Int)) (k j : Nat) (hj : j < k) : (starts big link F k)[j]? = some (.int .i64 (st big link F j : Int)) := by
  simp [starts, hj]

/-- What stands in the second loop: the file xs is v, the first k starts lie in S. -/
def Mw (w wr : World) (N k : Nat) (v : Value) (xs : List Int) (S cS : Nat) (fa : Option Addr) (big : Bool) (link : Int) (F : List (List Int)) (ae au : Addr) : Prop :=
  Fl wr N v xs ∧ wr.ownsRow N 3 1 (.slice (some ⟨S, 0, none⟩) k cS) k (starts big link F k) ∧ Kept (fun k => N ≤ k) w wr ∧ Fs wr N fa F ∧ Gl wr N ae au

theorem Mw.put {w wr w' : World} {N k : Nat} {v v' : Value} {xs xs' : List Int} {S cS : Nat} {fa : Option Addr} {big : Bool} {link : Int} {F : List (List Int)} {ae au : Addr} (h : Mw w wr N k v xs S cS fa big link F ae au) (hf : Fl w' N v' xs') (hk : Kept (fun j => v.ownBlock = some j) wr w') : Mw w w' N k v' xs' S cS fa big link F ae au := by
  obtain ⟨h1, h2, h3, h4, h5⟩ := h
  have hS : ¬ v.ownBlock = some S := by
    obtain ⟨a, c, rfl⟩ := owns_form h1
    intro e
    rcases h1.2 with ⟨e1, _⟩ | ⟨g, cap, cur, hv, _⟩
    · rw [e1] at e
      cases e
    · rw [hv] at e h1
      cases e
      exact own_ne h1 h2 rfl
  have hk' : Kept (fun k => N ≤ k) wr w' := Kept.mono (q := fun k => N ≤ k) hk (fun j _ hj => (h1.lt j hj).1)
  exact ⟨hf, owns_kept h2 hk hS, h3.trans hk', h4.kept hk', h5.kept (X := wr.heap.size) (Kept.mono (q := Kp N wr.heap.size) hk' (fun _ hl hj => ⟨hj, Nat.ne_of_lt hl⟩))⟩

theorem put32m {w wr : World} {N k : Nat} {v : Value} {xs : List Int} {S cS : Nat} {fa : Option Addr} {big : Bool} {link : Int} {F : List (List Int)} {ae au : Addr} (h : Mw w wr N k v xs S cS fa big link F ae au) (hN : N ≤ w.heap.size) (n : Int) (hl : xs.length ≤ 4000000) (hn : 0 ≤ n ∧ n ≤ 4294967295) :
    Calls Ybaf.prog 5 #[v, .bool big, .int .u32 n] wr fun e w' => ∃ v' : Value, e = .returned v' ∧ Mw w w' N k v' (xs ++ b32 big n) S cS fa big link F ae au := by
  refine Calls.mono (put32 N v xs big n wr h.1 (Nat.le_trans hN h.2.2.1.size) hl hn) ?_
  rintro e w' ⟨v', rfl, hF, hk⟩
  exact ⟨v', rfl, h.put hF hk⟩

theorem file_next (big : Bool) (link : Int) (F : List (List Int)) (k : Nat) : fileAt big link F k ++ b32 big k ++ b32 big 7 ++ b32 big ((F.getD k []).length : Int) ++ b32 big (((F.getD k []).length : Int) + 3) ++ F.getD k [] = fileAt big link F (k + 1) := by
  rw [file_succ]
  simp [recOf]

theorem cell_add_kept {w w' : World} {N : Nat} {b : Addr} {k : Nat} {v : Value} (hk : Kept (fun k => N ≤ k) w w') (hb : b.block < N) (hc : w.cell? (b.add k) = some v) : w'.cell? (b.add k) = some v :=
  (World.cell?_of_block (hk.block _ (World.block_lt_of_cell? w _ hc) (fun h => by rw [add_block] at h; omega))).trans hc

theorem Mw.form {w wr : World} {N k : Nat} {v : Value} {S cS : Nat} {fa : Option Addr} {big : Bool} {link : Int} {F : List (List Int)} {ae au : Addr} {xs : List Int} (h : Mw w wr N k v xs S cS fa big link F ae au) (e : xs = fileAt big link F k) : ∃ D c, v = .slice (some ⟨D, 0, none⟩) (st big link F k) c ∧ Mw w wr N k (.slice (some ⟨D, 0, none⟩) (st big link F k) c) (fileAt big link F k) S cS fa big link F ae au := by
  subst e
  obtain ⟨D, c, rfl, _, _⟩ := own_some h.1 (show 0 < st big link F k from Nat.lt_of_lt_of_le (by decide) (st_ge big link F k))
  exact ⟨D, c, rfl, h⟩

theorem Mw.start {w wr w' : World} {N k : Nat} {v : Value} {xs : List Int} {S cS S' cS' : Nat} {fa : Option Addr} {big : Bool} {link : Int} {F : List (List Int)} {ae au : Addr} {D n c : Nat} (h : Mw w wr N k v xs S cS fa big link F ae au) (hv : v = .slice (some ⟨D, 0, none⟩) n c) (ho : w'.ownsRow N 3 1 (.slice (some ⟨S', 0, none⟩) (k + 1) cS') (k + 1) (starts big link F k ++ [.int .i64 (st big link F k : Int)])) (hk : Kept (fun j => j = S) wr w') : Mw w w' N (k + 1) v xs S' cS' fa big link F ae au := by
  obtain ⟨h1, h2, h3, h4, h5⟩ := h
  subst hv
  have hk' : Kept (fun k => N ≤ k) wr w' := Kept.mono (q := fun k => N ≤ k) hk (fun j _ hj => by rw [hj]; exact (h2.lt S rfl).1)
  have e : n = xs.length := (h1.row 0 (Nat.zero_le _)).1
  have hne : D ≠ S := by subst e; exact own_ne h1 h2
  exact ⟨h1.kept hk hne, by rw [starts_succ]; exact ho, h3.trans hk', h4.kept hk', h5.kept (X := wr.heap.size) (Kept.mono (q := Kp N wr.heap.size) hk' (fun _ hl hj => ⟨hj, Nat.ne_of_lt hl⟩))⟩

set_option maxHeartbeats 2000000 in
set_option maxRecDepth 100000 in
theorem cl_c {u4 u5 u6 u7 u8 u9 u10 u13 u14 u15 u16 u17 u18 u19 u20 u21 u22 u23 u24 u25 u26 u27 u28 u29 u30 u31 u32 u33 u34 u35 u36 u37 u38 u39 u40 u41 u42 u43 u44 u45 u46 u47 u48 u49 u50 u51 u52 u53 u54 u55 u56 u57 u58 u59 u60 u61 u62 u63 u64 u65 u66 u67 u68 u69 u70 u71 u72 u73 u74 u75 u76 u77 u78 u79 u80 u81 u82 u83 u84 u85 u86 u87 u88 u89 u90 u91 u92 u93 u94 u95 u96 u97 u98 u99 u100 u101 u102 u103 u104 u105 u106 u107 u108 u109 u110 u111 u112 u113 u114 u115 u116 u117 u118 u119 u120 u121 u122 u123 u124 u125 u126 u127 u128 u129 u130 u131 u132 u133 u134 u135 u136 u137 u138 u139 u140 u141 u142 u143 u144 u145 u146 u147 u148 u149 u150 u151 u152 u153 u154 u155 u156 u157 u158 u159 u160 u161 u162 u163 u164 u165 u166 u167 u168 u169 u170 u171 u172 u173 u174 u175 u176 u177 u178 u179 u180 u181 u182 u183 u184 u185 u186 u187 u188 u189 u190 u191 u192 u193 u194 u195 u196 u197 u198 u199 u200 u201 u202 u203 u204 u205 u206 u207 u208 u209 u210 u211 u212 u213 u214 u215 u216 u217 u218 u219 u220 u221 u222 u223 u224 u225 u226 u227 u228 u229 u230 u231 u232 u233 u234 u235 u236 : Value} (R : Ending → World → Prop) (N fc : Nat) (fa : Option Addr) (big : Bool) (link cut : Int) (F : List (List Int)) (ae au : Addr) (v12 : Value) (w : World)
    (hF : Fl w N v12 (fileAt big link F 0)) (hfs : Fs w N fa F) (hG : Gl w N ae au) (hN : N ≤ w.heap.size)
    (fl : ∀ f ∈ F, f.length ≤ 4096 ∧ ∀ x ∈ f, 0 ≤ x ∧ x ≤ 255) (fn : F.length ≤ 300) (lk : 0 ≤ link ∧ link ≤ 65535) (hcut : 0 ≤ cut ∧ cut ≤ 65535) (HR : Hid (∀ w', Kept (fun k => N ≤ k) w w' → R (.returned (.bool true)) w')) :
    Code.wp Ybaf.prog ((Ybaf.f3.body.bind (fromRegion 17)).getD .skip) (bodyPost Ybaf.prog Ybaf.f3 R) ⟨#[.bool big, .int .u16 link, .slice fa F.length fc, .int .u16 cut, u4, u5, u6, u7, u8, u9, u10, .int .i64 (F.length : Int), v12, u13, u14, u15, u16, u17, u18, u19, u20, u21, u22, u23, u24, u25, u26, u27, u28, u29, u30, u31, u32, u33, u34, u35, u36, u37, u38, u39, u40, u41, u42, u43, u44, u45, u46, u47, u48, u49, u50, u51, u52, u53, u54, u55, u56, u57, u58, u59, u60, u61, u62, u63, u64, u65, u66, u67, u68, u69, u70, u71, u72, u73, u74, u75, u76, u77, u78, u79, u80, u81, u82, u83, u84, u85, u86, u87, u88, u89, u90, u91, u92, u93, u94, u95, u96, u97, u98, u99, u100, u101, u102, u103, u104, u105, u106, u107, u108, u109, u110, u111, u112, u113, u114, u115, u116, u117, u118, u119, u120, u121, u122, u123, u124, u125, u126, u127, u128, u129, u130, u131, u132, u133, u134, u135, u136, u137, u138, u139, u140, u141, u142, u143, u144, u145, u146, u147, u148, u149, u150, u151, u152, u153, u154, u155, u156, u157, u158, u159, u160, u161, u162, u163, u164, u165, u166, u167, u168, u169, u170, u171, u172, u173, u174, u175, u176, u177, u178, u179, u180, u181, u182, u183, u184, u185, u186, u187, u188, u189, u190, u191, u192, u193, u194, u195, u196, u197, u198, u199, u200, u201, u202, u203, u204, u205, u206, u207, u208, u209, u210, u211, u212, u213, u214, u215, u216, u217, u218, u219, u220, u221, u222, u223, u224, u225, u226, u227, u228, u229, u230, u231, u232, u233, u234, u235, u236], []⟩ w := by
  conv => arg 2; whnf
  obtain ⟨D, c12, rfl, hND, hDl⟩ := own_some hF (show 0 < st big link F 0 by rw [st_zero]; decide)
  obtain ⟨i3, hi3, hz30, hz31, hz32⟩ := info_parts info3
  obtain ⟨i0, hi, hz0, hz1, hz2⟩ := info_parts info5
  obtain ⟨w1, hmk, hown, hgrow⟩ := run_make_own (P := Ybaf.prog) w N 28 3 i3 _ 1 Ybaf.underlying28 hi3 hz30 hz31 .i64 .i64 F.length (by rw [hz32]; omega) (by unfold maxLen; omega) hN
  have hk1 : Kept (fun _ => False) w w1 := (Kept.refl _ w).grown hgrow (fun k h => by cases h)
  have hB0 : Mw w w1 N 0 (.slice (some ⟨D, 0, none⟩) (st big link F 0) c12) (fileAt big link F 0) w.heap.size F.length fa big link F ae au := ⟨hF.kept hk1 (fun h => h), hown, Kept.mono (q := fun k => N ≤ k) hk1 (fun _ _ h => h.elim), hfs.kept (Kept.mono (q := fun k => N ≤ k) hk1 (fun _ _ h => h.elim)), hG.kept (X := N) (Kept.mono (q := Kp N N) hk1 (fun _ _ h => h.elim))⟩
  have HB0 : Hid (Mw w w1 N 0 (.slice (some ⟨D, 0, none⟩) (st big link F 0) c12) (fileAt big link F 0) w.heap.size F.length fa big link F ae au) := hB0
  have HFL : Hid (∀ f ∈ F, f.length ≤ 4096 ∧ ∀ x ∈ f, 0 ≤ x ∧ x ≤ 255) := fl
  have he0 : (fileAt big link F 0).length = st big link F 0 := rfl
  have HE0 : Hid ((fileAt big link F 0).length = st big link F 0) := he0
  have HFS : Hid (Fs w N fa F) := hfs
  clear hF hfs hG hgrow hown hk1 hB0 fl he0
  go_wp2_with fail
  rename_i K1 hK1
  have HK1 : Hid _ := hK1
  clear hK1
  go_loopg [12, 13, 69] (F.length + 1) (fun gk s12 s13 s69 wr => ∃ k D c12 S cS : Nat, gk = F.length + 1 - k ∧ k ≤ F.length ∧ s69 = .int .i64 (k : Int) ∧ s12 = .slice (some ⟨D, 0, none⟩) (st big link F k) c12 ∧ s13 = .slice (some ⟨S, 0, none⟩) k cS ∧ Mw w wr N k (.slice (some ⟨D, 0, none⟩) (st big link F k) c12) (fileAt big link F k) S cS fa big link F ae au)
  case atStart => exact ⟨0, D, c12, w.heap.size, F.length, rfl, Nat.zero_le _, rfl, rfl, rfl, HB0.out⟩
  case round =>
    obtain ⟨k, D, c12, S, cS, rfl, hk, rfl, rfl, rfl, hB⟩ := hrel
    clear HB0 hmk
    have hst2 := st_le big link F (fun f hf => (HFL.out f hf).1) k
    by_cases hkn : k < F.length
    · obtain ⟨b, fa1, fc1, rfl, hbN, hcb0, hBs⟩ := HFS.out.at k hkn
      have hcb := cell_add_kept hB.2.2.1 hbN hcb0
      clear hcb0
      have hn4 : (F.getD k []).length ≤ 4096 := by
        have e : F.getD k [] = F[k] := by simp [List.getD, hkn]
        rw [e]
        exact (HFL.out _ (List.getElem_mem hkn)).1
      have HNX : Hid (fileAt big link F k ++ b32 big k ++ b32 big 7 ++ b32 big ((F.getD k []).length : Int) ++ b32 big (((F.getD k []).length : Int) + 3) ++ F.getD k [] = fileAt big link F (k + 1)) := file_next big link F k
      have HB : Hid (Mw w wr N k (.slice (some ⟨D, 0, none⟩) (st big link F k) c12) (fileAt big link F k) S cS (some b) big link F ae au) := hB
      have HBS : Hid (Bs w N (.slice fa1 (F.getD k []).length fc1) (F.getD k [])) := hBs
      have hNr : N ≤ wr.heap.size := Nat.le_trans hN hB.2.2.1.size
      have hfl2 : (fileAt big link F k).length ≤ 3000000 := by have e : (fileAt big link F k).length = st big link F k := rfl; omega
      have hbl := World.block_lt_of_cell? wr _ hcb
      clear hB hBs
      generalize F.getD k [] = f at hcb hn4 HNX HBS
      have hwk : IntKind.u32.wrap (k : Int) = (k : Int) := by rw [IntKind.wrap_u32]; omega
      have hwf : IntKind.u32.wrap (f.length : Int) = (f.length : Int) := by rw [IntKind.wrap_u32]; omega
      have hwf2 : IntKind.i64.wrap ((f.length : Int) + 3) = (f.length : Int) + 3 := IntWalk.i64_in _ (by omega)
      have hwf3 : IntKind.u32.wrap ((f.length : Int) + 3) = (f.length : Int) + 3 := by rw [IntKind.wrap_u32]; omega
      have hwi : IntKind.i64.wrap ((k : Int) + 1) = (k : Int) + 1 := IntWalk.i64_in _ (by omega)
      generalize hsk : st big link F k = sk at *
      go_wp2_with (at_builtin; refine wpList_append_own _ rfl (.tmp 74) (.tmp 77) 28 rfl N 3 i3 _ 1 8 Ybaf.underlying28 hi3 hz30 hz31 hz32 rfl (by decide) (.slice (some ⟨S, 0, none⟩) k cS) k (starts big link F k) rfl (HB.out.2.1.alloc _) ⟨wr.heap.size, 0, none⟩ 1 1 [.int .i64 (sk : Int)] rfl rfl ?c1 ?c2 ?c3 ?c4 ?c5 ?_)
      case c1 => exact new_cells _ _ [.int .i64 (sk : Int)] _ (by simp)
      case c2 =>
        intro u hu
        simp only [List.mem_cons, List.not_mem_nil, or_false] at hu
        subst hu
        rfl
      case c3 => unfold maxLen; omega
      case c4 => omega
      case c5 => simp; omega
      intro v13 w2 hown2 hgrow2 _
      obtain ⟨S2, cS2, rfl, _, _⟩ := own_some hown2 (Nat.succ_pos k)
      have hks : Kept (fun j => j = S) wr w2 := ((Kept.refl _ wr).alloc _).grown hgrow2 (fun j h _ => by simp only [Value.ownBlock, Option.some.injEq] at h; exact h.symm)
      rw [← hsk] at hown2
      have hM0 := HB.out.start rfl hown2 hks
      have HC1 : Hid _ := put32m hM0 hN (k : Int) (by omega) (by omega)
      have HKS : Hid (Kept (fun k => N ≤ k) wr w2) := Kept.mono (q := fun k => N ≤ k) hks (fun j _ hj => by rw [hj]; exact (HB.out.2.1.lt S rfl).1)
      clear hown2 hgrow2 hks hM0
      go_wp2_with fail
      refine Calls.mono HC1.out ?_
      rintro _ w3 ⟨v3, rfl, hM3⟩
      have HC2 : Hid _ := put32m hM3 hN 7 (by simp [b32_len]; omega) (by decide)
      clear hM3 HC1
      go_wp2_with fail
      refine Calls.mono HC2.out ?_
      rintro _ w4 ⟨v4, rfl, hM4⟩
      have HC3 : Hid _ := put32m hM4 hN (f.length : Int) (by simp [b32_len]; omega) (by omega)
      clear hM4 HC2
      go_wp2_with fail
      refine Calls.mono HC3.out ?_
      rintro _ w5 ⟨v5, rfl, hM5⟩
      have HC4 : Hid _ := put32m hM5 hN ((f.length : Int) + 3) (by simp [b32_len]; omega) (by omega)
      clear hM5 HC3
      go_wp2_with fail
      refine Calls.mono HC4.out ?_
      rintro _ w6 ⟨v6, rfl, hM6⟩
      have HM6 : Hid (Mw w w6 N (k + 1) v6 (fileAt big link F k ++ b32 big k ++ b32 big 7 ++ b32 big (f.length : Int) ++ b32 big ((f.length : Int) + 3)) S2 cS2 (some b) big link F ae au) := hM6
      have hl6 : (fileAt big link F k ++ b32 big k ++ b32 big 7 ++ b32 big (f.length : Int) ++ b32 big ((f.length : Int) + 3)).length ≤ 3001000 := by simp [b32_len]; omega
      have hN6 : N ≤ w6.heap.size := Nat.le_trans hN hM6.2.2.1.size
      have HL6 : Hid ((fileAt big link F k ++ b32 big k ++ b32 big 7 ++ b32 big (f.length : Int) ++ b32 big ((f.length : Int) + 3)).length ≤ 3001000) := hl6
      clear hM6 HC4 HKS HB hl6
      obtain ⟨X, hX⟩ : ∃ X, X = fileAt big link F k ++ b32 big k ++ b32 big 7 ++ b32 big (f.length : Int) ++ b32 big ((f.length : Int) + 3) := ⟨_, rfl⟩
      rw [← hX] at HM6 HL6 HNX
      clear hX
      obtain ⟨oa6, oc6, rfl⟩ := owns_form HM6.out.1
      cases fa1 with
      | none =>
        obtain ⟨a, c, ha, h1, _⟩ := HBS.out
        cases ha
        obtain ⟨rfl, rfl⟩ := h1 rfl
        clear h1
        go_wp2_with (at_builtin; refine wpList_append_own_none rfl (.tmp 100) (.tmp 101) 24 rfl N 5 i0 1 Ybaf.underlying24 hi (.slice oa6 X.length oc6) X.length (by8 X) rfl HM6.out.1 rfl ?_)
        obtain ⟨D7, c7, hv7, hm7⟩ := HM6.out.form ((List.append_nil X).symm.trans HNX.out)
        go_roundg (F.length + 1 - (k + 1))
        case rel => exact ⟨k + 1, D7, c7, S2, cS2, rfl, by omega, by simp, hv7, rfl, hm7⟩
        case measure => omega
      | some ad =>
        go_wp2_with (at_builtin; refine wpList_append_own _ rfl (.tmp 100) (.tmp 101) 24 rfl N 5 i0 _ 1 1 Ybaf.underlying24 hi hz0 hz1 hz2 rfl (by decide) (.slice oa6 X.length oc6) X.length (by8 X) rfl HM6.out.1 ad f.length fc1 (by8 f) rfl (by rw [by8_len]; omega) ?c1 (by8_one _) ?c3 ?c4 ?c5 ?_)
        case c1 =>
          obtain ⟨a, c, ha, _, h2⟩ := HBS.out.kept HM6.out.2.2.1
          cases ha
          intro j u hj
          rw [by8, List.getElem?_map, Option.map_eq_some_iff] at hj
          obtain ⟨x, hx, rfl⟩ := hj
          exact (h2 ad rfl j x hx).2
        case c3 => have := HL6.out; unfold maxLen; omega
        case c4 => have := HL6.out; omega
        case c5 => exact hN6
        intro v7 w7 hown7 hgrow7 _
        have hf7 := fl_fin (Kept.refl (fun k => (Value.slice oa6 X.length oc6).ownBlock = some k) w6) hown7 hgrow7 rfl
        obtain ⟨D7, c7, hv7, hm7⟩ := (HM6.out.put hf7.1 hf7.2).form HNX.out
        have HM7 : Hid (Mw w w7 N (k + 1) (.slice (some ⟨D7, 0, none⟩) (st big link F (k + 1)) c7) (fileAt big link F (k + 1)) S2 cS2 (some b) big link F ae au) := hm7
        subst hv7
        clear hf7 hm7 hown7 hgrow7
        go_wp2_with fail
        go_roundg (F.length + 1 - (k + 1))
        case rel => exact ⟨k + 1, D7, c7, S2, cS2, rfl, by omega, by simp, rfl, rfl, HM7.out⟩
        case measure => omega
    · have hke : k = F.length := by omega
      subst hke
      have HB : Hid (Mw w wr N F.length (.slice (some ⟨D, 0, none⟩) (st big link F F.length) c12) (fileAt big link F F.length) S cS fa big link F ae au) := hB
      clear hB
      go_wp2_with fail
      refine HK1.out _ _ ?_
      have hB := HB.out
      refine cl_d R N S D cS (st big link F F.length) c12 fc fa big link cut F ae au wr hB.1 hB.2.2.2.1 hB.2.2.2.2 (hB.2.1.lt S rfl).2 (hB.1.lt D rfl).2 (Nat.le_trans hN hB.2.2.1.size) ?_ HFL.out fn lk hcut (fun w' hk' => HR.out w' (hB.2.2.1.trans hk'))
      intro j hj
      have := hB.2.1.cells (g := S) rfl j _ (starts_get big link F F.length j hj)
      rw [add_at] at this
      exact this
end Go.Proofs.YbulkbgsmFmt
