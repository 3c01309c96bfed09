import Derived.Test.YbulkbgsmFmtPm
import Derived.Laws.AppendOwnNone
namespace Go.Proofs.YbulkbgsmFmt
open Go.RowKit
attribute [local go_sem] eq_same eq_nil

/-- The statement that holds region k, and what follows it. -/
def fromTop (k : Nat) : Code → Option Code
  | .seq a r => if (regOf k a).isSome then some (.seq a r) else fromTop k r
  | .block _ c => fromTop k c
  | .scope c => fromTop k c
  | _ => none

/-- The file xs is v; the packet's copy lies in S. -/
def Mq (w wr : World) (N S : Nat) (rs : List Value) (v : Value) (xs : List Int) : Prop := Fl wr N v xs ∧ Row wr S 49 rs ∧ Kept (fun k => N ≤ k) w wr

theorem put32q {w wr : World} {N S : Nat} {rs : List Value} {v : Value} {xs : List Int} (h : Mq w wr N S rs v xs) (big : Bool) (hN : N ≤ w.heap.size) (n : Int) (hl : xs.length ≤ 4000000) (hn : 0 ≤ n ∧ n ≤ 4294967295) :
    Calls Ybaf.prog 5 #[v, .bool big, .int .u32 n] wr fun e w' => ∃ v' : Value, e = .returned v' ∧ Mq w w' N S rs v' (xs ++ b32 big n) := by
  obtain ⟨h1, h2, h3⟩ := h
  refine Calls.mono (put32 N v xs big n wr h1 (Nat.le_trans hN h3.size) hl hn) ?_
  rintro e w' ⟨v', rfl, hF, hk⟩
  have hS : ¬ v.ownBlock = some S := fun e => by
    obtain ⟨ys, hy⟩ := own_row h1 e
    exact hy.same h2 (by decide) rfl
  exact ⟨v', rfl, hF, h2.kept hk hS, h3.trans (Kept.mono (q := fun k => N ≤ k) hk (fun j _ hj => (h1.lt j hj).1))⟩
theorem put32f {w wr : World} {N : Nat} {v : Value} {xs : List Int} (h : Fl wr N v xs ∧ Kept (fun k => N ≤ k) w wr) (big : Bool) (hN : N ≤ w.heap.size) (n : Int) (hl : xs.length ≤ 4000000) (hn : 0 ≤ n ∧ n ≤ 4294967295) :
    Calls Ybaf.prog 5 #[v, .bool big, .int .u32 n] wr fun e w' => ∃ v' : Value, e = .returned v' ∧ Fl w' N v' (xs ++ b32 big n) ∧ Kept (fun k => N ≤ k) w w' := by
  refine Calls.mono (put32 N v xs big n wr h.1 (Nat.le_trans hN h.2.size) hl hn) ?_
  rintro e w' ⟨v', rfl, hF, hk⟩
  exact ⟨v', rfl, hF, h.2.trans (Kept.mono (q := fun k => N ≤ k) hk (fun j _ hj => (h.1.lt j hj).1))⟩
theorem put16f {w wr : World} {N : Nat} {v : Value} {xs : List Int} (h : Fl wr N v xs ∧ Kept (fun k => N ≤ k) w wr) (big : Bool) (hN : N ≤ w.heap.size) (n : Int) (hl : xs.length ≤ 4000000) (hn : 0 ≤ n ∧ n ≤ 65535) :
    Calls Ybaf.prog 6 #[v, .bool big, .int .u16 n] wr fun e w' => ∃ v' : Value, e = .returned v' ∧ Fl w' N v' (xs ++ b16 big n) ∧ Kept (fun k => N ≤ k) w w' := by
  refine Calls.mono (put16 N v xs big n wr h.1 (Nat.le_trans hN h.2.size) hl hn) ?_
  rintro e w' ⟨v', rfl, hF, hk⟩
  exact ⟨v', rfl, hF, h.2.trans (Kept.mono (q := fun k => N ≤ k) hk (fun j _ hj => (h.1.lt j hj).1))⟩
theorem pad_f {w wr : World} {N : Nat} {v : Value} {xs : List Int} (h : Fl wr N v xs ∧ Kept (fun k => N ≤ k) w wr) (hN : N ≤ w.heap.size) (n : Nat) (hl : xs.length ≤ 4000000) (hn : n ≤ 100000) :
    Calls Ybaf.prog 11 #[v, .int .i64 (n : Int)] wr fun e w' => ∃ v' : Value, e = .returned v' ∧ Fl w' N v' (xs ++ padL n) ∧ Kept (fun k => N ≤ k) w w' := by
  refine Calls.mono (pad_ok N v xs n wr h.1 (Nat.le_trans hN h.2.size) hl hn) ?_
  rintro e w' ⟨v', rfl, hF, hk⟩
  exact ⟨v', rfl, hF, h.2.trans hk⟩

theorem skp_bytes (big : Bool) (xs : List Int) : xs ++ b32 big 2989 ++ b32 big 16 ++ b32 big 0 ++ b32 big 16 = xs ++ Bk.bytes big .skp := by
  have e : ((Bk.body big .skp).length : Int) + 12 = 16 := by rw [Bk.body_len]; rfl
  rw [Bk.bytes, e]
  simp only [Bk.typ, Bk.body, List.append_assoc]
theorem spb_bytes (big : Bool) (xs f : List Int) (T : Int) (hT : T = (((Bk.spb f).blen : Nat) : Int) + 12) : xs ++ b32 big 3 ++ b32 big T ++ b32 big f.length ++ f ++ padL f.length ++ b32 big T = xs ++ Bk.bytes big (.spb f) := by
  have e : ((Bk.body big (.spb f)).length : Int) + 12 = T := by rw [Bk.body_len, hT]
  rw [Bk.bytes, e]
  simp only [Bk.typ, Bk.body, List.append_assoc]
theorem epb_bytes (big : Bool) (xs f : List Int) (i : Nat) (T : Int) (hT : T = (((Bk.epb i f).blen : Nat) : Int) + 12) : xs ++ b32 big 6 ++ b32 big T ++ b32 big i ++ b32 big 0 ++ b32 big 0 ++ b32 big f.length ++ b32 big ((f.length : Int) + 5) ++ f ++ padL f.length ++ b32 big T = xs ++ Bk.bytes big (.epb i f) := by
  have e : ((Bk.body big (.epb i f)).length : Int) + 12 = T := by rw [Bk.body_len, hT]
  rw [Bk.bytes, e]
  simp only [Bk.typ, Bk.body, List.append_assoc]
theorem file_step (big : Bool) (ls : List Int) (n : Nat) (ps : List Pkt) (j : Nat) (hj : j < ps.length) : pfile big (allB ls n (ps.take (j + 1))) = pfile big (allB ls n (ps.take j)) ++ ps[j].pre.flatMap (Bk.bytes big) ++ Bk.bytes big (ps[j].frame n) := by
  rw [allB_succ ls n ps j hj, pfile_app]
  simp [Pkt.blocks]

theorem Fl.app {w wr w1 : World} {N : Nat} {oa : Option Addr} {oc : Nat} {v : Value} {X f : List Int} (hK : Kept (fun k => N ≤ k) w wr) (hO : Fl wr N (.slice oa X.length oc) X) (hown : w1.ownsRow N 5 1 v (X.length + f.length) (by8 X ++ by8 f)) (hg : wr.grownBy w1 (Value.slice oa X.length oc).ownBlock) : Fl w1 N v (X ++ f) ∧ Kept (fun k => N ≤ k) w w1 := by
  have h := fl_fin (Kept.refl (fun k => (Value.slice oa X.length oc).ownBlock = some k) wr) hown hg rfl
  exact ⟨h.1, hK.trans (Kept.mono (q := fun k => N ≤ k) h.2 (fun j _ hj => (hO.lt j hj).1))⟩

set_option maxHeartbeats 40000000 in
set_option maxRecDepth 100000 in
theorem pl_c {u1 u3 u4 u5 u6 u7 u8 u11 u12 u13 u14 u15 u16 u17 u18 u19 u20 u21 u22 u23 u24 u25 u26 u27 u28 u29 u30 u31 u32 u33 u34 u35 u36 u37 u38 u39 u40 u41 u42 u43 u44 u45 u46 u47 u48 u49 u50 u51 u52 u53 u54 u55 u56 u57 u58 u59 u60 u61 u62 u63 u64 u65 u66 u67 u68 u69 u70 u71 u72 u73 u74 u75 u76 u77 u78 u79 u80 u81 u82 u83 u84 u85 u86 u87 u88 u89 u90 u91 u92 u93 u94 u95 u96 u97 u98 u99 u100 u101 u102 u103 u104 u105 u106 u107 u108 u109 u110 u111 u112 u113 u114 u115 u116 u117 u118 u119 u120 u121 u122 u123 u124 u125 u126 u127 u128 u129 u130 u131 u132 u133 u134 u135 u136 u137 u138 u139 u140 u141 u142 u143 u144 u145 u146 u147 u148 u149 u150 u151 u152 u153 u154 u155 u156 u157 u158 u159 u160 u161 u162 u163 u164 u165 u166 u167 u168 u169 u170 u171 u172 u173 u174 u175 u176 u177 u178 u179 u180 u181 u182 u183 u184 u185 u186 u187 u188 u189 u190 u191 u192 u193 u194 u195 u196 u197 u198 u199 u200 u201 u202 u203 u204 u205 u206 u207 u208 u209 u210 u211 u212 u213 u214 u215 u216 u217 u218 u219 u220 u221 u222 u223 u224 u225 u226 u227 u228 u229 u230 u231 u232 u233 u234 u235 u236 u237 u238 u239 u240 u241 u242 u243 u244 u245 u246 u247 u248 u249 u250 u251 u252 u253 u254 u255 u256 u257 u258 u259 u260 u261 u262 u263 u264 u265 u266 u267 u268 u269 u270 u271 u272 u273 u274 u275 u276 u277 u278 u279 u280 u281 u282 u283 u284 u285 u286 u287 u288 u289 : Value} (R : Ending → World → Prop) (N lb lo lc pc : Nat) (pa : Option Addr) (v10 : Value) (big : Bool) (ls : List Int) (ps : List Pkt) (ae au : Addr) (w : World) (hq : Pq ls ps)
    (hF : Fl w N v10 (pfile big (allB ls ls.length (ps.take 0)))) (hN : N ≤ w.heap.size) (h10 : 10 ≤ N) (hlz : Lz w N lb lo ls) (hpz : Pz w N pa ps) (hE : w.cell? ⟨0, 0, none⟩ = some (.iface 96 (.pointer (some ae)))) (hX : w.cell? ⟨8, 0, none⟩ = some (.iface 96 (.pointer (some au)))) (HR : Hid (∀ w', Kept (fun k => N ≤ k) w w' → R (.returned (.bool true)) w')) :
    Code.wp Ybaf.prog ((Ybaf.f4.body.bind (fromTop 30)).getD .skip) (bodyPost Ybaf.prog Ybaf.f4 R) ⟨#[.bool big, u1, .slice pa ps.length pc, u3, u4, u5, u6, u7, u8, .slice (some ⟨lb, lo, none⟩) ls.length lc, v10, u11, u12, u13, u14, u15, u16, u17, u18, u19, u20, u21, u22, u23, u24, u25, u26, u27, u28, u29, u30, u31, u32, u33, u34, u35, u36, u37, u38, u39, u40, u41, u42, u43, u44, u45, u46, u47, u48, u49, u50, u51, u52, u53, u54, u55, u56, u57, u58, u59, u60, u61, u62, u63, u64, u65, u66, u67, u68, u69, u70, u71, u72, u73, u74, u75, u76, u77, u78, u79, u80, u81, u82, u83, u84, u85, u86, u87, u88, u89, u90, u91, u92, u93, u94, u95, u96, u97, u98, u99, u100, u101, u102, u103, u104, u105, u106, u107, u108, u109, u110, u111, u112, u113, u114, u115, u116, u117, u118, u119, u120, u121, u122, u123, u124, u125, u126, u127, u128, u129, u130, u131, u132, u133, u134, u135, u136, u137, u138, u139, u140, u141, u142, u143, u144, u145, u146, u147, u148, u149, u150, u151, u152, u153, u154, u155, u156, u157, u158, u159, u160, u161, u162, u163, u164, u165, u166, u167, u168, u169, u170, u171, u172, u173, u174, u175, u176, u177, u178, u179, u180, u181, u182, u183, u184, u185, u186, u187, u188, u189, u190, u191, u192, u193, u194, u195, u196, u197, u198, u199, u200, u201, u202, u203, u204, u205, u206, u207, u208, u209, u210, u211, u212, u213, u214, u215, u216, u217, u218, u219, u220, u221, u222, u223, u224, u225, u226, u227, u228, u229, u230, u231, u232, u233, u234, u235, u236, u237, u238, u239, u240, u241, u242, u243, u244, u245, u246, u247, u248, u249, u250, u251, u252, u253, u254, u255, u256, u257, u258, u259, u260, u261, u262, u263, u264, u265, u266, u267, u268, u269, u270, u271, u272, u273, u274, u275, u276, u277, u278, u279, u280, u281, u282, u283, u284, u285, u286, u287, u288, u289], []⟩ w := by
  conv => arg 2; whnf
  obtain ⟨i0, hi, hz0, hz1, hz2⟩ := info_parts info5
  have HQ : Hid (Pq ls ps ∧ Lz w N lb lo ls ∧ Pz w N pa ps ∧ w.cell? ⟨0, 0, none⟩ = some (.iface 96 (.pointer (some ae))) ∧ w.cell? ⟨8, 0, none⟩ = some (.iface 96 (.pointer (some au)))) := ⟨hq, hlz, hpz, hE, hX⟩
  have HF0 : Hid (Fl w N v10 (pfile big (allB ls ls.length (ps.take 0)))) := hF
  have hl0 := hq.l0
  have hpl := hq.pl
  have hll := hq.ll
  clear hq hF hlz hpz hE hX
  go_wp2_with fail
  rename_i K1 hK1
  have HK1 : Hid _ := hK1
  clear hK1
  go_loopg [10, 101] (ps.length + 1) (fun gk s10 s101 wr => ∃ j : Nat, gk = ps.length + 1 - j ∧ j ≤ ps.length ∧ s101 = .int .i64 (j : Int) ∧ Fl wr N s10 (pfile big (allB ls ls.length (ps.take j))) ∧ Kept (fun k => N ≤ k) w wr)
  case atStart => exact ⟨0, rfl, Nat.zero_le _, rfl, HF0.out, Kept.refl _ _⟩
  case round =>
    obtain ⟨j, rfl, hj, rfl, hFl, hK⟩ := hrel
    clear HF0
    by_cases hjn : j < ps.length
    · obtain ⟨pb, po, da, dc, rfl, hpN, p0, p1, p2, p3, hBs⟩ := HQ.out.2.2.1 j ps[j] (List.getElem?_eq_getElem hjn)
      replace p0 := hK.cell p0 (Nat.not_le.2 hpN)
      replace p1 := hK.cell p1 (Nat.not_le.2 hpN)
      replace p2 := hK.cell p2 (Nat.not_le.2 hpN)
      replace p3 := hK.cell p3 (Nat.not_le.2 hpN)
      have hpb := World.block_lt_of_cell? wr _ p0
      have hlen := pfile_len big (allB ls ls.length (ps.take j)) (fun b hb => allB_ok ls ls.length ps HQ.out.1.lr HQ.out.1.pr b (by
        obtain ⟨r, hr⟩ := allB_split ls ls.length ps j hjn
        rw [hr]
        exact List.mem_append_left _ hb))
      have hal := allB_len ls ls.length (ps.take j)
      have htl : (ps.take j).length ≤ 300 := by rw [List.length_take]; omega
      have hfs := file_step big ls ls.length ps j hjn
      have hpq := HQ.out.1.pr ps[j] (List.getElem_mem hjn)
      obtain ⟨p, hp⟩ : ∃ p, p = ps[j] := ⟨_, rfl⟩
      rw [← hp] at p0 p1 p2 p3 hBs hfs hpq
      clear hp
      obtain ⟨ifn, sm, sk, f⟩ := p
      dsimp only at p0 p1 p2 p3 hBs hpq
      have hX0l : (pfile big (allB ls ls.length (ps.take j))).length ≤ 3895000 := by omega
      generalize hX0 : pfile big (allB ls ls.length (ps.take j)) = X0 at hFl hX0l hfs
      obtain ⟨oaF, ocF, rfl⟩ := owns_form hFl
      have hS : Row (wr.alloc (.cells #[.int .u8 (ifn : Int), .bool sm, .bool sk, .slice da f.length dc] 49)) wr.heap.size 49 [.int .u8 (ifn : Int), .bool sm, .bool sk, .slice da f.length dc] := Row.new wr 49 #[.int .u8 (ifn : Int), .bool sm, .bool sk, .slice da f.length dc]
      have hM0 : Mq w (wr.alloc (.cells #[.int .u8 (ifn : Int), .bool sm, .bool sk, .slice da f.length dc] 49)) N wr.heap.size [.int .u8 (ifn : Int), .bool sm, .bool sk, .slice da f.length dc] (.slice oaF X0.length ocF) X0 := ⟨World.ownsRow.alloc hFl _, hS, hK.alloc _⟩
      have HBS : Hid (Bs w N (.slice da f.length dc) f ∧ True) := ⟨hBs, trivial⟩
      obtain ⟨r, hr⟩ : ∃ r, r = ifn % ls.length := ⟨_, rfl⟩
      have hrl : r < ls.length := by rw [hr]; exact Nat.mod_lt _ hl0
      have hrem : (ifn : Int) % (ls.length : Int) = (r : Int) := by rw [hr]; exact (Int.natCast_emod _ _).symm
      obtain ⟨hi255, hf4, -⟩ := hpq
      obtain ⟨t, ht⟩ : ∃ t : Nat, t = (4 - f.length % 4) % 4 := ⟨_, rfl⟩
      have ht4 : t < 4 := by omega
      have hr2 : IntKind.i64.wrap (4 - (f.length : Int) % 4) = 4 - (f.length : Int) % 4 := IntWalk.i64_in _ (by omega)
      have hr3 : (4 - (f.length : Int) % 4) % 4 = (t : Int) := by omega
      have hwi : IntKind.i64.wrap (ifn : Int) = (ifn : Int) := IntWalk.i64_in _ (by omega)
      have hwr : IntKind.u32.wrap (r : Int) = (r : Int) := by rw [IntKind.wrap_u32]; omega
      have hwf : IntKind.u32.wrap (f.length : Int) = (f.length : Int) := by rw [IntKind.wrap_u32]; omega
      have hw16 : IntKind.i64.wrap (16 + (f.length : Int)) = 16 + (f.length : Int) := IntWalk.i64_in _ (by omega)
      have hw16t : IntKind.i64.wrap (16 + (f.length : Int) + (t : Int)) = 16 + (f.length : Int) + (t : Int) := IntWalk.i64_in _ (by omega)
      have hu16t : IntKind.u32.wrap (16 + (f.length : Int) + (t : Int)) = 16 + (f.length : Int) + (t : Int) := by rw [IntKind.wrap_u32]; omega
      have hw32 : IntKind.i64.wrap (32 + (f.length : Int)) = 32 + (f.length : Int) := IntWalk.i64_in _ (by omega)
      have hw32t : IntKind.i64.wrap (32 + (f.length : Int) + (t : Int)) = 32 + (f.length : Int) + (t : Int) := IntWalk.i64_in _ (by omega)
      have hu32t : IntKind.u32.wrap (32 + (f.length : Int) + (t : Int)) = 32 + (f.length : Int) + (t : Int) := by rw [IntKind.wrap_u32]; omega
      have hw5 : IntKind.i64.wrap ((f.length : Int) + 5) = (f.length : Int) + 5 := IntWalk.i64_in _ (by omega)
      have hu5 : IntKind.u32.wrap ((f.length : Int) + 5) = (f.length : Int) + 5 := by rw [IntKind.wrap_u32]; omega
      have hnz : ¬ (ls.length : Int) = 0 := by omega
      have hwj : IntKind.i64.wrap ((j : Int) + 1) = (j : Int) + 1 := IntWalk.i64_in _ (by omega)
      have HT : Hid (t = (4 - f.length % 4) % 4 ∧ r = ifn % ls.length) := ⟨ht, hr⟩
      clear hFl hK hS ht hr hX0 hlen hal htl
      cases sk with
      | true =>
        cases sm with
        | true =>
          have hfs2 : pfile big (allB ls ls.length (ps.take (j + 1))) = X0 ++ b32 big 2989 ++ b32 big 16 ++ b32 big 0 ++ b32 big 16 ++ b32 big 3 ++ b32 big (16 + (f.length : Int) + (t : Int)) ++ b32 big (f.length : Int) ++ f ++ padL f.length ++ b32 big (16 + (f.length : Int) + (t : Int)) := by
            have hT : (16 + (f.length : Int) + (t : Int)) = (((Bk.spb f).blen : Nat) : Int) + 12 := by have := HT.out.1; simp [Bk.blen]; omega
            have hfs3 : pfile big (allB ls ls.length (ps.take (j + 1))) = X0 ++ [Bk.skp].flatMap (Bk.bytes big) ++ Bk.bytes big (Bk.spb f) := hfs
            rw [hfs3]
            simp only [List.flatMap_cons, List.flatMap_nil, List.append_nil]
            rw [← spb_bytes big (X0 ++ Bk.bytes big .skp) f (16 + (f.length : Int) + (t : Int)) hT]
            rw [← skp_bytes]
          have HFS : Hid (pfile big (allB ls ls.length (ps.take (j + 1))) = X0 ++ b32 big 2989 ++ b32 big 16 ++ b32 big 0 ++ b32 big 16 ++ b32 big 3 ++ b32 big (16 + (f.length : Int) + (t : Int)) ++ b32 big (f.length : Int) ++ f ++ padL f.length ++ b32 big (16 + (f.length : Int) + (t : Int))) := hfs2
          clear hfs hfs2
          have HC0 : Hid _ := put32q hM0 big hN 2989 (by omega) (by decide)
          clear hM0
          go_wp2_with fail
          refine Calls.mono HC0.out ?_
          rintro _ w2 ⟨v2, rfl, hM1⟩
          have S30 : w2.cell? ⟨wr.heap.size, 3, none⟩ = some (.slice da f.length dc) := hM1.2.1.cell 3
          have S10 : w2.cell? ⟨wr.heap.size, 1, none⟩ = some (.bool true) := hM1.2.1.cell 1
          have S00 : w2.cell? ⟨wr.heap.size, 0, none⟩ = some (.int .u8 (ifn : Int)) := hM1.2.1.cell 0
          clear HC0
          have HC1 : Hid _ := put32q hM1 big hN 16 (by simp [b32_len]; omega) (by decide)
          clear hM1
          go_wp2_with fail
          refine Calls.mono HC1.out ?_
          rintro _ w3 ⟨v3, rfl, hM2⟩
          have S31 : w3.cell? ⟨wr.heap.size, 3, none⟩ = some (.slice da f.length dc) := hM2.2.1.cell 3
          have S11 : w3.cell? ⟨wr.heap.size, 1, none⟩ = some (.bool true) := hM2.2.1.cell 1
          have S01 : w3.cell? ⟨wr.heap.size, 0, none⟩ = some (.int .u8 (ifn : Int)) := hM2.2.1.cell 0
          clear HC1
          have HC2 : Hid _ := put32q hM2 big hN 0 (by simp [b32_len]; omega) (by decide)
          clear hM2
          go_wp2_with fail
          refine Calls.mono HC2.out ?_
          rintro _ w4 ⟨v4, rfl, hM3⟩
          have S32 : w4.cell? ⟨wr.heap.size, 3, none⟩ = some (.slice da f.length dc) := hM3.2.1.cell 3
          have S12 : w4.cell? ⟨wr.heap.size, 1, none⟩ = some (.bool true) := hM3.2.1.cell 1
          have S02 : w4.cell? ⟨wr.heap.size, 0, none⟩ = some (.int .u8 (ifn : Int)) := hM3.2.1.cell 0
          clear HC2
          have HC3 : Hid _ := put32q hM3 big hN 16 (by simp [b32_len]; omega) (by decide)
          clear hM3
          go_wp2_with fail
          refine Calls.mono HC3.out ?_
          rintro _ w5 ⟨v5, rfl, hM4⟩
          have S33 : w5.cell? ⟨wr.heap.size, 3, none⟩ = some (.slice da f.length dc) := hM4.2.1.cell 3
          have S13 : w5.cell? ⟨wr.heap.size, 1, none⟩ = some (.bool true) := hM4.2.1.cell 1
          have S03 : w5.cell? ⟨wr.heap.size, 0, none⟩ = some (.int .u8 (ifn : Int)) := hM4.2.1.cell 0
          clear HC3
          have HC4 : Hid _ := put32q hM4 big hN 3 (by simp [b32_len]; omega) (by decide)
          clear hM4
          go_wp2_with fail
          refine Calls.mono HC4.out ?_
          rintro _ w6 ⟨v6, rfl, hM5⟩
          have S34 : w6.cell? ⟨wr.heap.size, 3, none⟩ = some (.slice da f.length dc) := hM5.2.1.cell 3
          have S14 : w6.cell? ⟨wr.heap.size, 1, none⟩ = some (.bool true) := hM5.2.1.cell 1
          have S04 : w6.cell? ⟨wr.heap.size, 0, none⟩ = some (.int .u8 (ifn : Int)) := hM5.2.1.cell 0
          clear HC4
          have HC5 : Hid _ := put32q hM5 big hN (16 + (f.length : Int) + (t : Int)) (by simp [b32_len]; omega) (by omega)
          clear hM5
          go_wp2_with fail
          refine Calls.mono HC5.out ?_
          rintro _ w7 ⟨v7, rfl, hM6⟩
          have S35 : w7.cell? ⟨wr.heap.size, 3, none⟩ = some (.slice da f.length dc) := hM6.2.1.cell 3
          have S15 : w7.cell? ⟨wr.heap.size, 1, none⟩ = some (.bool true) := hM6.2.1.cell 1
          have S05 : w7.cell? ⟨wr.heap.size, 0, none⟩ = some (.int .u8 (ifn : Int)) := hM6.2.1.cell 0
          clear HC5
          have HC6 : Hid _ := put32q hM6 big hN (f.length : Int) (by simp [b32_len]; omega) (by omega)
          clear hM6
          go_wp2_with fail
          refine Calls.mono HC6.out ?_
          rintro _ w8 ⟨v8, rfl, hM7⟩
          have S36 : w8.cell? ⟨wr.heap.size, 3, none⟩ = some (.slice da f.length dc) := hM7.2.1.cell 3
          have S16 : w8.cell? ⟨wr.heap.size, 1, none⟩ = some (.bool true) := hM7.2.1.cell 1
          have S06 : w8.cell? ⟨wr.heap.size, 0, none⟩ = some (.int .u8 (ifn : Int)) := hM7.2.1.cell 0
          clear HC6
          obtain ⟨X, hX⟩ : ∃ X, X = X0 ++ b32 big 2989 ++ b32 big 16 ++ b32 big 0 ++ b32 big 16 ++ b32 big 3 ++ b32 big (16 + (f.length : Int) + (t : Int)) ++ b32 big (f.length : Int) := ⟨_, rfl⟩
          have HXE : Hid (X = X0 ++ b32 big 2989 ++ b32 big 16 ++ b32 big 0 ++ b32 big 16 ++ b32 big 3 ++ b32 big (16 + (f.length : Int) + (t : Int)) ++ b32 big (f.length : Int)) := hX
          have hXl : X.length ≤ 3900000 := by rw [hX]; simp [b32_len]; omega
          rw [← hX] at hM7
          obtain ⟨oa6, oc6, rfl⟩ := owns_form hM7.1
          have HM6 : Hid (Mq w w8 N wr.heap.size [.int .u8 (ifn : Int), .bool true, .bool true, .slice da f.length dc] (.slice oa6 X.length oc6) X) := hM7
          have hN6 : N ≤ w8.heap.size := Nat.le_trans hN hM7.2.2.size
          have HXl : Hid (X.length ≤ 3900000) := hXl
          clear hM7 hX hXl
          cases da with
          | none =>
            obtain ⟨a, c, ha, h1, _⟩ := HBS.out.1
            cases ha
            obtain ⟨rfl, rfl⟩ := h1 rfl
            clear h1
            have HP : Hid _ := pad_f (v := .slice oa6 X.length oc6) ⟨HM6.out.1, HM6.out.2.2⟩ hN 0 (by have := HXl.out; omega) (by decide)
            go_wp2_with (at_builtin; refine wpList_append_own_none rfl (.tmp 145) (.tmp 147) 24 rfl N 5 i0 1 Ybaf.underlying24 hi (.slice oa6 X.length oc6) X.length (by8 X) rfl HM6.out.1 rfl ?_)
            refine Calls.mono HP.out ?_
            rintro _ wp ⟨vp, rfl, hp⟩
            have HL : Hid _ := put32f hp big hN (16 + (([] : List Int).length : Int) + (t : Int)) (by have := HXl.out; simp [padL]; omega) (by simp; omega)
            clear hp HP
            go_wp2_with fail
            refine Calls.mono HL.out ?_
            rintro _ wq ⟨vq, rfl, hq2⟩
            have HZ : Hid (Fl wq N vq (pfile big (allB ls ls.length (ps.take (j + 1)))) ∧ Kept (fun k => N ≤ k) w wq) := by
              refine ⟨?_, hq2.2⟩
              have h := hq2.1
              rw [HXE.out] at h
              rw [HFS.out]
              simpa using h
            clear hq2 HL
            go_wp2_with fail
            go_roundg (ps.length + 1 - (j + 1))
            case rel => exact ⟨j + 1, rfl, by omega, by simp, HZ.out.1, HZ.out.2⟩
            case measure => omega
          | some ad =>
            go_wp2_with (at_builtin; refine wpList_append_own _ rfl (.tmp 145) (.tmp 147) 24 rfl N 5 i0 _ 1 1 Ybaf.underlying24 hi hz0 hz1 hz2 rfl (by decide) (.slice oa6 X.length oc6) X.length (by8 X) rfl HM6.out.1 ad f.length dc (by8 f) rfl (by rw [by8_len]; omega) ?c1 (by8_one _) ?c3 ?c4 ?c5 ?_)
            case c1 =>
              obtain ⟨a, c, ha, _, h2⟩ := HBS.out.1.kept HM6.out.2.2
              cases ha
              intro i u hi
              rw [by8, List.getElem?_map, Option.map_eq_some_iff] at hi
              obtain ⟨x, hx, rfl⟩ := hi
              exact (h2 ad rfl i x hx).2
            case c3 => have := HXl.out; unfold maxLen; omega
            case c4 => have := HXl.out; omega
            case c5 => exact hN6
            intro va wa hown hgrow _
            have hfa := Fl.app HM6.out.2.2 HM6.out.1 hown hgrow
            have HP : Hid _ := pad_f hfa hN f.length (by have := HXl.out; simp; omega) (by omega)
            clear hfa hown hgrow
            go_wp2_with fail
            refine Calls.mono HP.out ?_
            rintro _ wp ⟨vp, rfl, hp⟩
            have HL : Hid _ := put32f hp big hN (16 + (f.length : Int) + (t : Int)) (by have := HXl.out; simp [padL]; omega) (by omega)
            clear hp HP
            go_wp2_with fail
            refine Calls.mono HL.out ?_
            rintro _ wq ⟨vq, rfl, hq2⟩
            have HZ : Hid (Fl wq N vq (pfile big (allB ls ls.length (ps.take (j + 1)))) ∧ Kept (fun k => N ≤ k) w wq) := by
              refine ⟨?_, hq2.2⟩
              have h := hq2.1
              rw [HXE.out] at h
              rw [HFS.out]
              exact h
            clear hq2 HL
            go_wp2_with fail
            go_roundg (ps.length + 1 - (j + 1))
            case rel => exact ⟨j + 1, rfl, by omega, by simp, HZ.out.1, HZ.out.2⟩
            case measure => omega
        | false =>
          have hfs2 : pfile big (allB ls ls.length (ps.take (j + 1))) = X0 ++ b32 big 2989 ++ b32 big 16 ++ b32 big 0 ++ b32 big 16 ++ b32 big 6 ++ b32 big (32 + (f.length : Int) + (t : Int)) ++ b32 big (r : Int) ++ b32 big 0 ++ b32 big 0 ++ b32 big (f.length : Int) ++ b32 big ((f.length : Int) + 5) ++ f ++ padL f.length ++ b32 big (32 + (f.length : Int) + (t : Int)) := by
            have hT : (32 + (f.length : Int) + (t : Int)) = (((Bk.epb r f).blen : Nat) : Int) + 12 := by have := HT.out.1; simp [Bk.blen]; omega
            have hfs3 : pfile big (allB ls ls.length (ps.take (j + 1))) = X0 ++ [Bk.skp].flatMap (Bk.bytes big) ++ Bk.bytes big (Bk.epb (ifn % ls.length) f) := hfs
            rw [HT.out.2.symm] at hfs3
            rw [hfs3]
            simp only [List.flatMap_cons, List.flatMap_nil, List.append_nil]
            rw [← epb_bytes big (X0 ++ Bk.bytes big .skp) f r (32 + (f.length : Int) + (t : Int)) hT]
            rw [← skp_bytes]
          have HFS : Hid (pfile big (allB ls ls.length (ps.take (j + 1))) = X0 ++ b32 big 2989 ++ b32 big 16 ++ b32 big 0 ++ b32 big 16 ++ b32 big 6 ++ b32 big (32 + (f.length : Int) + (t : Int)) ++ b32 big (r : Int) ++ b32 big 0 ++ b32 big 0 ++ b32 big (f.length : Int) ++ b32 big ((f.length : Int) + 5) ++ f ++ padL f.length ++ b32 big (32 + (f.length : Int) + (t : Int))) := hfs2
          clear hfs hfs2
          have HC0 : Hid _ := put32q hM0 big hN 2989 (by omega) (by decide)
          clear hM0
          go_wp2_with fail
          refine Calls.mono HC0.out ?_
          rintro _ w2 ⟨v2, rfl, hM1⟩
          have S30 : w2.cell? ⟨wr.heap.size, 3, none⟩ = some (.slice da f.length dc) := hM1.2.1.cell 3
          have S10 : w2.cell? ⟨wr.heap.size, 1, none⟩ = some (.bool false) := hM1.2.1.cell 1
          have S00 : w2.cell? ⟨wr.heap.size, 0, none⟩ = some (.int .u8 (ifn : Int)) := hM1.2.1.cell 0
          clear HC0
          have HC1 : Hid _ := put32q hM1 big hN 16 (by simp [b32_len]; omega) (by decide)
          clear hM1
          go_wp2_with fail
          refine Calls.mono HC1.out ?_
          rintro _ w3 ⟨v3, rfl, hM2⟩
          have S31 : w3.cell? ⟨wr.heap.size, 3, none⟩ = some (.slice da f.length dc) := hM2.2.1.cell 3
          have S11 : w3.cell? ⟨wr.heap.size, 1, none⟩ = some (.bool false) := hM2.2.1.cell 1
          have S01 : w3.cell? ⟨wr.heap.size, 0, none⟩ = some (.int .u8 (ifn : Int)) := hM2.2.1.cell 0
          clear HC1
          have HC2 : Hid _ := put32q hM2 big hN 0 (by simp [b32_len]; omega) (by decide)
          clear hM2
          go_wp2_with fail
          refine Calls.mono HC2.out ?_
          rintro _ w4 ⟨v4, rfl, hM3⟩
          have S32 : w4.cell? ⟨wr.heap.size, 3, none⟩ = some (.slice da f.length dc) := hM3.2.1.cell 3
          have S12 : w4.cell? ⟨wr.heap.size, 1, none⟩ = some (.bool false) := hM3.2.1.cell 1
          have S02 : w4.cell? ⟨wr.heap.size, 0, none⟩ = some (.int .u8 (ifn : Int)) := hM3.2.1.cell 0
          clear HC2
          have HC3 : Hid _ := put32q hM3 big hN 16 (by simp [b32_len]; omega) (by decide)
          clear hM3
          go_wp2_with fail
          refine Calls.mono HC3.out ?_
          rintro _ w5 ⟨v5, rfl, hM4⟩
          have S33 : w5.cell? ⟨wr.heap.size, 3, none⟩ = some (.slice da f.length dc) := hM4.2.1.cell 3
          have S13 : w5.cell? ⟨wr.heap.size, 1, none⟩ = some (.bool false) := hM4.2.1.cell 1
          have S03 : w5.cell? ⟨wr.heap.size, 0, none⟩ = some (.int .u8 (ifn : Int)) := hM4.2.1.cell 0
          clear HC3
          have HC4 : Hid _ := put32q hM4 big hN 6 (by simp [b32_len]; omega) (by decide)
          clear hM4
          go_wp2_with fail
          refine Calls.mono HC4.out ?_
          rintro _ w6 ⟨v6, rfl, hM5⟩
          have S34 : w6.cell? ⟨wr.heap.size, 3, none⟩ = some (.slice da f.length dc) := hM5.2.1.cell 3
          have S14 : w6.cell? ⟨wr.heap.size, 1, none⟩ = some (.bool false) := hM5.2.1.cell 1
          have S04 : w6.cell? ⟨wr.heap.size, 0, none⟩ = some (.int .u8 (ifn : Int)) := hM5.2.1.cell 0
          clear HC4
          have HC5 : Hid _ := put32q hM5 big hN (32 + (f.length : Int) + (t : Int)) (by simp [b32_len]; omega) (by omega)
          clear hM5
          go_wp2_with fail
          refine Calls.mono HC5.out ?_
          rintro _ w7 ⟨v7, rfl, hM6⟩
          have S35 : w7.cell? ⟨wr.heap.size, 3, none⟩ = some (.slice da f.length dc) := hM6.2.1.cell 3
          have S15 : w7.cell? ⟨wr.heap.size, 1, none⟩ = some (.bool false) := hM6.2.1.cell 1
          have S05 : w7.cell? ⟨wr.heap.size, 0, none⟩ = some (.int .u8 (ifn : Int)) := hM6.2.1.cell 0
          clear HC5
          have HC6 : Hid _ := put32q hM6 big hN (r : Int) (by simp [b32_len]; omega) (by omega)
          clear hM6
          go_wp2_with fail
          refine Calls.mono HC6.out ?_
          rintro _ w8 ⟨v8, rfl, hM7⟩
          have S36 : w8.cell? ⟨wr.heap.size, 3, none⟩ = some (.slice da f.length dc) := hM7.2.1.cell 3
          have S16 : w8.cell? ⟨wr.heap.size, 1, none⟩ = some (.bool false) := hM7.2.1.cell 1
          have S06 : w8.cell? ⟨wr.heap.size, 0, none⟩ = some (.int .u8 (ifn : Int)) := hM7.2.1.cell 0
          clear HC6
          have HC7 : Hid _ := put32q hM7 big hN 0 (by simp [b32_len]; omega) (by decide)
          clear hM7
          go_wp2_with fail
          refine Calls.mono HC7.out ?_
          rintro _ w9 ⟨v9, rfl, hM8⟩
          have S37 : w9.cell? ⟨wr.heap.size, 3, none⟩ = some (.slice da f.length dc) := hM8.2.1.cell 3
          have S17 : w9.cell? ⟨wr.heap.size, 1, none⟩ = some (.bool false) := hM8.2.1.cell 1
          have S07 : w9.cell? ⟨wr.heap.size, 0, none⟩ = some (.int .u8 (ifn : Int)) := hM8.2.1.cell 0
          clear HC7
          have HC8 : Hid _ := put32q hM8 big hN 0 (by simp [b32_len]; omega) (by decide)
          clear hM8
          go_wp2_with fail
          refine Calls.mono HC8.out ?_
          rintro _ w10 ⟨v10, rfl, hM9⟩
          have S38 : w10.cell? ⟨wr.heap.size, 3, none⟩ = some (.slice da f.length dc) := hM9.2.1.cell 3
          have S18 : w10.cell? ⟨wr.heap.size, 1, none⟩ = some (.bool false) := hM9.2.1.cell 1
          have S08 : w10.cell? ⟨wr.heap.size, 0, none⟩ = some (.int .u8 (ifn : Int)) := hM9.2.1.cell 0
          clear HC8
          have HC9 : Hid _ := put32q hM9 big hN (f.length : Int) (by simp [b32_len]; omega) (by omega)
          clear hM9
          go_wp2_with fail
          refine Calls.mono HC9.out ?_
          rintro _ w11 ⟨v11, rfl, hM10⟩
          have S39 : w11.cell? ⟨wr.heap.size, 3, none⟩ = some (.slice da f.length dc) := hM10.2.1.cell 3
          have S19 : w11.cell? ⟨wr.heap.size, 1, none⟩ = some (.bool false) := hM10.2.1.cell 1
          have S09 : w11.cell? ⟨wr.heap.size, 0, none⟩ = some (.int .u8 (ifn : Int)) := hM10.2.1.cell 0
          clear HC9
          have HC10 : Hid _ := put32q hM10 big hN ((f.length : Int) + 5) (by simp [b32_len]; omega) (by omega)
          clear hM10
          go_wp2_with fail
          refine Calls.mono HC10.out ?_
          rintro _ w12 ⟨v12, rfl, hM11⟩
          have S310 : w12.cell? ⟨wr.heap.size, 3, none⟩ = some (.slice da f.length dc) := hM11.2.1.cell 3
          have S110 : w12.cell? ⟨wr.heap.size, 1, none⟩ = some (.bool false) := hM11.2.1.cell 1
          have S010 : w12.cell? ⟨wr.heap.size, 0, none⟩ = some (.int .u8 (ifn : Int)) := hM11.2.1.cell 0
          clear HC10
          obtain ⟨X, hX⟩ : ∃ X, X = X0 ++ b32 big 2989 ++ b32 big 16 ++ b32 big 0 ++ b32 big 16 ++ b32 big 6 ++ b32 big (32 + (f.length : Int) + (t : Int)) ++ b32 big (r : Int) ++ b32 big 0 ++ b32 big 0 ++ b32 big (f.length : Int) ++ b32 big ((f.length : Int) + 5) := ⟨_, rfl⟩
          have HXE : Hid (X = X0 ++ b32 big 2989 ++ b32 big 16 ++ b32 big 0 ++ b32 big 16 ++ b32 big 6 ++ b32 big (32 + (f.length : Int) + (t : Int)) ++ b32 big (r : Int) ++ b32 big 0 ++ b32 big 0 ++ b32 big (f.length : Int) ++ b32 big ((f.length : Int) + 5)) := hX
          have hXl : X.length ≤ 3900000 := by rw [hX]; simp [b32_len]; omega
          rw [← hX] at hM11
          obtain ⟨oa6, oc6, rfl⟩ := owns_form hM11.1
          have HM6 : Hid (Mq w w12 N wr.heap.size [.int .u8 (ifn : Int), .bool false, .bool true, .slice da f.length dc] (.slice oa6 X.length oc6) X) := hM11
          have hN6 : N ≤ w12.heap.size := Nat.le_trans hN hM11.2.2.size
          have HXl : Hid (X.length ≤ 3900000) := hXl
          clear hM11 hX hXl
          cases da with
          | none =>
            obtain ⟨a, c, ha, h1, _⟩ := HBS.out.1
            cases ha
            obtain ⟨rfl, rfl⟩ := h1 rfl
            clear h1
            have HP : Hid _ := pad_f (v := .slice oa6 X.length oc6) ⟨HM6.out.1, HM6.out.2.2⟩ hN 0 (by have := HXl.out; omega) (by decide)
            go_wp2_with (at_builtin; refine wpList_append_own_none rfl (.tmp 195) (.tmp 197) 24 rfl N 5 i0 1 Ybaf.underlying24 hi (.slice oa6 X.length oc6) X.length (by8 X) rfl HM6.out.1 rfl ?_)
            refine Calls.mono HP.out ?_
            rintro _ wp ⟨vp, rfl, hp⟩
            have HL : Hid _ := put32f hp big hN (32 + (([] : List Int).length : Int) + (t : Int)) (by have := HXl.out; simp [padL]; omega) (by simp; omega)
            clear hp HP
            go_wp2_with fail
            refine Calls.mono HL.out ?_
            rintro _ wq ⟨vq, rfl, hq2⟩
            have HZ : Hid (Fl wq N vq (pfile big (allB ls ls.length (ps.take (j + 1)))) ∧ Kept (fun k => N ≤ k) w wq) := by
              refine ⟨?_, hq2.2⟩
              have h := hq2.1
              rw [HXE.out] at h
              rw [HFS.out]
              simpa using h
            clear hq2 HL
            go_wp2_with fail
            go_roundg (ps.length + 1 - (j + 1))
            case rel => exact ⟨j + 1, rfl, by omega, by simp, HZ.out.1, HZ.out.2⟩
            case measure => omega
          | some ad =>
            go_wp2_with (at_builtin; refine wpList_append_own _ rfl (.tmp 195) (.tmp 197) 24 rfl N 5 i0 _ 1 1 Ybaf.underlying24 hi hz0 hz1 hz2 rfl (by decide) (.slice oa6 X.length oc6) X.length (by8 X) rfl HM6.out.1 ad f.length dc (by8 f) rfl (by rw [by8_len]; omega) ?c1 (by8_one _) ?c3 ?c4 ?c5 ?_)
            case c1 =>
              obtain ⟨a, c, ha, _, h2⟩ := HBS.out.1.kept HM6.out.2.2
              cases ha
              intro i u hi
              rw [by8, List.getElem?_map, Option.map_eq_some_iff] at hi
              obtain ⟨x, hx, rfl⟩ := hi
              exact (h2 ad rfl i x hx).2
            case c3 => have := HXl.out; unfold maxLen; omega
            case c4 => have := HXl.out; omega
            case c5 => exact hN6
            intro va wa hown hgrow _
            have hfa := Fl.app HM6.out.2.2 HM6.out.1 hown hgrow
            have HP : Hid _ := pad_f hfa hN f.length (by have := HXl.out; simp; omega) (by omega)
            clear hfa hown hgrow
            go_wp2_with fail
            refine Calls.mono HP.out ?_
            rintro _ wp ⟨vp, rfl, hp⟩
            have HL : Hid _ := put32f hp big hN (32 + (f.length : Int) + (t : Int)) (by have := HXl.out; simp [padL]; omega) (by omega)
            clear hp HP
            go_wp2_with fail
            refine Calls.mono HL.out ?_
            rintro _ wq ⟨vq, rfl, hq2⟩
            have HZ : Hid (Fl wq N vq (pfile big (allB ls ls.length (ps.take (j + 1)))) ∧ Kept (fun k => N ≤ k) w wq) := by
              refine ⟨?_, hq2.2⟩
              have h := hq2.1
              rw [HXE.out] at h
              rw [HFS.out]
              exact h
            clear hq2 HL
            go_wp2_with fail
            go_roundg (ps.length + 1 - (j + 1))
            case rel => exact ⟨j + 1, rfl, by omega, by simp, HZ.out.1, HZ.out.2⟩
            case measure => omega
      | false =>
        cases sm with
        | true =>
          have hfs2 : pfile big (allB ls ls.length (ps.take (j + 1))) = X0 ++ b32 big 3 ++ b32 big (16 + (f.length : Int) + (t : Int)) ++ b32 big (f.length : Int) ++ f ++ padL f.length ++ b32 big (16 + (f.length : Int) + (t : Int)) := by
            have hT : (16 + (f.length : Int) + (t : Int)) = (((Bk.spb f).blen : Nat) : Int) + 12 := by have := HT.out.1; simp [Bk.blen]; omega
            have hfs3 : pfile big (allB ls ls.length (ps.take (j + 1))) = X0 ++ [].flatMap (Bk.bytes big) ++ Bk.bytes big (Bk.spb f) := hfs
            rw [hfs3]
            simp only [List.flatMap_nil, List.append_nil]
            rw [← spb_bytes big (X0) f (16 + (f.length : Int) + (t : Int)) hT]
          have HFS : Hid (pfile big (allB ls ls.length (ps.take (j + 1))) = X0 ++ b32 big 3 ++ b32 big (16 + (f.length : Int) + (t : Int)) ++ b32 big (f.length : Int) ++ f ++ padL f.length ++ b32 big (16 + (f.length : Int) + (t : Int))) := hfs2
          clear hfs hfs2
          have HC0 : Hid _ := put32q hM0 big hN 3 (by omega) (by decide)
          clear hM0
          go_wp2_with fail
          refine Calls.mono HC0.out ?_
          rintro _ w2 ⟨v2, rfl, hM1⟩
          have S30 : w2.cell? ⟨wr.heap.size, 3, none⟩ = some (.slice da f.length dc) := hM1.2.1.cell 3
          have S10 : w2.cell? ⟨wr.heap.size, 1, none⟩ = some (.bool true) := hM1.2.1.cell 1
          have S00 : w2.cell? ⟨wr.heap.size, 0, none⟩ = some (.int .u8 (ifn : Int)) := hM1.2.1.cell 0
          clear HC0
          have HC1 : Hid _ := put32q hM1 big hN (16 + (f.length : Int) + (t : Int)) (by simp [b32_len]; omega) (by omega)
          clear hM1
          go_wp2_with fail
          refine Calls.mono HC1.out ?_
          rintro _ w3 ⟨v3, rfl, hM2⟩
          have S31 : w3.cell? ⟨wr.heap.size, 3, none⟩ = some (.slice da f.length dc) := hM2.2.1.cell 3
          have S11 : w3.cell? ⟨wr.heap.size, 1, none⟩ = some (.bool true) := hM2.2.1.cell 1
          have S01 : w3.cell? ⟨wr.heap.size, 0, none⟩ = some (.int .u8 (ifn : Int)) := hM2.2.1.cell 0
          clear HC1
          have HC2 : Hid _ := put32q hM2 big hN (f.length : Int) (by simp [b32_len]; omega) (by omega)
          clear hM2
          go_wp2_with fail
          refine Calls.mono HC2.out ?_
          rintro _ w4 ⟨v4, rfl, hM3⟩
          have S32 : w4.cell? ⟨wr.heap.size, 3, none⟩ = some (.slice da f.length dc) := hM3.2.1.cell 3
          have S12 : w4.cell? ⟨wr.heap.size, 1, none⟩ = some (.bool true) := hM3.2.1.cell 1
          have S02 : w4.cell? ⟨wr.heap.size, 0, none⟩ = some (.int .u8 (ifn : Int)) := hM3.2.1.cell 0
          clear HC2
          obtain ⟨X, hX⟩ : ∃ X, X = X0 ++ b32 big 3 ++ b32 big (16 + (f.length : Int) + (t : Int)) ++ b32 big (f.length : Int) := ⟨_, rfl⟩
          have HXE : Hid (X = X0 ++ b32 big 3 ++ b32 big (16 + (f.length : Int) + (t : Int)) ++ b32 big (f.length : Int)) := hX
          have hXl : X.length ≤ 3900000 := by rw [hX]; simp [b32_len]; omega
          rw [← hX] at hM3
          obtain ⟨oa6, oc6, rfl⟩ := owns_form hM3.1
          have HM6 : Hid (Mq w w4 N wr.heap.size [.int .u8 (ifn : Int), .bool true, .bool false, .slice da f.length dc] (.slice oa6 X.length oc6) X) := hM3
          have hN6 : N ≤ w4.heap.size := Nat.le_trans hN hM3.2.2.size
          have HXl : Hid (X.length ≤ 3900000) := hXl
          clear hM3 hX hXl
          cases da with
          | none =>
            obtain ⟨a, c, ha, h1, _⟩ := HBS.out.1
            cases ha
            obtain ⟨rfl, rfl⟩ := h1 rfl
            clear h1
            have HP : Hid _ := pad_f (v := .slice oa6 X.length oc6) ⟨HM6.out.1, HM6.out.2.2⟩ hN 0 (by have := HXl.out; omega) (by decide)
            go_wp2_with (at_builtin; refine wpList_append_own_none rfl (.tmp 145) (.tmp 147) 24 rfl N 5 i0 1 Ybaf.underlying24 hi (.slice oa6 X.length oc6) X.length (by8 X) rfl HM6.out.1 rfl ?_)
            refine Calls.mono HP.out ?_
            rintro _ wp ⟨vp, rfl, hp⟩
            have HL : Hid _ := put32f hp big hN (16 + (([] : List Int).length : Int) + (t : Int)) (by have := HXl.out; simp [padL]; omega) (by simp; omega)
            clear hp HP
            go_wp2_with fail
            refine Calls.mono HL.out ?_
            rintro _ wq ⟨vq, rfl, hq2⟩
            have HZ : Hid (Fl wq N vq (pfile big (allB ls ls.length (ps.take (j + 1)))) ∧ Kept (fun k => N ≤ k) w wq) := by
              refine ⟨?_, hq2.2⟩
              have h := hq2.1
              rw [HXE.out] at h
              rw [HFS.out]
              simpa using h
            clear hq2 HL
            go_wp2_with fail
            go_roundg (ps.length + 1 - (j + 1))
            case rel => exact ⟨j + 1, rfl, by omega, by simp, HZ.out.1, HZ.out.2⟩
            case measure => omega
          | some ad =>
            go_wp2_with (at_builtin; refine wpList_append_own _ rfl (.tmp 145) (.tmp 147) 24 rfl N 5 i0 _ 1 1 Ybaf.underlying24 hi hz0 hz1 hz2 rfl (by decide) (.slice oa6 X.length oc6) X.length (by8 X) rfl HM6.out.1 ad f.length dc (by8 f) rfl (by rw [by8_len]; omega) ?c1 (by8_one _) ?c3 ?c4 ?c5 ?_)
            case c1 =>
              obtain ⟨a, c, ha, _, h2⟩ := HBS.out.1.kept HM6.out.2.2
              cases ha
              intro i u hi
              rw [by8, List.getElem?_map, Option.map_eq_some_iff] at hi
              obtain ⟨x, hx, rfl⟩ := hi
              exact (h2 ad rfl i x hx).2
            case c3 => have := HXl.out; unfold maxLen; omega
            case c4 => have := HXl.out; omega
            case c5 => exact hN6
            intro va wa hown hgrow _
            have hfa := Fl.app HM6.out.2.2 HM6.out.1 hown hgrow
            have HP : Hid _ := pad_f hfa hN f.length (by have := HXl.out; simp; omega) (by omega)
            clear hfa hown hgrow
            go_wp2_with fail
            refine Calls.mono HP.out ?_
            rintro _ wp ⟨vp, rfl, hp⟩
            have HL : Hid _ := put32f hp big hN (16 + (f.length : Int) + (t : Int)) (by have := HXl.out; simp [padL]; omega) (by omega)
            clear hp HP
            go_wp2_with fail
            refine Calls.mono HL.out ?_
            rintro _ wq ⟨vq, rfl, hq2⟩
            have HZ : Hid (Fl wq N vq (pfile big (allB ls ls.length (ps.take (j + 1)))) ∧ Kept (fun k => N ≤ k) w wq) := by
              refine ⟨?_, hq2.2⟩
              have h := hq2.1
              rw [HXE.out] at h
              rw [HFS.out]
              exact h
            clear hq2 HL
            go_wp2_with fail
            go_roundg (ps.length + 1 - (j + 1))
            case rel => exact ⟨j + 1, rfl, by omega, by simp, HZ.out.1, HZ.out.2⟩
            case measure => omega
        | false =>
          have hfs2 : pfile big (allB ls ls.length (ps.take (j + 1))) = X0 ++ b32 big 6 ++ b32 big (32 + (f.length : Int) + (t : Int)) ++ b32 big (r : Int) ++ b32 big 0 ++ b32 big 0 ++ b32 big (f.length : Int) ++ b32 big ((f.length : Int) + 5) ++ f ++ padL f.length ++ b32 big (32 + (f.length : Int) + (t : Int)) := by
            have hT : (32 + (f.length : Int) + (t : Int)) = (((Bk.epb r f).blen : Nat) : Int) + 12 := by have := HT.out.1; simp [Bk.blen]; omega
            have hfs3 : pfile big (allB ls ls.length (ps.take (j + 1))) = X0 ++ [].flatMap (Bk.bytes big) ++ Bk.bytes big (Bk.epb (ifn % ls.length) f) := hfs
            rw [HT.out.2.symm] at hfs3
            rw [hfs3]
            simp only [List.flatMap_nil, List.append_nil]
            rw [← epb_bytes big (X0) f r (32 + (f.length : Int) + (t : Int)) hT]
          have HFS : Hid (pfile big (allB ls ls.length (ps.take (j + 1))) = X0 ++ b32 big 6 ++ b32 big (32 + (f.length : Int) + (t : Int)) ++ b32 big (r : Int) ++ b32 big 0 ++ b32 big 0 ++ b32 big (f.length : Int) ++ b32 big ((f.length : Int) + 5) ++ f ++ padL f.length ++ b32 big (32 + (f.length : Int) + (t : Int))) := hfs2
          clear hfs hfs2
          have HC0 : Hid _ := put32q hM0 big hN 6 (by omega) (by decide)
          clear hM0
          go_wp2_with fail
          refine Calls.mono HC0.out ?_
          rintro _ w2 ⟨v2, rfl, hM1⟩
          have S30 : w2.cell? ⟨wr.heap.size, 3, none⟩ = some (.slice da f.length dc) := hM1.2.1.cell 3
          have S10 : w2.cell? ⟨wr.heap.size, 1, none⟩ = some (.bool false) := hM1.2.1.cell 1
          have S00 : w2.cell? ⟨wr.heap.size, 0, none⟩ = some (.int .u8 (ifn : Int)) := hM1.2.1.cell 0
          clear HC0
          have HC1 : Hid _ := put32q hM1 big hN (32 + (f.length : Int) + (t : Int)) (by simp [b32_len]; omega) (by omega)
          clear hM1
          go_wp2_with fail
          refine Calls.mono HC1.out ?_
          rintro _ w3 ⟨v3, rfl, hM2⟩
          have S31 : w3.cell? ⟨wr.heap.size, 3, none⟩ = some (.slice da f.length dc) := hM2.2.1.cell 3
          have S11 : w3.cell? ⟨wr.heap.size, 1, none⟩ = some (.bool false) := hM2.2.1.cell 1
          have S01 : w3.cell? ⟨wr.heap.size, 0, none⟩ = some (.int .u8 (ifn : Int)) := hM2.2.1.cell 0
          clear HC1
          have HC2 : Hid _ := put32q hM2 big hN (r : Int) (by simp [b32_len]; omega) (by omega)
          clear hM2
          go_wp2_with fail
          refine Calls.mono HC2.out ?_
          rintro _ w4 ⟨v4, rfl, hM3⟩
          have S32 : w4.cell? ⟨wr.heap.size, 3, none⟩ = some (.slice da f.length dc) := hM3.2.1.cell 3
          have S12 : w4.cell? ⟨wr.heap.size, 1, none⟩ = some (.bool false) := hM3.2.1.cell 1
          have S02 : w4.cell? ⟨wr.heap.size, 0, none⟩ = some (.int .u8 (ifn : Int)) := hM3.2.1.cell 0
          clear HC2
          have HC3 : Hid _ := put32q hM3 big hN 0 (by simp [b32_len]; omega) (by decide)
          clear hM3
          go_wp2_with fail
          refine Calls.mono HC3.out ?_
          rintro _ w5 ⟨v5, rfl, hM4⟩
          have S33 : w5.cell? ⟨wr.heap.size, 3, none⟩ = some (.slice da f.length dc) := hM4.2.1.cell 3
          have S13 : w5.cell? ⟨wr.heap.size, 1, none⟩ = some (.bool false) := hM4.2.1.cell 1
          have S03 : w5.cell? ⟨wr.heap.size, 0, none⟩ = some (.int .u8 (ifn : Int)) := hM4.2.1.cell 0
          clear HC3
          have HC4 : Hid _ := put32q hM4 big hN 0 (by simp [b32_len]; omega) (by decide)
          clear hM4
          go_wp2_with fail
          refine Calls.mono HC4.out ?_
          rintro _ w6 ⟨v6, rfl, hM5⟩
          have S34 : w6.cell? ⟨wr.heap.size, 3, none⟩ = some (.slice da f.length dc) := hM5.2.1.cell 3
          have S14 : w6.cell? ⟨wr.heap.size, 1, none⟩ = some (.bool false) := hM5.2.1.cell 1
          have S04 : w6.cell? ⟨wr.heap.size, 0, none⟩ = some (.int .u8 (ifn : Int)) := hM5.2.1.cell 0
          clear HC4
          have HC5 : Hid _ := put32q hM5 big hN (f.length : Int) (by simp [b32_len]; omega) (by omega)
          clear hM5
          go_wp2_with fail
          refine Calls.mono HC5.out ?_
          rintro _ w7 ⟨v7, rfl, hM6⟩
          have S35 : w7.cell? ⟨wr.heap.size, 3, none⟩ = some (.slice da f.length dc) := hM6.2.1.cell 3
          have S15 : w7.cell? ⟨wr.heap.size, 1, none⟩ = some (.bool false) := hM6.2.1.cell 1
          have S05 : w7.cell? ⟨wr.heap.size, 0, none⟩ = some (.int .u8 (ifn : Int)) := hM6.2.1.cell 0
          clear HC5
          have HC6 : Hid _ := put32q hM6 big hN ((f.length : Int) + 5) (by simp [b32_len]; omega) (by omega)
          clear hM6
          go_wp2_with fail
          refine Calls.mono HC6.out ?_
          rintro _ w8 ⟨v8, rfl, hM7⟩
          have S36 : w8.cell? ⟨wr.heap.size, 3, none⟩ = some (.slice da f.length dc) := hM7.2.1.cell 3
          have S16 : w8.cell? ⟨wr.heap.size, 1, none⟩ = some (.bool false) := hM7.2.1.cell 1
          have S06 : w8.cell? ⟨wr.heap.size, 0, none⟩ = some (.int .u8 (ifn : Int)) := hM7.2.1.cell 0
          clear HC6
          obtain ⟨X, hX⟩ : ∃ X, X = X0 ++ b32 big 6 ++ b32 big (32 + (f.length : Int) + (t : Int)) ++ b32 big (r : Int) ++ b32 big 0 ++ b32 big 0 ++ b32 big (f.length : Int) ++ b32 big ((f.length : Int) + 5) := ⟨_, rfl⟩
          have HXE : Hid (X = X0 ++ b32 big 6 ++ b32 big (32 + (f.length : Int) + (t : Int)) ++ b32 big (r : Int) ++ b32 big 0 ++ b32 big 0 ++ b32 big (f.length : Int) ++ b32 big ((f.length : Int) + 5)) := hX
          have hXl : X.length ≤ 3900000 := by rw [hX]; simp [b32_len]; omega
          rw [← hX] at hM7
          obtain ⟨oa6, oc6, rfl⟩ := owns_form hM7.1
          have HM6 : Hid (Mq w w8 N wr.heap.size [.int .u8 (ifn : Int), .bool false, .bool false, .slice da f.length dc] (.slice oa6 X.length oc6) X) := hM7
          have hN6 : N ≤ w8.heap.size := Nat.le_trans hN hM7.2.2.size
          have HXl : Hid (X.length ≤ 3900000) := hXl
          clear hM7 hX hXl
          cases da with
          | none =>
            obtain ⟨a, c, ha, h1, _⟩ := HBS.out.1
            cases ha
            obtain ⟨rfl, rfl⟩ := h1 rfl
            clear h1
            have HP : Hid _ := pad_f (v := .slice oa6 X.length oc6) ⟨HM6.out.1, HM6.out.2.2⟩ hN 0 (by have := HXl.out; omega) (by decide)
            go_wp2_with (at_builtin; refine wpList_append_own_none rfl (.tmp 195) (.tmp 197) 24 rfl N 5 i0 1 Ybaf.underlying24 hi (.slice oa6 X.length oc6) X.length (by8 X) rfl HM6.out.1 rfl ?_)
            refine Calls.mono HP.out ?_
            rintro _ wp ⟨vp, rfl, hp⟩
            have HL : Hid _ := put32f hp big hN (32 + (([] : List Int).length : Int) + (t : Int)) (by have := HXl.out; simp [padL]; omega) (by simp; omega)
            clear hp HP
            go_wp2_with fail
            refine Calls.mono HL.out ?_
            rintro _ wq ⟨vq, rfl, hq2⟩
            have HZ : Hid (Fl wq N vq (pfile big (allB ls ls.length (ps.take (j + 1)))) ∧ Kept (fun k => N ≤ k) w wq) := by
              refine ⟨?_, hq2.2⟩
              have h := hq2.1
              rw [HXE.out] at h
              rw [HFS.out]
              simpa using h
            clear hq2 HL
            go_wp2_with fail
            go_roundg (ps.length + 1 - (j + 1))
            case rel => exact ⟨j + 1, rfl, by omega, by simp, HZ.out.1, HZ.out.2⟩
            case measure => omega
          | some ad =>
            go_wp2_with (at_builtin; refine wpList_append_own _ rfl (.tmp 195) (.tmp 197) 24 rfl N 5 i0 _ 1 1 Ybaf.underlying24 hi hz0 hz1 hz2 rfl (by decide) (.slice oa6 X.length oc6) X.length (by8 X) rfl HM6.out.1 ad f.length dc (by8 f) rfl (by rw [by8_len]; omega) ?c1 (by8_one _) ?c3 ?c4 ?c5 ?_)
            case c1 =>
              obtain ⟨a, c, ha, _, h2⟩ := HBS.out.1.kept HM6.out.2.2
              cases ha
              intro i u hi
              rw [by8, List.getElem?_map, Option.map_eq_some_iff] at hi
              obtain ⟨x, hx, rfl⟩ := hi
              exact (h2 ad rfl i x hx).2
            case c3 => have := HXl.out; unfold maxLen; omega
            case c4 => have := HXl.out; omega
            case c5 => exact hN6
            intro va wa hown hgrow _
            have hfa := Fl.app HM6.out.2.2 HM6.out.1 hown hgrow
            have HP : Hid _ := pad_f hfa hN f.length (by have := HXl.out; simp; omega) (by omega)
            clear hfa hown hgrow
            go_wp2_with fail
            refine Calls.mono HP.out ?_
            rintro _ wp ⟨vp, rfl, hp⟩
            have HL : Hid _ := put32f hp big hN (32 + (f.length : Int) + (t : Int)) (by have := HXl.out; simp [padL]; omega) (by omega)
            clear hp HP
            go_wp2_with fail
            refine Calls.mono HL.out ?_
            rintro _ wq ⟨vq, rfl, hq2⟩
            have HZ : Hid (Fl wq N vq (pfile big (allB ls ls.length (ps.take (j + 1)))) ∧ Kept (fun k => N ≤ k) w wq) := by
              refine ⟨?_, hq2.2⟩
              have h := hq2.1
              rw [HXE.out] at h
              rw [HFS.out]
              exact h
            clear hq2 HL
            go_wp2_with fail
            go_roundg (ps.length + 1 - (j + 1))
            case rel => exact ⟨j + 1, rfl, by omega, by simp, HZ.out.1, HZ.out.2⟩
            case measure => omega
    · have hje : j = ps.length := by omega
      subst hje
      rw [List.take_length] at hFl
      obtain ⟨oaF, ocF, rfl⟩ := owns_form hFl
      have HFl : Hid (Fl wr N (.slice oaF (pfile big (allB ls ls.length ps)).length ocF) (pfile big (allB ls ls.length ps)) ∧ Kept (fun k => N ≤ k) w wr) := ⟨hFl, hK⟩
      clear hFl hK
      go_wp2_with fail
      refine HK1.out _ _ ?_
      have hK := HFl.out.2
      exact pl_d R N lb lo lc pc pa _ big ls ps ae au wr HQ.out.1 HFl.out.1 (Nat.le_trans hN hK.size) h10 (HQ.out.2.1.kept hK) (HQ.out.2.2.1.kept hK) (hK.cell HQ.out.2.2.2.1 (by omega)) (hK.cell HQ.out.2.2.2.2 (by omega)) (fun w' hk' => HR.out w' (hK.trans hk'))
end Go.Proofs.YbulkbgsmFmt
