import Derived.Test.YbulkbgsmFmtNa
import Derived.Test.YbulkbgsmFmtRi
import Derived.Test.YbulkbgsmFmtRj
import Derived.Test.YbulkbgsmFmtPf
import Derived.Test.YbulkbgsmFmtSf
import Derived.Test.YbulkbgsmFmtRe
import Derived.Deep.LoopGhost
namespace Go.Proofs.YbulkbgsmFmt
open Go.RowKit
attribute [local go_sem] eq_same eq_nil

theorem ri_ok {u1 u2 u3 u4 u5 u7 u8 u9 u10 u11 u12 u13 u14 u15 u16 u17 u18 u19 u20 u21 u22 u23 u24 u25 u26 u27 u28 u29 u30 u31 u32 u33 u34 u35 u36 u37 u38 u39 u40 u41 u42 u43 u44 u45 u46 u47 u48 u49 u50 u51 u52 u53 u54 u55 u56 u57 u58 u59 u60 u61 u62 u63 u64 u65 u66 u67 u68 u69 u70 u71 u72 u73 u74 u75 u76 u77 u78 u79 u80 u81 u82 u83 u84 u85 : Value} (big : Bool) (Z : Exit → Act → World → Prop) (Q P c : Nat) (oa : Option Addr) (k oc : Nat) (xs : List Value) (l : Int) (x0 x1 : Int) (w : World) (q2 : w.cell? ⟨Q, 2, none⟩ = some (bo big)) (q7 : w.cell? ⟨Q, 7, none⟩ = some (.slice oa k oc)) (f7 : w.frozen? ⟨Q, 7, none⟩ = false) (base : Nat) (hbase : base ≤ w.heap.size) (hO : w.ownsRow base 89 2 (.slice oa k oc) k xs) (hk : k ≤ 1000000) (hc : 8 ≤ c)
    (nQ : ¬ (Value.slice oa k oc).ownBlock = some Q) (c0 : w.cell? ⟨P, 8, none⟩ = some (.int .u8 x0)) (c1 : w.cell? ⟨P, 9, none⟩ = some (.int .u8 x1)) (h0 : 0 ≤ x0 ∧ x0 ≤ 255) (h1 : 0 ≤ x1 ∧ x1 ≤ 255) (hl : u16f big x0 x1 = l) (hl2 : 0 ≤ l ∧ l ≤ 65535) (c4 : w.cell? ⟨P, 12, none⟩ = some (.int .u8 0)) (c5 : w.cell? ⟨P, 13, none⟩ = some (.int .u8 0)) (c6 : w.cell? ⟨P, 14, none⟩ = some (.int .u8 0)) (c7 : w.cell? ⟨P, 15, none⟩ = some (.int .u8 0))
    (HZ : Hid (∀ (v39 v40 v41 v42 v43 v44 v45 v46 v47 v48 v49 v50 v51 v52 v53 v54 v55 v56 v57 v58 v59 v60 v61 v62 v63 v64 v65 v66 v67 : Value) (g cg : Nat) (w3 : World), Kept (fun j => (Value.slice oa k oc).ownBlock = some j) w w3 → w3.ownsRow base 89 2 (.slice (some ⟨g, 0, none⟩) (k + 1) cg) (k + 1) (xs ++ [.int .i64 l, .int .u32 0]) → Z .normal ⟨#[.pointer (some ⟨Q, 0, none⟩), u1, u2, u3, u4, u5, .slice (some ⟨P, 8, none⟩) 8 c, u7, u8, u9, u10, u11, u12, u13, u14, u15, u16, u17, u18, u19, u20, u21, u22, u23, u24, u25, u26, u27, u28, u29, u30, u31, u32, u33, u34, u35, u36, u37, u38, v39, v40, v41, v42, v43, v44, v45, v46, v47, v48, v49, v50, v51, v52, v53, v54, v55, v56, v57, v58, v59, v60, v61, v62, v63, v64, v65, v66, v67, u68, u69, u70, u71, u72, u73, u74, u75, u76, u77, u78, u79, u80, u81, u82, u83, u84, u85], []⟩ (w3.setCell ⟨Q, 7, none⟩ (.slice (some ⟨g, 0, none⟩) (k + 1) cg)))) :
    Code.wp Ybaf.prog ((Ybaf.f22.body.bind (regOf 12)).getD .skip) Z ⟨#[.pointer (some ⟨Q, 0, none⟩), u1, u2, u3, u4, u5, .slice (some ⟨P, 8, none⟩) 8 c, u7, u8, u9, u10, u11, u12, u13, u14, u15, u16, u17, u18, u19, u20, u21, u22, u23, u24, u25, u26, u27, u28, u29, u30, u31, u32, u33, u34, u35, u36, u37, u38, u39, u40, u41, u42, u43, u44, u45, u46, u47, u48, u49, u50, u51, u52, u53, u54, u55, u56, u57, u58, u59, u60, u61, u62, u63, u64, u65, u66, u67, u68, u69, u70, u71, u72, u73, u74, u75, u76, u77, u78, u79, u80, u81, u82, u83, u84, u85], []⟩ w := by
  cases big with
  | true => exact ri_big Z Q P c oa k oc xs l x0 x1 w q2 q7 f7 base hbase hO hk hc nQ c0 c1 h0 h1 hl hl2 c4 c5 c6 c7 HZ
  | false => exact ri_little Z Q P c oa k oc xs l x0 x1 w q2 q7 f7 base hbase hO hk hc nQ c0 c1 h0 h1 hl hl2 c4 c5 c6 c7 HZ

set_option maxHeartbeats 2000000 in
set_option maxRecDepth 100000 in
/-- nextBlockFrame. -/
theorem nbf_eof (M : Nat) (X : Nat → Prop) (Q B Y U D cap : Nat) (big : Bool) (bs : List Bk) (k0 k1 : Nat) (fr : Int) (ae au : Addr) (w : World) (oa0 : Option Addr) (oc0 : Nat) (hN0 : Nst w M X Q B Y U D cap big bs k0 fr (.slice oa0 (lnk bs k0).length oc0)) (hX0 : ∀ k, X k → ∃ e xs, Row w k e xs ∧ e ≠ 89) (hMw : M ≤ w.heap.size) (hE : w.cell? ⟨0, 0, none⟩ = some (.iface 96 (.pointer (some ae)))) (hX : w.cell? ⟨8, 0, none⟩ = some (.iface 96 (.pointer (some au)))) (hok : ∀ b ∈ bs, b.ok) (hbl : bs.length ≤ 100000) (hk01 : k0 ≤ k1) (hkl : k1 ≤ bs.length)
    (hpre : ∀ k (h : k < bs.length), k0 ≤ k → k < k1 → (∃ l, bs[k] = .ifc l) ∨ bs[k] = .skp) (hfin : k1 = bs.length) :
    Calls Ybaf.prog 22 #[.pointer (some ⟨Q, 0, none⟩)] w fun e w' => ∃ (oa : Option Addr) (oc : Nat), e = .returned (.tuple #[.int .i64 0, .slice none 0 0, .iface 96 (.pointer (some ae))]) ∧ Nst w' M X Q B Y U D cap big bs k1 fr (.slice oa (lnk bs k1).length oc) ∧ Kept (fun j => M ≤ j ∧ ¬ X j) w w' := by
  have HL0 : Hid (Lq w w M X Q B Y U D cap big bs k0 fr) := ⟨oa0, oc0, hN0, Kept.refl _ _⟩
  have HX0 : Hid (∀ k, X k → ∃ e xs, Row w k e xs ∧ e ≠ 89) := hX0
  have HE : Hid (w.cell? ⟨0, 0, none⟩ = some (.iface 96 (.pointer (some ae))) ∧ w.cell? ⟨8, 0, none⟩ = some (.iface 96 (.pointer (some au)))) := ⟨hE, hX⟩
  have HOK : Hid (∀ b ∈ bs, b.ok) := hok
  have HPRE : Hid (∀ k (h : k < bs.length), k0 ≤ k → k < k1 → (∃ l, bs[k] = .ifc l) ∨ bs[k] = .skp) := hpre
  have HBY : Hid (∀ x ∈ pfile big bs, 0 ≤ x ∧ x ≤ 255) := pfile_in big bs hok
  have h10 := hN0.2.2.2
  clear hN0 hX0 hE hX hok hpre
  go_enter Ybaf.func22, Ybaf.ntmps22
  go_wp2_with fail
  go_loopg [5] (k1 + 1 - k0) (fun gk s5 wr => ∃ k : Nat, gk = k1 + 1 - k ∧ k0 ≤ k ∧ k ≤ k1 ∧ Lq w wr M X Q B Y U D cap big bs k fr)
  case atStart => exact ⟨k0, rfl, Nat.le_refl _, hk01, HL0.out⟩
  case round =>
    obtain ⟨k, rfl, hkA, hkB, oa, oc, hN, hK⟩ := hrel
    clear HL0
    have hE1 := hK.cell HE.out.1 (fun h => absurd h.1 (by omega))
    have hE8 := hK.cell HE.out.2 (fun h => absurd h.1 (by omega))
    have hX2 : ∀ j, (Value.slice oa (lnk bs k).length oc).ownBlock = some j → ¬ X j := by
      intro j hj hx
      obtain ⟨e, xs, hr, hne⟩ := HX0.out j hx
      obtain ⟨ys, hy⟩ := own_row hN.2.1 hj
      exact (hr.kept hK (fun h => h.2 hx)).same hy hne rfl
    have hRB : ∀ hk : k < bs.length, Calls Ybaf.prog 29 #[.pointer (some ⟨Q, 0, none⟩)] wr (Rd1 big (VV M X (.slice oa (lnk bs k).length oc)) Q B Y U D cap (pfile big bs) (pos big bs k) bs[k] fr (.slice oa (lnk bs k).length oc) wr) := fun hk => rbp big (VV M X (.slice oa (lnk bs k).length oc)) Q B Y U D cap (pfile big bs) (pos big bs k) bs[k] fr (.slice oa (lnk bs k).length oc) ae au wr hN.1 hE1 hE8 HBY.out (HOK.out _ (List.getElem_mem hk)) (pos_le big bs k hk) (blk_at big bs k hk)
    by_cases hkn : k < k1
    · have hkl2 : k < bs.length := by omega
      rcases HPRE.out k hkl2 hkA hkn with ⟨l, hb⟩ | hb
      · have HR : Hid (Calls Ybaf.prog 29 #[.pointer (some ⟨Q, 0, none⟩)] wr fun e w' => ∃ P c : Nat, e = .returned (.tuple #[.int .u32 1, .slice (some ⟨P, 8, none⟩) 8 c, .nilIface]) ∧ 8 + 4 ≤ c ∧ (∀ j x, (Bk.body big (.ifc l))[j]? = some x → w'.cell? ⟨P, 8 + j, none⟩ = some (.int .u8 x)) ∧ (∃ qs : List Int, Row w' P 5 (by8 qs)) ∧ ¬ VV M X (.slice oa (lnk bs k).length oc) P ∧ P ≠ Q ∧ Kept (fun j => ¬ VV M X (.slice oa (lnk bs k).length oc) j) wr w' ∧ Cq w' (VV M X (.slice oa (lnk bs k).length oc)) Q B Y U D cap (pfile big bs) (pos big bs k + (8 + 12)) (bo big) fr (.slice oa (lnk bs k).length oc)) := by
          have h := hRB hkl2
          rw [hb] at h
          exact h
        have hokL : 0 ≤ l ∧ l ≤ 65535 := by
          have h := HOK.out _ (List.getElem_mem hkl2)
          rw [hb] at h
          exact h
        have HN : Hid (Nst wr M X Q B Y U D cap big bs k fr (.slice oa (lnk bs k).length oc) ∧ Kept (fun j => M ≤ j ∧ ¬ X j) w wr ∧ bs[k] = .ifc l ∧ ∀ j, (Value.slice oa (lnk bs k).length oc).ownBlock = some j → ¬ X j) := ⟨hN, hK, hb, hX2⟩
        have hll := lnk_len bs k
        clear hN hK hX2 hRB hb
        go_wp2_with fail
        refine Calls.mono HR.out ?_
        rintro _ w2 ⟨P, c, rfl, hc, hcell, hrow, hVP, hPQ, hk2, hC2⟩
        have hO2 := own_keptV HN.out.1.2.1 hk2 (fun j hj => .inr (.inr hj))
        obtain ⟨x0, x1, e1, e2, e3, e4, e5, e6, e7, e8, e9⟩ := ifc_get big l hokL
        have hd0 := hcell 0 _ e1
        have hd1 := hcell 1 _ e2
        have hd4 := hcell 4 _ e6
        have hd5 := hcell 5 _ e7
        have hd6 := hcell 6 _ e8
        have hd7 := hcell 7 _ e9
        have HC : Hid (w2.ownsRow M 89 2 (.slice oa (lnk bs k).length oc) (lnk bs k).length (icells (lnk bs k)) ∧ Kept (fun j => ¬ VV M X (.slice oa (lnk bs k).length oc) j) wr w2 ∧ Cq w2 (VV M X (.slice oa (lnk bs k).length oc)) Q B Y U D cap (pfile big bs) (pos big bs k + (8 + 12)) (bo big) fr (.slice oa (lnk bs k).length oc) ∧ w2.cell? ⟨P, 8, none⟩ = some (.int .u8 x0) ∧ w2.cell? ⟨P, 9, none⟩ = some (.int .u8 x1) ∧ w2.cell? ⟨P, 12, none⟩ = some (.int .u8 0) ∧ w2.cell? ⟨P, 13, none⟩ = some (.int .u8 0) ∧ w2.cell? ⟨P, 14, none⟩ = some (.int .u8 0) ∧ w2.cell? ⟨P, 15, none⟩ = some (.int .u8 0)) := ⟨hO2, hk2, hC2, hd0, hd1, hd4, hd5, hd6, hd7⟩
        have hMw2 : M ≤ w2.heap.size := Nat.le_trans hMw (Nat.le_trans HN.out.2.1.size hk2.size)
        clear hcell hrow hVP hPQ hk2 hC2 hO2 hd0 hd1 hd4 hd5 hd6 hd7 e1 e2 e6 e7 e8 e9 HR
        go_wp2_with fail
        obtain ⟨c1, c2, c3, c4, c5, c6, c7, c8, c9⟩ := HC.out
        obtain ⟨o2, l2, a2, v2, hQ2, _⟩ := c3.row
        have nQ : ¬ (Value.slice oa (lnk bs k).length oc).ownBlock = some Q := fun e => c3.vQ (.inr (.inr e))
        refine ri_ok big _ Q P c oa (lnk bs k).length oc (icells (lnk bs k)) l x0 x1 w2 (hQ2.cell 2) (hQ2.cell 7) (hQ2.frozen 7) M hMw2 c1 (by omega) (by omega) nQ c4 c5 e4 e5 e3 hokL c6 c7 c8 c9 ?_
        intro v39 v40 v41 v42 v43 v44 v45 v46 v47 v48 v49 v50 v51 v52 v53 v54 v55 v56 v57 v58 v59 v60 v61 v62 v63 v64 v65 v66 v67 g cg w3 hk3 hown3
        have HQ : Hid (Lq w (w3.setCell ⟨Q, 7, none⟩ (.slice (some ⟨g, 0, none⟩) ((lnk bs k).length + 1) cg)) M X Q B Y U D cap big bs (k + 1) fr) := lq_ifc hkl2 HN.out.2.2.1 HN.out.1 HN.out.2.1 HN.out.2.2.2 c2 c3 hk3 hown3
        clear c1 c2 c3 c4 c5 c6 c7 c8 c9 hQ2 nQ hk3 hown3 HC HN
        go_wp2_with fail
        go_roundg (k1 + 1 - (k + 1))
        case rel => exact ⟨k + 1, rfl, by omega, by omega, HQ.out⟩
        case measure => omega
      · have HR : Hid (Calls Ybaf.prog 29 #[.pointer (some ⟨Q, 0, none⟩)] wr fun e w' => ∃ P c : Nat, e = .returned (.tuple #[.int .u32 2989, .slice (some ⟨P, 8, none⟩) 4 c, .nilIface]) ∧ 4 + 4 ≤ c ∧ (∀ j x, (Bk.body big .skp)[j]? = some x → w'.cell? ⟨P, 8 + j, none⟩ = some (.int .u8 x)) ∧ (∃ qs : List Int, Row w' P 5 (by8 qs)) ∧ ¬ VV M X (.slice oa (lnk bs k).length oc) P ∧ P ≠ Q ∧ Kept (fun j => ¬ VV M X (.slice oa (lnk bs k).length oc) j) wr w' ∧ Cq w' (VV M X (.slice oa (lnk bs k).length oc)) Q B Y U D cap (pfile big bs) (pos big bs k + (Bk.skp.blen + 12)) (bo big) fr (.slice oa (lnk bs k).length oc)) := by
          have h := hRB hkl2
          rw [hb] at h
          exact h
        have HN : Hid (Nst wr M X Q B Y U D cap big bs k fr (.slice oa (lnk bs k).length oc) ∧ Kept (fun j => M ≤ j ∧ ¬ X j) w wr ∧ bs[k] = .skp) := ⟨hN, hK, hb⟩
        clear hN hK hX2 hRB hb
        go_wp2_with fail
        refine Calls.mono HR.out ?_
        rintro _ w2 ⟨P, c, rfl, hc, hcell, hrow, hVP, hPQ, hk2, hC2⟩
        have HQ : Hid (Lq w w2 M X Q B Y U D cap big bs (k + 1) fr) := lq_skip hkl2 HN.out.2.2 HN.out.1 HN.out.2.1 hk2 hC2
        clear hcell hrow hVP hPQ hk2 hC2 HN HR
        go_wp2_with fail
        go_roundg (k1 + 1 - (k + 1))
        case rel => exact ⟨k + 1, rfl, by omega, by omega, HQ.out⟩
        case measure => omega
    · have hke : k = k1 := by omega
      subst hke
      have hkE : k = bs.length := by omega
      have HR : Hid _ := rb_end (VV M X (.slice oa (lnk bs k).length oc)) Q B Y U D cap (pfile big bs) (pos big bs k) (bo big) fr (.slice oa (lnk bs k).length oc) ae wr hN.1 hE1 (by rw [hkE]; exact pos_end big bs)
      have HN : Hid (Nst wr M X Q B Y U D cap big bs k fr (.slice oa (lnk bs k).length oc) ∧ Kept (fun j => M ≤ j ∧ ¬ X j) w wr) := ⟨hN, hK⟩
      clear hN hK hX2
      go_wp2_with fail
      refine Calls.mono HR.out ?_
      rintro _ w2 ⟨rfl, hk2, hC2⟩
      have HZ : Hid (Nst w2 M X Q B Y U D cap big bs k fr (.slice oa (lnk bs k).length oc) ∧ Kept (fun j => M ≤ j ∧ ¬ X j) w w2) := ⟨⟨hC2, own_keptV HN.out.1.2.1 hk2 (fun j hj => .inr (.inr hj)), HN.out.1.2.2⟩, HN.out.2.trans (kept_vv hk2)⟩
      clear hk2 hC2 HN HR
      go_wp2_with fail
      go_ret3
      exact ⟨oa, oc, rfl, HZ.out⟩

set_option maxHeartbeats 2000000 in
set_option maxRecDepth 100000 in
/-- nextBlockFrame. -/
theorem nbf_epb (M : Nat) (X : Nat → Prop) (Q B Y U D cap : Nat) (big : Bool) (bs : List Bk) (k0 k1 : Nat) (fr : Int) (ae au : Addr) (w : World) (oa0 : Option Addr) (oc0 : Nat) (hN0 : Nst w M X Q B Y U D cap big bs k0 fr (.slice oa0 (lnk bs k0).length oc0)) (hX0 : ∀ k, X k → ∃ e xs, Row w k e xs ∧ e ≠ 89) (hMw : M ≤ w.heap.size) (hE : w.cell? ⟨0, 0, none⟩ = some (.iface 96 (.pointer (some ae)))) (hX : w.cell? ⟨8, 0, none⟩ = some (.iface 96 (.pointer (some au)))) (hok : ∀ b ∈ bs, b.ok) (hbl : bs.length ≤ 100000) (hk01 : k0 ≤ k1) (hkl : k1 ≤ bs.length)
    (hpre : ∀ k (h : k < bs.length), k0 ≤ k → k < k1 → (∃ l, bs[k] = .ifc l) ∨ bs[k] = .skp) (hk1 : k1 < bs.length) (i : Nat) (f : List Int) (l : Int) (hfin : bs[k1] = .epb i f) (hl : (lnk bs k1)[i]? = some l) :
    Calls Ybaf.prog 22 #[.pointer (some ⟨Q, 0, none⟩)] w fun e w' => ∃ (oa : Option Addr) (oc P off c : Nat), e = .returned (.tuple #[.int .i64 l, .slice (some ⟨P, off, none⟩) f.length c, .nilIface]) ∧ Fd w' (VV M X (.slice oa (lnk bs k1).length oc)) Q P off f ∧ Nst w' M X Q B Y U D cap big bs (k1 + 1) fr (.slice oa (lnk bs k1).length oc) ∧ Kept (fun j => M ≤ j ∧ ¬ X j) w w' := by
  have HL0 : Hid (Lq w w M X Q B Y U D cap big bs k0 fr) := ⟨oa0, oc0, hN0, Kept.refl _ _⟩
  have HX0 : Hid (∀ k, X k → ∃ e xs, Row w k e xs ∧ e ≠ 89) := hX0
  have HE : Hid (w.cell? ⟨0, 0, none⟩ = some (.iface 96 (.pointer (some ae))) ∧ w.cell? ⟨8, 0, none⟩ = some (.iface 96 (.pointer (some au)))) := ⟨hE, hX⟩
  have HOK : Hid (∀ b ∈ bs, b.ok) := hok
  have HPRE : Hid (∀ k (h : k < bs.length), k0 ≤ k → k < k1 → (∃ l, bs[k] = .ifc l) ∨ bs[k] = .skp) := hpre
  have HBY : Hid (∀ x ∈ pfile big bs, 0 ≤ x ∧ x ≤ 255) := pfile_in big bs hok
  have h10 := hN0.2.2.2
  clear hN0 hX0 hE hX hok hpre
  go_enter Ybaf.func22, Ybaf.ntmps22
  go_wp2_with fail
  go_loopg [5] (k1 + 1 - k0) (fun gk s5 wr => ∃ k : Nat, gk = k1 + 1 - k ∧ k0 ≤ k ∧ k ≤ k1 ∧ Lq w wr M X Q B Y U D cap big bs k fr)
  case atStart => exact ⟨k0, rfl, Nat.le_refl _, hk01, HL0.out⟩
  case round =>
    obtain ⟨k, rfl, hkA, hkB, oa, oc, hN, hK⟩ := hrel
    clear HL0
    have hE1 := hK.cell HE.out.1 (fun h => absurd h.1 (by omega))
    have hE8 := hK.cell HE.out.2 (fun h => absurd h.1 (by omega))
    have hX2 : ∀ j, (Value.slice oa (lnk bs k).length oc).ownBlock = some j → ¬ X j := by
      intro j hj hx
      obtain ⟨e, xs, hr, hne⟩ := HX0.out j hx
      obtain ⟨ys, hy⟩ := own_row hN.2.1 hj
      exact (hr.kept hK (fun h => h.2 hx)).same hy hne rfl
    have hRB : ∀ hk : k < bs.length, Calls Ybaf.prog 29 #[.pointer (some ⟨Q, 0, none⟩)] wr (Rd1 big (VV M X (.slice oa (lnk bs k).length oc)) Q B Y U D cap (pfile big bs) (pos big bs k) bs[k] fr (.slice oa (lnk bs k).length oc) wr) := fun hk => rbp big (VV M X (.slice oa (lnk bs k).length oc)) Q B Y U D cap (pfile big bs) (pos big bs k) bs[k] fr (.slice oa (lnk bs k).length oc) ae au wr hN.1 hE1 hE8 HBY.out (HOK.out _ (List.getElem_mem hk)) (pos_le big bs k hk) (blk_at big bs k hk)
    by_cases hkn : k < k1
    · have hkl2 : k < bs.length := by omega
      rcases HPRE.out k hkl2 hkA hkn with ⟨l, hb⟩ | hb
      · have HR : Hid (Calls Ybaf.prog 29 #[.pointer (some ⟨Q, 0, none⟩)] wr fun e w' => ∃ P c : Nat, e = .returned (.tuple #[.int .u32 1, .slice (some ⟨P, 8, none⟩) 8 c, .nilIface]) ∧ 8 + 4 ≤ c ∧ (∀ j x, (Bk.body big (.ifc l))[j]? = some x → w'.cell? ⟨P, 8 + j, none⟩ = some (.int .u8 x)) ∧ (∃ qs : List Int, Row w' P 5 (by8 qs)) ∧ ¬ VV M X (.slice oa (lnk bs k).length oc) P ∧ P ≠ Q ∧ Kept (fun j => ¬ VV M X (.slice oa (lnk bs k).length oc) j) wr w' ∧ Cq w' (VV M X (.slice oa (lnk bs k).length oc)) Q B Y U D cap (pfile big bs) (pos big bs k + (8 + 12)) (bo big) fr (.slice oa (lnk bs k).length oc)) := by
          have h := hRB hkl2
          rw [hb] at h
          exact h
        have hokL : 0 ≤ l ∧ l ≤ 65535 := by
          have h := HOK.out _ (List.getElem_mem hkl2)
          rw [hb] at h
          exact h
        have HN : Hid (Nst wr M X Q B Y U D cap big bs k fr (.slice oa (lnk bs k).length oc) ∧ Kept (fun j => M ≤ j ∧ ¬ X j) w wr ∧ bs[k] = .ifc l ∧ ∀ j, (Value.slice oa (lnk bs k).length oc).ownBlock = some j → ¬ X j) := ⟨hN, hK, hb, hX2⟩
        have hll := lnk_len bs k
        clear hN hK hX2 hRB hb
        go_wp2_with fail
        refine Calls.mono HR.out ?_
        rintro _ w2 ⟨P, c, rfl, hc, hcell, hrow, hVP, hPQ, hk2, hC2⟩
        have hO2 := own_keptV HN.out.1.2.1 hk2 (fun j hj => .inr (.inr hj))
        obtain ⟨x0, x1, e1, e2, e3, e4, e5, e6, e7, e8, e9⟩ := ifc_get big l hokL
        have hd0 := hcell 0 _ e1
        have hd1 := hcell 1 _ e2
        have hd4 := hcell 4 _ e6
        have hd5 := hcell 5 _ e7
        have hd6 := hcell 6 _ e8
        have hd7 := hcell 7 _ e9
        have HC : Hid (w2.ownsRow M 89 2 (.slice oa (lnk bs k).length oc) (lnk bs k).length (icells (lnk bs k)) ∧ Kept (fun j => ¬ VV M X (.slice oa (lnk bs k).length oc) j) wr w2 ∧ Cq w2 (VV M X (.slice oa (lnk bs k).length oc)) Q B Y U D cap (pfile big bs) (pos big bs k + (8 + 12)) (bo big) fr (.slice oa (lnk bs k).length oc) ∧ w2.cell? ⟨P, 8, none⟩ = some (.int .u8 x0) ∧ w2.cell? ⟨P, 9, none⟩ = some (.int .u8 x1) ∧ w2.cell? ⟨P, 12, none⟩ = some (.int .u8 0) ∧ w2.cell? ⟨P, 13, none⟩ = some (.int .u8 0) ∧ w2.cell? ⟨P, 14, none⟩ = some (.int .u8 0) ∧ w2.cell? ⟨P, 15, none⟩ = some (.int .u8 0)) := ⟨hO2, hk2, hC2, hd0, hd1, hd4, hd5, hd6, hd7⟩
        have hMw2 : M ≤ w2.heap.size := Nat.le_trans hMw (Nat.le_trans HN.out.2.1.size hk2.size)
        clear hcell hrow hVP hPQ hk2 hC2 hO2 hd0 hd1 hd4 hd5 hd6 hd7 e1 e2 e6 e7 e8 e9 HR
        go_wp2_with fail
        obtain ⟨c1, c2, c3, c4, c5, c6, c7, c8, c9⟩ := HC.out
        obtain ⟨o2, l2, a2, v2, hQ2, _⟩ := c3.row
        have nQ : ¬ (Value.slice oa (lnk bs k).length oc).ownBlock = some Q := fun e => c3.vQ (.inr (.inr e))
        refine ri_ok big _ Q P c oa (lnk bs k).length oc (icells (lnk bs k)) l x0 x1 w2 (hQ2.cell 2) (hQ2.cell 7) (hQ2.frozen 7) M hMw2 c1 (by omega) (by omega) nQ c4 c5 e4 e5 e3 hokL c6 c7 c8 c9 ?_
        intro v39 v40 v41 v42 v43 v44 v45 v46 v47 v48 v49 v50 v51 v52 v53 v54 v55 v56 v57 v58 v59 v60 v61 v62 v63 v64 v65 v66 v67 g cg w3 hk3 hown3
        have HQ : Hid (Lq w (w3.setCell ⟨Q, 7, none⟩ (.slice (some ⟨g, 0, none⟩) ((lnk bs k).length + 1) cg)) M X Q B Y U D cap big bs (k + 1) fr) := lq_ifc hkl2 HN.out.2.2.1 HN.out.1 HN.out.2.1 HN.out.2.2.2 c2 c3 hk3 hown3
        clear c1 c2 c3 c4 c5 c6 c7 c8 c9 hQ2 nQ hk3 hown3 HC HN
        go_wp2_with fail
        go_roundg (k1 + 1 - (k + 1))
        case rel => exact ⟨k + 1, rfl, by omega, by omega, HQ.out⟩
        case measure => omega
      · have HR : Hid (Calls Ybaf.prog 29 #[.pointer (some ⟨Q, 0, none⟩)] wr fun e w' => ∃ P c : Nat, e = .returned (.tuple #[.int .u32 2989, .slice (some ⟨P, 8, none⟩) 4 c, .nilIface]) ∧ 4 + 4 ≤ c ∧ (∀ j x, (Bk.body big .skp)[j]? = some x → w'.cell? ⟨P, 8 + j, none⟩ = some (.int .u8 x)) ∧ (∃ qs : List Int, Row w' P 5 (by8 qs)) ∧ ¬ VV M X (.slice oa (lnk bs k).length oc) P ∧ P ≠ Q ∧ Kept (fun j => ¬ VV M X (.slice oa (lnk bs k).length oc) j) wr w' ∧ Cq w' (VV M X (.slice oa (lnk bs k).length oc)) Q B Y U D cap (pfile big bs) (pos big bs k + (Bk.skp.blen + 12)) (bo big) fr (.slice oa (lnk bs k).length oc)) := by
          have h := hRB hkl2
          rw [hb] at h
          exact h
        have HN : Hid (Nst wr M X Q B Y U D cap big bs k fr (.slice oa (lnk bs k).length oc) ∧ Kept (fun j => M ≤ j ∧ ¬ X j) w wr ∧ bs[k] = .skp) := ⟨hN, hK, hb⟩
        clear hN hK hX2 hRB hb
        go_wp2_with fail
        refine Calls.mono HR.out ?_
        rintro _ w2 ⟨P, c, rfl, hc, hcell, hrow, hVP, hPQ, hk2, hC2⟩
        have HQ : Hid (Lq w w2 M X Q B Y U D cap big bs (k + 1) fr) := lq_skip hkl2 HN.out.2.2 HN.out.1 HN.out.2.1 hk2 hC2
        clear hcell hrow hVP hPQ hk2 hC2 HN HR
        go_wp2_with fail
        go_roundg (k1 + 1 - (k + 1))
        case rel => exact ⟨k + 1, rfl, by omega, by omega, HQ.out⟩
        case measure => omega
    · have hke : k = k1 := by omega
      subst hke
      have HR : Hid (Calls Ybaf.prog 29 #[.pointer (some ⟨Q, 0, none⟩)] wr (Rd1 big (VV M X (.slice oa (lnk bs k).length oc)) Q B Y U D cap (pfile big bs) (pos big bs k) (.epb i f) fr (.slice oa (lnk bs k).length oc) wr)) := hfin ▸ hRB hk1
      obtain ⟨hokI, hokF, -⟩ : (Bk.epb i f).ok := hfin ▸ HOK.out _ (List.getElem_mem hk1)
      have HN : Hid (Nst wr M X Q B Y U D cap big bs k fr (.slice oa (lnk bs k).length oc) ∧ Kept (fun j => M ≤ j ∧ ¬ X j) w wr) := ⟨hN, hK⟩
      have hin : i < (lnk bs k).length := (List.getElem?_eq_some_iff.1 hl).1
      have hll := lnk_len bs k
      have HLK : Hid ((lnk bs k)[i]? = some l) := hl
      have HPS : Hid (pos big bs (k + 1) = pos big bs k + ((Bk.epb i f).blen + 12) ∧ lnk bs (k + 1) = lnk bs k) := ⟨by rw [pos_succ big bs k hk1, hfin], by rw [lnk_succ bs k hk1, hfin]; simp [Bk.link?]⟩
      obtain ⟨bl, hbl2⟩ : ∃ bl, bl = (Bk.epb i f).blen := ⟨_, rfl⟩
      have hble : 20 + f.length ≤ bl ∧ bl ≤ 5000 := by rw [hbl2]; simp [Bk.blen]; omega
      have HRb : Hid (Calls Ybaf.prog 29 #[.pointer (some ⟨Q, 0, none⟩)] wr fun e w' => ∃ P c : Nat, e = .returned (.tuple #[.int .u32 6, .slice (some ⟨P, 8, none⟩) bl c, .nilIface]) ∧ bl + 4 ≤ c ∧ (∀ j x, (Bk.body big (.epb i f))[j]? = some x → w'.cell? ⟨P, 8 + j, none⟩ = some (.int .u8 x)) ∧ (∃ qs : List Int, Row w' P 5 (by8 qs)) ∧ ¬ VV M X (.slice oa (lnk bs k).length oc) P ∧ P ≠ Q ∧ Kept (fun j => ¬ VV M X (.slice oa (lnk bs k).length oc) j) wr w' ∧ Cq w' (VV M X (.slice oa (lnk bs k).length oc)) Q B Y U D cap (pfile big bs) (pos big bs k + (bl + 12)) (bo big) fr (.slice oa (lnk bs k).length oc)) := by
        rw [hbl2]
        exact HR.out
      have HPS2 : Hid (pos big bs (k + 1) = pos big bs k + (bl + 12) ∧ lnk bs (k + 1) = lnk bs k) := by rw [hbl2]; exact HPS.out
      clear hN hK hX2 HR hl hRB HPS hbl2 hfin
      go_wp2_with fail
      refine Calls.mono HRb.out ?_
      rintro _ w2 ⟨P, c, rfl, hc, hcell, hrow, hVP, hPQ, hk2, hC2⟩
      have hO2 := own_keptV HN.out.1.2.1 hk2 (fun j hj => .inr (.inr hj))
      obtain ⟨I, cI, hI, -, -⟩ := hO2.form (by omega)
      cases hI
      obtain ⟨x0, x1, x2, x3, y0, y1, y2, y3, e1, e2, e3, e4, e5, e6, e7, e8, e9, g1, g2, g3, g4, g5, g6, g7, g8, g9, hdat⟩ := epb_get big i f hokI hokF
      obtain ⟨o2, l2, a2, v2, hQ2, _⟩ := hC2.row
      have HP : Hid _ := pf_ok big Q P I (lnk bs k).length oc i f.length bl c l x0 x1 x2 x3 y0 y1 y2 y3 w2 (hQ2.cell 2) (hQ2.cell 7) (own_cells hO2 HLK.out).1 hin (by omega) (by omega) (by omega) (by omega) (by omega) (hcell 0 _ e1) (hcell 1 _ e2) (hcell 2 _ e3) (hcell 3 _ e4) e6 e7 e8 e9 e5 (hcell 12 _ g1) (hcell 13 _ g2) (hcell 14 _ g3) (hcell 15 _ g4) g6 g7 g8 g9 g5
      have HZ : Hid (Fd w2 (VV M X (.slice (some ⟨I, 0, none⟩) (lnk bs k).length oc)) Q P 28 f ∧ Nst w2 M X Q B Y U D cap big bs (k + 1) fr (.slice (some ⟨I, 0, none⟩) (lnk bs k).length oc) ∧ Kept (fun j => M ≤ j ∧ ¬ X j) w w2) := by
        refine ⟨⟨fun j x hx => ?_, hrow, hVP, hPQ⟩, ?_, HN.out.2.trans (kept_vv hk2)⟩
        · have := hcell (20 + j) x (hdat j x hx)
          rw [← Nat.add_assoc] at this
          exact this
        · unfold Nst
          rw [HPS2.out.1, HPS2.out.2]
          exact ⟨hC2, hO2, HN.out.1.2.2⟩
      clear hcell hrow hVP hPQ hk2 hC2 hO2 hQ2 hdat e1 e2 e3 e4 e5 e6 e7 e8 e9 g1 g2 g3 g4 g5 g6 g7 g8 g9 HN HRb HLK HPS2
      go_wp2_with fail
      refine Calls.mono HP.out ?_
      rintro _ w3 ⟨rfl, hk3⟩
      have HZ3 : Hid (Fd w3 (VV M X (.slice (some ⟨I, 0, none⟩) (lnk bs k).length oc)) Q P 28 f ∧ Nst w3 M X Q B Y U D cap big bs (k + 1) fr (.slice (some ⟨I, 0, none⟩) (lnk bs k).length oc) ∧ Kept (fun j => M ≤ j ∧ ¬ X j) w w3) := ⟨HZ.out.1.kept hk3, HZ.out.2.1.kept hk3, HZ.out.2.2.trans (Kept.mono (q := fun j => M ≤ j ∧ ¬ X j) hk3 (fun _ _ h => h.elim))⟩
      clear hk3 HP HZ
      go_wp2_with fail
      go_ret3
      exact ⟨_, _, _, _, _, rfl, HZ3.out⟩

set_option maxHeartbeats 2000000 in
set_option maxRecDepth 100000 in
/-- nextBlockFrame. -/
theorem nbf_spb (M : Nat) (X : Nat → Prop) (Q B Y U D cap : Nat) (big : Bool) (bs : List Bk) (k0 k1 : Nat) (fr : Int) (ae au : Addr) (w : World) (oa0 : Option Addr) (oc0 : Nat) (hN0 : Nst w M X Q B Y U D cap big bs k0 fr (.slice oa0 (lnk bs k0).length oc0)) (hX0 : ∀ k, X k → ∃ e xs, Row w k e xs ∧ e ≠ 89) (hMw : M ≤ w.heap.size) (hE : w.cell? ⟨0, 0, none⟩ = some (.iface 96 (.pointer (some ae)))) (hX : w.cell? ⟨8, 0, none⟩ = some (.iface 96 (.pointer (some au)))) (hok : ∀ b ∈ bs, b.ok) (hbl : bs.length ≤ 100000) (hk01 : k0 ≤ k1) (hkl : k1 ≤ bs.length)
    (hpre : ∀ k (h : k < bs.length), k0 ≤ k → k < k1 → (∃ l, bs[k] = .ifc l) ∨ bs[k] = .skp) (hk1 : k1 < bs.length) (f : List Int) (l : Int) (hfin : bs[k1] = .spb f) (hl : (lnk bs k1)[0]? = some l) :
    Calls Ybaf.prog 22 #[.pointer (some ⟨Q, 0, none⟩)] w fun e w' => ∃ (oa : Option Addr) (oc P off c : Nat), e = .returned (.tuple #[.int .i64 l, .slice (some ⟨P, off, none⟩) f.length c, .nilIface]) ∧ Fd w' (VV M X (.slice oa (lnk bs k1).length oc)) Q P off f ∧ Nst w' M X Q B Y U D cap big bs (k1 + 1) fr (.slice oa (lnk bs k1).length oc) ∧ Kept (fun j => M ≤ j ∧ ¬ X j) w w' := by
  have HL0 : Hid (Lq w w M X Q B Y U D cap big bs k0 fr) := ⟨oa0, oc0, hN0, Kept.refl _ _⟩
  have HX0 : Hid (∀ k, X k → ∃ e xs, Row w k e xs ∧ e ≠ 89) := hX0
  have HE : Hid (w.cell? ⟨0, 0, none⟩ = some (.iface 96 (.pointer (some ae))) ∧ w.cell? ⟨8, 0, none⟩ = some (.iface 96 (.pointer (some au)))) := ⟨hE, hX⟩
  have HOK : Hid (∀ b ∈ bs, b.ok) := hok
  have HPRE : Hid (∀ k (h : k < bs.length), k0 ≤ k → k < k1 → (∃ l, bs[k] = .ifc l) ∨ bs[k] = .skp) := hpre
  have HBY : Hid (∀ x ∈ pfile big bs, 0 ≤ x ∧ x ≤ 255) := pfile_in big bs hok
  have h10 := hN0.2.2.2
  clear hN0 hX0 hE hX hok hpre
  go_enter Ybaf.func22, Ybaf.ntmps22
  go_wp2_with fail
  go_loopg [5] (k1 + 1 - k0) (fun gk s5 wr => ∃ k : Nat, gk = k1 + 1 - k ∧ k0 ≤ k ∧ k ≤ k1 ∧ Lq w wr M X Q B Y U D cap big bs k fr)
  case atStart => exact ⟨k0, rfl, Nat.le_refl _, hk01, HL0.out⟩
  case round =>
    obtain ⟨k, rfl, hkA, hkB, oa, oc, hN, hK⟩ := hrel
    clear HL0
    have hE1 := hK.cell HE.out.1 (fun h => absurd h.1 (by omega))
    have hE8 := hK.cell HE.out.2 (fun h => absurd h.1 (by omega))
    have hX2 : ∀ j, (Value.slice oa (lnk bs k).length oc).ownBlock = some j → ¬ X j := by
      intro j hj hx
      obtain ⟨e, xs, hr, hne⟩ := HX0.out j hx
      obtain ⟨ys, hy⟩ := own_row hN.2.1 hj
      exact (hr.kept hK (fun h => h.2 hx)).same hy hne rfl
    have hRB : ∀ hk : k < bs.length, Calls Ybaf.prog 29 #[.pointer (some ⟨Q, 0, none⟩)] wr (Rd1 big (VV M X (.slice oa (lnk bs k).length oc)) Q B Y U D cap (pfile big bs) (pos big bs k) bs[k] fr (.slice oa (lnk bs k).length oc) wr) := fun hk => rbp big (VV M X (.slice oa (lnk bs k).length oc)) Q B Y U D cap (pfile big bs) (pos big bs k) bs[k] fr (.slice oa (lnk bs k).length oc) ae au wr hN.1 hE1 hE8 HBY.out (HOK.out _ (List.getElem_mem hk)) (pos_le big bs k hk) (blk_at big bs k hk)
    by_cases hkn : k < k1
    · have hkl2 : k < bs.length := by omega
      rcases HPRE.out k hkl2 hkA hkn with ⟨l, hb⟩ | hb
      · have HR : Hid (Calls Ybaf.prog 29 #[.pointer (some ⟨Q, 0, none⟩)] wr fun e w' => ∃ P c : Nat, e = .returned (.tuple #[.int .u32 1, .slice (some ⟨P, 8, none⟩) 8 c, .nilIface]) ∧ 8 + 4 ≤ c ∧ (∀ j x, (Bk.body big (.ifc l))[j]? = some x → w'.cell? ⟨P, 8 + j, none⟩ = some (.int .u8 x)) ∧ (∃ qs : List Int, Row w' P 5 (by8 qs)) ∧ ¬ VV M X (.slice oa (lnk bs k).length oc) P ∧ P ≠ Q ∧ Kept (fun j => ¬ VV M X (.slice oa (lnk bs k).length oc) j) wr w' ∧ Cq w' (VV M X (.slice oa (lnk bs k).length oc)) Q B Y U D cap (pfile big bs) (pos big bs k + (8 + 12)) (bo big) fr (.slice oa (lnk bs k).length oc)) := by
          have h := hRB hkl2
          rw [hb] at h
          exact h
        have hokL : 0 ≤ l ∧ l ≤ 65535 := by
          have h := HOK.out _ (List.getElem_mem hkl2)
          rw [hb] at h
          exact h
        have HN : Hid (Nst wr M X Q B Y U D cap big bs k fr (.slice oa (lnk bs k).length oc) ∧ Kept (fun j => M ≤ j ∧ ¬ X j) w wr ∧ bs[k] = .ifc l ∧ ∀ j, (Value.slice oa (lnk bs k).length oc).ownBlock = some j → ¬ X j) := ⟨hN, hK, hb, hX2⟩
        have hll := lnk_len bs k
        clear hN hK hX2 hRB hb
        go_wp2_with fail
        refine Calls.mono HR.out ?_
        rintro _ w2 ⟨P, c, rfl, hc, hcell, hrow, hVP, hPQ, hk2, hC2⟩
        have hO2 := own_keptV HN.out.1.2.1 hk2 (fun j hj => .inr (.inr hj))
        obtain ⟨x0, x1, e1, e2, e3, e4, e5, e6, e7, e8, e9⟩ := ifc_get big l hokL
        have hd0 := hcell 0 _ e1
        have hd1 := hcell 1 _ e2
        have hd4 := hcell 4 _ e6
        have hd5 := hcell 5 _ e7
        have hd6 := hcell 6 _ e8
        have hd7 := hcell 7 _ e9
        have HC : Hid (w2.ownsRow M 89 2 (.slice oa (lnk bs k).length oc) (lnk bs k).length (icells (lnk bs k)) ∧ Kept (fun j => ¬ VV M X (.slice oa (lnk bs k).length oc) j) wr w2 ∧ Cq w2 (VV M X (.slice oa (lnk bs k).length oc)) Q B Y U D cap (pfile big bs) (pos big bs k + (8 + 12)) (bo big) fr (.slice oa (lnk bs k).length oc) ∧ w2.cell? ⟨P, 8, none⟩ = some (.int .u8 x0) ∧ w2.cell? ⟨P, 9, none⟩ = some (.int .u8 x1) ∧ w2.cell? ⟨P, 12, none⟩ = some (.int .u8 0) ∧ w2.cell? ⟨P, 13, none⟩ = some (.int .u8 0) ∧ w2.cell? ⟨P, 14, none⟩ = some (.int .u8 0) ∧ w2.cell? ⟨P, 15, none⟩ = some (.int .u8 0)) := ⟨hO2, hk2, hC2, hd0, hd1, hd4, hd5, hd6, hd7⟩
        have hMw2 : M ≤ w2.heap.size := Nat.le_trans hMw (Nat.le_trans HN.out.2.1.size hk2.size)
        clear hcell hrow hVP hPQ hk2 hC2 hO2 hd0 hd1 hd4 hd5 hd6 hd7 e1 e2 e6 e7 e8 e9 HR
        go_wp2_with fail
        obtain ⟨c1, c2, c3, c4, c5, c6, c7, c8, c9⟩ := HC.out
        obtain ⟨o2, l2, a2, v2, hQ2, _⟩ := c3.row
        have nQ : ¬ (Value.slice oa (lnk bs k).length oc).ownBlock = some Q := fun e => c3.vQ (.inr (.inr e))
        refine ri_ok big _ Q P c oa (lnk bs k).length oc (icells (lnk bs k)) l x0 x1 w2 (hQ2.cell 2) (hQ2.cell 7) (hQ2.frozen 7) M hMw2 c1 (by omega) (by omega) nQ c4 c5 e4 e5 e3 hokL c6 c7 c8 c9 ?_
        intro v39 v40 v41 v42 v43 v44 v45 v46 v47 v48 v49 v50 v51 v52 v53 v54 v55 v56 v57 v58 v59 v60 v61 v62 v63 v64 v65 v66 v67 g cg w3 hk3 hown3
        have HQ : Hid (Lq w (w3.setCell ⟨Q, 7, none⟩ (.slice (some ⟨g, 0, none⟩) ((lnk bs k).length + 1) cg)) M X Q B Y U D cap big bs (k + 1) fr) := lq_ifc hkl2 HN.out.2.2.1 HN.out.1 HN.out.2.1 HN.out.2.2.2 c2 c3 hk3 hown3
        clear c1 c2 c3 c4 c5 c6 c7 c8 c9 hQ2 nQ hk3 hown3 HC HN
        go_wp2_with fail
        go_roundg (k1 + 1 - (k + 1))
        case rel => exact ⟨k + 1, rfl, by omega, by omega, HQ.out⟩
        case measure => omega
      · have HR : Hid (Calls Ybaf.prog 29 #[.pointer (some ⟨Q, 0, none⟩)] wr fun e w' => ∃ P c : Nat, e = .returned (.tuple #[.int .u32 2989, .slice (some ⟨P, 8, none⟩) 4 c, .nilIface]) ∧ 4 + 4 ≤ c ∧ (∀ j x, (Bk.body big .skp)[j]? = some x → w'.cell? ⟨P, 8 + j, none⟩ = some (.int .u8 x)) ∧ (∃ qs : List Int, Row w' P 5 (by8 qs)) ∧ ¬ VV M X (.slice oa (lnk bs k).length oc) P ∧ P ≠ Q ∧ Kept (fun j => ¬ VV M X (.slice oa (lnk bs k).length oc) j) wr w' ∧ Cq w' (VV M X (.slice oa (lnk bs k).length oc)) Q B Y U D cap (pfile big bs) (pos big bs k + (Bk.skp.blen + 12)) (bo big) fr (.slice oa (lnk bs k).length oc)) := by
          have h := hRB hkl2
          rw [hb] at h
          exact h
        have HN : Hid (Nst wr M X Q B Y U D cap big bs k fr (.slice oa (lnk bs k).length oc) ∧ Kept (fun j => M ≤ j ∧ ¬ X j) w wr ∧ bs[k] = .skp) := ⟨hN, hK, hb⟩
        clear hN hK hX2 hRB hb
        go_wp2_with fail
        refine Calls.mono HR.out ?_
        rintro _ w2 ⟨P, c, rfl, hc, hcell, hrow, hVP, hPQ, hk2, hC2⟩
        have HQ : Hid (Lq w w2 M X Q B Y U D cap big bs (k + 1) fr) := lq_skip hkl2 HN.out.2.2 HN.out.1 HN.out.2.1 hk2 hC2
        clear hcell hrow hVP hPQ hk2 hC2 HN HR
        go_wp2_with fail
        go_roundg (k1 + 1 - (k + 1))
        case rel => exact ⟨k + 1, rfl, by omega, by omega, HQ.out⟩
        case measure => omega
    · have hke : k = k1 := by omega
      subst hke
      have HR : Hid (Calls Ybaf.prog 29 #[.pointer (some ⟨Q, 0, none⟩)] wr (Rd1 big (VV M X (.slice oa (lnk bs k).length oc)) Q B Y U D cap (pfile big bs) (pos big bs k) (.spb f) fr (.slice oa (lnk bs k).length oc) wr)) := hfin ▸ hRB hk1
      obtain ⟨hokF, -⟩ : (Bk.spb f).ok := hfin ▸ HOK.out _ (List.getElem_mem hk1)
      have HN : Hid (Nst wr M X Q B Y U D cap big bs k fr (.slice oa (lnk bs k).length oc) ∧ Kept (fun j => M ≤ j ∧ ¬ X j) w wr) := ⟨hN, hK⟩
      have hin : 0 < (lnk bs k).length := (List.getElem?_eq_some_iff.1 hl).1
      have hll := lnk_len bs k
      have HLK : Hid ((lnk bs k)[0]? = some l) := hl
      have HPS : Hid (pos big bs (k + 1) = pos big bs k + ((Bk.spb f).blen + 12) ∧ lnk bs (k + 1) = lnk bs k) := ⟨by rw [pos_succ big bs k hk1, hfin], by rw [lnk_succ bs k hk1, hfin]; simp [Bk.link?]⟩
      obtain ⟨bl, hbl2⟩ : ∃ bl, bl = (Bk.spb f).blen := ⟨_, rfl⟩
      have hble : 4 + f.length ≤ bl ∧ bl ≤ 5000 := by rw [hbl2]; simp [Bk.blen]; omega
      have HRb : Hid (Calls Ybaf.prog 29 #[.pointer (some ⟨Q, 0, none⟩)] wr fun e w' => ∃ P c : Nat, e = .returned (.tuple #[.int .u32 3, .slice (some ⟨P, 8, none⟩) bl c, .nilIface]) ∧ bl + 4 ≤ c ∧ (∀ j x, (Bk.body big (.spb f))[j]? = some x → w'.cell? ⟨P, 8 + j, none⟩ = some (.int .u8 x)) ∧ (∃ qs : List Int, Row w' P 5 (by8 qs)) ∧ ¬ VV M X (.slice oa (lnk bs k).length oc) P ∧ P ≠ Q ∧ Kept (fun j => ¬ VV M X (.slice oa (lnk bs k).length oc) j) wr w' ∧ Cq w' (VV M X (.slice oa (lnk bs k).length oc)) Q B Y U D cap (pfile big bs) (pos big bs k + (bl + 12)) (bo big) fr (.slice oa (lnk bs k).length oc)) := by
        rw [hbl2]
        exact HR.out
      have HPS2 : Hid (pos big bs (k + 1) = pos big bs k + (bl + 12) ∧ lnk bs (k + 1) = lnk bs k) := by rw [hbl2]; exact HPS.out
      clear hN hK hX2 HR hl hRB HPS hbl2 hfin
      go_wp2_with fail
      refine Calls.mono HRb.out ?_
      rintro _ w2 ⟨P, c, rfl, hc, hcell, hrow, hVP, hPQ, hk2, hC2⟩
      have hO2 := own_keptV HN.out.1.2.1 hk2 (fun j hj => .inr (.inr hj))
      obtain ⟨I, cI, hI, -, -⟩ := hO2.form (by omega)
      cases hI
      obtain ⟨y0, y1, y2, y3, g1, g2, g3, g4, g5, g6, g7, g8, g9, hdat⟩ := spb_get big f hokF
      obtain ⟨o2, l2, a2, v2, hQ2, _⟩ := hC2.row
      have hci := own_cells hO2 HLK.out
      simp only [Nat.zero_mul, Nat.zero_add] at hci
      have HP : Hid _ := sf_ok big Q P I (lnk bs k).length oc f.length bl c l y0 y1 y2 y3 w2 (hQ2.cell 2) (hQ2.cell 7) hci.1 hci.2 hin (by omega) (by omega) (by omega) (by omega) (hcell 0 _ g1) (hcell 1 _ g2) (hcell 2 _ g3) (hcell 3 _ g4) g6 g7 g8 g9 g5
      have HZ : Hid (Fd w2 (VV M X (.slice (some ⟨I, 0, none⟩) (lnk bs k).length oc)) Q P 12 f ∧ Nst w2 M X Q B Y U D cap big bs (k + 1) fr (.slice (some ⟨I, 0, none⟩) (lnk bs k).length oc) ∧ Kept (fun j => M ≤ j ∧ ¬ X j) w w2) := by
        refine ⟨⟨fun j x hx => ?_, hrow, hVP, hPQ⟩, ?_, HN.out.2.trans (kept_vv hk2)⟩
        · have := hcell (4 + j) x (hdat j x hx)
          rw [← Nat.add_assoc] at this
          exact this
        · unfold Nst
          rw [HPS2.out.1, HPS2.out.2]
          exact ⟨hC2, hO2, HN.out.1.2.2⟩
      clear hcell hrow hVP hPQ hk2 hC2 hO2 hQ2 hdat g1 g2 g3 g4 g5 g6 g7 g8 g9 HN HRb HLK HPS2 hci
      go_wp2_with fail
      refine Calls.mono HP.out ?_
      rintro _ w3 ⟨rfl, hk3⟩
      have HZ3 : Hid (Fd w3 (VV M X (.slice (some ⟨I, 0, none⟩) (lnk bs k).length oc)) Q P 12 f ∧ Nst w3 M X Q B Y U D cap big bs (k + 1) fr (.slice (some ⟨I, 0, none⟩) (lnk bs k).length oc) ∧ Kept (fun j => M ≤ j ∧ ¬ X j) w w3) := ⟨HZ.out.1.kept hk3, HZ.out.2.1.kept hk3, HZ.out.2.2.trans (Kept.mono (q := fun j => M ≤ j ∧ ¬ X j) hk3 (fun _ _ h => h.elim))⟩
      clear hk3 HP HZ
      go_wp2_with fail
      go_ret3
      exact ⟨_, _, _, _, _, rfl, HZ3.out⟩

end Go.Proofs.YbulkbgsmFmt
