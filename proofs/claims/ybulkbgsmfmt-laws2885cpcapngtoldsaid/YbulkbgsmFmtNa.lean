import Derived.Test.YbulkbgsmFmtBg
import Derived.Test.YbulkbgsmFmtPf
import Derived.Test.YbulkbgsmFmtSf
import Derived.Test.YbulkbgsmFmtRe
import Derived.Deep.LoopGhost
namespace Go.Proofs.YbulkbgsmFmt
open Go.RowKit
attribute [local go_sem] eq_same eq_nil

theorem pf_ok (big : Bool) (Q P I : Nat) (k cI i d m c : Nat) (link : Int) (x0 x1 x2 x3 y0 y1 y2 y3 : Int) (w : World) (q2 : w.cell? ⟨Q, 2, none⟩ = some (bo big)) (q7 : w.cell? ⟨Q, 7, none⟩ = some (.slice (some ⟨I, 0, none⟩) k cI)) (ci : w.cell? ⟨I, i * 2, none⟩ = some (.int .i64 link)) (hik : i < k) (hk : k ≤ 1000000) (hd : d + 20 ≤ m) (hm : m ≤ 16777216) (hc : m ≤ c) (hc2 : 20 < c)
    (c0 : w.cell? ⟨P, 8, none⟩ = some (.int .u8 x0)) (c1 : w.cell? ⟨P, 9, none⟩ = some (.int .u8 x1)) (c2 : w.cell? ⟨P, 10, none⟩ = some (.int .u8 x2)) (c3 : w.cell? ⟨P, 11, none⟩ = some (.int .u8 x3)) (h0 : 0 ≤ x0 ∧ x0 ≤ 255) (h1 : 0 ≤ x1 ∧ x1 ≤ 255) (h2 : 0 ≤ x2 ∧ x2 ≤ 255) (h3 : 0 ≤ x3 ∧ x3 ≤ 255) (hx : u32f big x0 x1 x2 x3 = (i : Int))
    (e0 : w.cell? ⟨P, 20, none⟩ = some (.int .u8 y0)) (e1 : w.cell? ⟨P, 21, none⟩ = some (.int .u8 y1)) (e2 : w.cell? ⟨P, 22, none⟩ = some (.int .u8 y2)) (e3 : w.cell? ⟨P, 23, none⟩ = some (.int .u8 y3)) (k0 : 0 ≤ y0 ∧ y0 ≤ 255) (k1 : 0 ≤ y1 ∧ y1 ≤ 255) (k2 : 0 ≤ y2 ∧ y2 ≤ 255) (k3 : 0 ≤ y3 ∧ y3 ≤ 255) (hy : u32f big y0 y1 y2 y3 = (d : Int)) :
    Calls Ybaf.prog 33 #[.pointer (some ⟨Q, 0, none⟩), .int .u32 6, .slice (some ⟨P, 8, none⟩) m c] w fun e w' => e = .returned (.tuple #[.int .i64 link, .slice (some ⟨P, 28, none⟩) d (c - 20), .nilIface]) ∧ Kept (fun _ => False) w w' := by
  cases big with
  | true => exact pf_big Q P I k cI i d m c link x0 x1 x2 x3 y0 y1 y2 y3 w q2 q7 ci hik hk hd hm hc hc2 c0 c1 c2 c3 h0 h1 h2 h3 hx e0 e1 e2 e3 k0 k1 k2 k3 hy
  | false => exact pf_little Q P I k cI i d m c link x0 x1 x2 x3 y0 y1 y2 y3 w q2 q7 ci hik hk hd hm hc hc2 c0 c1 c2 c3 h0 h1 h2 h3 hx e0 e1 e2 e3 k0 k1 k2 k3 hy

theorem sf_ok (big : Bool) (Q P I : Nat) (k cI d m c : Nat) (link : Int) (y0 y1 y2 y3 : Int) (w : World) (q2 : w.cell? ⟨Q, 2, none⟩ = some (bo big)) (q7 : w.cell? ⟨Q, 7, none⟩ = some (.slice (some ⟨I, 0, none⟩) k cI)) (ci : w.cell? ⟨I, 0, none⟩ = some (.int .i64 link)) (ci1 : w.cell? ⟨I, 1, none⟩ = some (.int .u32 0)) (hk0 : 0 < k) (hd : d + 4 ≤ m) (hm : m ≤ 16777216) (hc : m ≤ c) (hc2 : 4 < c)
    (e0 : w.cell? ⟨P, 8, none⟩ = some (.int .u8 y0)) (e1 : w.cell? ⟨P, 9, none⟩ = some (.int .u8 y1)) (e2 : w.cell? ⟨P, 10, none⟩ = some (.int .u8 y2)) (e3 : w.cell? ⟨P, 11, none⟩ = some (.int .u8 y3)) (k0 : 0 ≤ y0 ∧ y0 ≤ 255) (k1 : 0 ≤ y1 ∧ y1 ≤ 255) (k2 : 0 ≤ y2 ∧ y2 ≤ 255) (k3 : 0 ≤ y3 ∧ y3 ≤ 255) (hy : u32f big y0 y1 y2 y3 = (d : Int)) :
    Calls Ybaf.prog 34 #[.pointer (some ⟨Q, 0, none⟩), .slice (some ⟨P, 8, none⟩) m c] w fun e w' => e = .returned (.tuple #[.int .i64 link, .slice (some ⟨P, 12, none⟩) d (c - 4), .nilIface]) ∧ Kept (fun _ => False) w w' := by
  cases big with
  | true => exact sf_big Q P I k cI d m c link y0 y1 y2 y3 w q2 q7 ci ci1 hk0 hd hm hc hc2 e0 e1 e2 e3 k0 k1 k2 k3 hy
  | false => exact sf_little Q P I k cI d m c link y0 y1 y2 y3 w q2 q7 ci ci1 hk0 hd hm hc hc2 e0 e1 e2 e3 k0 k1 k2 k3 hy

theorem Nst.kept {w w' : World} {M : Nat} {X : Nat → Prop} {Q B Y U D cap : Nat} {big : Bool} {bs : List Bk} {k : Nat} {fr : Int} {ifs : Value} (h : Nst w M X Q B Y U D cap big bs k fr ifs) (hk : Kept (fun _ => False) w w') : Nst w' M X Q B Y U D cap big bs k fr ifs := ⟨h.1.kept hk, owns_keptF h.2.1 hk, h.2.2⟩

/-- A frame of the block just read. -/
def Fd (w : World) (V : Nat → Prop) (Q P off : Nat) (f : List Int) : Prop := (∀ j x, f[j]? = some x → w.cell? ⟨P, off + j, none⟩ = some (.int .u8 x)) ∧ (∃ qs : List Int, Row w P 5 (by8 qs)) ∧ ¬ V P ∧ P ≠ Q
theorem Fd.kept {w w' : World} {V : Nat → Prop} {Q P off : Nat} {f : List Int} (h : Fd w V Q P off f) (hk : Kept (fun _ => False) w w') : Fd w' V Q P off f :=
  ⟨fun j x hx => hk.cell (h.1 j x hx) (fun h => h), by obtain ⟨qs, hq⟩ := h.2.1; exact ⟨qs, hq.kept hk (fun h => h)⟩, h.2.2⟩

/-- What must hold in the loop of nextBlockFrame ahead of block k. -/
def Lq (w wr : World) (M : Nat) (X : Nat → Prop) (Q B Y U D cap : Nat) (big : Bool) (bs : List Bk) (k : Nat) (fr : Int) : Prop := ∃ (oa : Option Addr) (oc : Nat), Nst wr M X Q B Y U D cap big bs k fr (.slice oa (lnk bs k).length oc) ∧ Kept (fun j => M ≤ j ∧ ¬ X j) w wr

theorem kept_vv {w w' : World} {M : Nat} {X : Nat → Prop} {ifs : Value} (h : Kept (fun k => ¬ VV M X ifs k) w w') : Kept (fun j => M ≤ j ∧ ¬ X j) w w' :=
  Kept.mono (q := fun j => M ≤ j ∧ ¬ X j) h (fun _ _ hj => ⟨Nat.le_of_not_lt (fun h => hj (.inl h)), fun h => hj (.inr (.inl h))⟩)

/-- A block that is passed over. -/
theorem lq_skip {w wr w' : World} {M : Nat} {X : Nat → Prop} {Q B Y U D cap : Nat} {big : Bool} {bs : List Bk} {k : Nat} {fr : Int} {oa : Option Addr} {oc : Nat} (hk : k < bs.length) (hb : bs[k] = .skp) (hN : Nst wr M X Q B Y U D cap big bs k fr (.slice oa (lnk bs k).length oc)) (hK : Kept (fun j => M ≤ j ∧ ¬ X j) w wr) (hk2 : Kept (fun j => ¬ VV M X (.slice oa (lnk bs k).length oc) j) wr w') (hC : Cq w' (VV M X (.slice oa (lnk bs k).length oc)) Q B Y U D cap (pfile big bs) (pos big bs k + (Bk.skp.blen + 12)) (bo big) fr (.slice oa (lnk bs k).length oc)) : Lq w w' M X Q B Y U D cap big bs (k + 1) fr := by
  have e1 : lnk bs (k + 1) = lnk bs k := by rw [lnk_succ bs k hk, hb]; simp [Bk.link?]
  have e2 : pos big bs (k + 1) = pos big bs k + (Bk.skp.blen + 12) := by rw [pos_succ big bs k hk, hb]
  refine ⟨oa, oc, ?_, hK.trans (kept_vv hk2)⟩
  unfold Nst
  rw [e1, e2]
  exact ⟨hC, own_keptV hN.2.1 hk2 (fun j hj => .inr (.inr hj)), hN.2.2⟩

/-- An interface is described. -/
theorem lq_ifc {w wr w' w3 : World} {M : Nat} {X : Nat → Prop} {Q B Y U D cap : Nat} {big : Bool} {bs : List Bk} {k : Nat} {fr : Int} {oa : Option Addr} {oc : Nat} {l : Int} {g cg : Nat} (hk : k < bs.length) (hb : bs[k] = .ifc l) (hN : Nst wr M X Q B Y U D cap big bs k fr (.slice oa (lnk bs k).length oc)) (hK : Kept (fun j => M ≤ j ∧ ¬ X j) w wr) (hX : ∀ j, (Value.slice oa (lnk bs k).length oc).ownBlock = some j → ¬ X j) (hk2 : Kept (fun j => ¬ VV M X (.slice oa (lnk bs k).length oc) j) wr w') (hC : Cq w' (VV M X (.slice oa (lnk bs k).length oc)) Q B Y U D cap (pfile big bs) (pos big bs k + (8 + 12)) (bo big) fr (.slice oa (lnk bs k).length oc))
    (hk3 : Kept (fun j => (Value.slice oa (lnk bs k).length oc).ownBlock = some j) w' w3) (hown : w3.ownsRow M 89 2 (.slice (some ⟨g, 0, none⟩) ((lnk bs k).length + 1) cg) ((lnk bs k).length + 1) (icells (lnk bs k) ++ [.int .i64 l, .int .u32 0])) : Lq w (w3.setCell ⟨Q, 7, none⟩ (.slice (some ⟨g, 0, none⟩) ((lnk bs k).length + 1) cg)) M X Q B Y U D cap big bs (k + 1) fr := by
  have e1 : lnk bs (k + 1) = lnk bs k ++ [l] := by rw [lnk_succ bs k hk, hb]; simp [Bk.link?]
  have e2 : pos big bs (k + 1) = pos big bs k + (8 + 12) := by rw [pos_succ big bs k hk, hb]; rfl
  have e3 : (lnk bs (k + 1)).length = (lnk bs k).length + 1 := by rw [e1]; simp
  have h := nst_app hC (own_keptV hN.2.1 hk2 (fun j hj => .inr (.inr hj))) hN.2.2.1 hN.2.2.2 hk3 hown
  refine ⟨some ⟨g, 0, none⟩, cg, ?_, ?_⟩
  · unfold Nst
    rw [e3, e2, e1, icells_app]
    exact ⟨h.1, h.2, hN.2.2⟩
  · have hq : M ≤ Q ∧ ¬ X Q := ⟨Nat.le_of_not_lt (fun h => hC.vQ (.inl h)), fun h => hC.vQ (.inr (.inl h))⟩
    exact ((hK.trans (kept_vv hk2)).trans (Kept.mono (q := fun j => M ≤ j ∧ ¬ X j) hk3 (fun j _ hj => ⟨(hN.2.1.lt j hj).1, hX j hj⟩))).setCell (g := Q) (j := 7) (fun _ => hq) _

end Go.Proofs.YbulkbgsmFmt
