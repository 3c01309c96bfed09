import Derived.Test.YbulkbgsmFmtRb
import Derived.Test.YbulkbgsmFmtRl
import Derived.Test.YbulkbgsmFmtPb
namespace Go.Proofs.YbulkbgsmFmt
open Go.RowKit

theorem rb_ok (big : Bool) (V : Nat → Prop) (Q B Y U D cap : Nat) (L : List Int) (p n n4 m : Nat) (typ : Int) (fr : Int) (ifs : Value) (ae au : Addr) (w : World) (h : Cq w V Q B Y U D cap L p (bo big) fr ifs) (hE : w.cell? ⟨0, 0, none⟩ = some (.iface 96 (.pointer (some ae)))) (hX : w.cell? ⟨8, 0, none⟩ = some (.iface 96 (.pointer (some au))))
    (hb : ∀ x ∈ L, 0 ≤ x ∧ x ≤ 255) (hm : m + 12 = n) (hm4 : m + 8 = n4) (hmod : (n : Int) % 4 = 0) (hmx : n ≤ 16777216) (hp : p + n ≤ L.length)
    (u0 : u32f big L[p] L[p + 1] L[p + 2] L[p + 3] = typ) (us0 : ¬ u32f false L[p] L[p + 1] L[p + 2] L[p + 3] = 168627466) (u4 : u32f big L[p + 4] L[p + 5] L[p + 6] L[p + 7] = (n : Int)) (u8 : u32f big L[p + n4] L[p + n4 + 1] L[p + n4 + 2] L[p + n4 + 3] = (n : Int)) :
    Calls Ybaf.prog 29 #[.pointer (some ⟨Q, 0, none⟩)] w (Rb V Q B Y U D cap L p n m typ (bo big) fr ifs w) := by
  cases big with
  | true => exact rb_big V Q B Y U D cap L p n n4 m typ fr ifs ae au w h hE hX hb hm hm4 hmod hmx hp u0 us0 u4 u8
  | false => exact rb_little V Q B Y U D cap L p n n4 m typ fr ifs ae au w h hE hX hb hm hm4 hmod hmx hp u0 us0 u4 u8

/-- What readBlock answers at the block b. -/
def Rd1 (big : Bool) (V : Nat → Prop) (Q B Y U D cap : Nat) (L : List Int) (p : Nat) (b : Bk) (fr : Int) (ifs : Value) (w : World) (e : Ending) (w' : World) : Prop :=
  ∃ P c : Nat, e = .returned (.tuple #[.int .u32 b.typ, .slice (some ⟨P, 8, none⟩) b.blen c, .nilIface]) ∧ b.blen + 4 ≤ c ∧ (∀ j x, (b.body big)[j]? = some x → w'.cell? ⟨P, 8 + j, none⟩ = some (.int .u8 x)) ∧ (∃ qs : List Int, Row w' P 5 (by8 qs)) ∧ ¬ V P ∧ P ≠ Q ∧ Kept (fun k => ¬ V k) w w' ∧ Cq w' V Q B Y U D cap L (p + (b.blen + 12)) (bo big) fr ifs

/-- readBlock at the block b. -/
theorem rbp (big : Bool) (V : Nat → Prop) (Q B Y U D cap : Nat) (L : List Int) (p : Nat) (b : Bk) (fr : Int) (ifs : Value) (ae au : Addr) (w : World) (h : Cq w V Q B Y U D cap L p (bo big) fr ifs) (hE : w.cell? ⟨0, 0, none⟩ = some (.iface 96 (.pointer (some ae)))) (hX : w.cell? ⟨8, 0, none⟩ = some (.iface 96 (.pointer (some au))))
    (hb : ∀ x ∈ L, 0 ≤ x ∧ x ≤ 255) (hok : b.ok) (hp : p + (b.blen + 12) ≤ L.length) (hA : (L.drop p).take (b.blen + 12) = b.bytes big) :
    Calls Ybaf.prog 29 #[.pointer (some ⟨Q, 0, none⟩)] w (Rd1 big V Q B Y U D cap L p b fr ifs w) := by
  have hl := b.body_len big
  have hle := b.blen_le hok
  have hmd := b.blen_mod
  have s0 : (L.drop p).take 4 = b32 big b.typ := by
    have := sub_seg hA 0 4 (by omega)
    rw [Nat.add_zero, List.drop_zero] at this
    rw [this]
    exact take_app (b32_len _ _)
  have s4 : (L.drop (p + 4)).take 4 = b32 big ((b.blen : Int) + 12) := by
    have := sub_seg hA 4 4 (by omega)
    rw [this, Bk.bytes, drop_app (b32_len _ _), take_app (b32_len _ _), hl]
  have s8 : (L.drop (p + (b.blen + 8))).take 4 = b32 big ((b.blen : Int) + 12) := by
    have := sub_seg hA (b.blen + 8) 4 (by omega)
    rw [this, Bk.bytes, ← List.append_assoc, ← List.append_assoc, drop_app (by simp [b32_len, hl]; omega), hl]
    exact List.take_of_length_le (by rw [b32_len]; exact Nat.le_refl _)
  have hbody : (L.drop (p + 8)).take b.blen = b.body big := by
    have := sub_seg hA 8 b.blen (by omega)
    rw [this, Bk.bytes, ← List.append_assoc, drop_app (by simp [b32_len]), take_app hl]
  have c12 : ((b.blen + 12 : Nat) : Int) = (b.blen : Int) + 12 := by omega
  refine (rb_ok big V Q B Y U D cap L p (b.blen + 12) (b.blen + 8) b.blen b.typ fr ifs ae au w h hE hX hb rfl rfl (by omega) (by omega) hp (u32_at big L p _ s0 (by omega)) (notsec big L p b s0 (by omega)) ?_ ?_).mono ?_
  · exact (u32_at big L (p + 4) _ s4 (by omega)).trans c12.symm
  · exact (u32_at big L (p + (b.blen + 8)) _ s8 (by omega)).trans c12.symm
  · rintro e w' ⟨P, cp, qs, rfl, h1, h2, h3, h4, h5, h6, h7, h8⟩
    refine ⟨P, cp - 8, rfl, by omega, fun j x hx => ?_, ⟨qs, h3⟩, h5, h6, h7, h8⟩
    have hj : j < b.blen := by
      have := (List.getElem?_eq_some_iff.1 hx).1
      omega
    rw [← hbody, List.getElem?_take_of_lt hj, List.getElem?_drop] at hx
    rw [h3.cell (8 + j)]
    have hq : qs[8 + j]? = some x := by
      have e1 : (qs.take (b.blen + 12))[8 + j]? = qs[8 + j]? := List.getElem?_take_of_lt (by omega)
      rw [← e1, h4, List.getElem?_take_of_lt (by omega), List.getElem?_drop, ← Nat.add_assoc]
      exact hx
    simp [by8, hq]
end Go.Proofs.YbulkbgsmFmt
