import Derived.Test.YbulkbgtoDoorProg
import Derived.Test.YbulkbgtoDoorPlain
import Derived.WalkKit
import Derived.WalkSpells
import Derived.WalkLawsBesides
namespace Go.Proofs.YbulkbgtoDoor
open Go.RowKit

/-- What the law's own reader hands back. -/
def parseTuple : Option Int → Value
  | none => .tuple #[.int .u64 0, .bool false]
  | some v => .tuple #[.int .u64 v, .bool true]

theorem parse_empty (a : Option Addr) (cap : Nat) (w : World) :
    Calls Ybad.prog 7 #[.slice a 0 cap] w fun e w' => e = .returned (parseTuple (parseV [])) ∧ w' = w := by
  go_enter Ybad.func7, Ybad.ntmps7
  go_wp2
  go_ret2
  exact ⟨rfl, rfl⟩

theorem zp_bad (xs : List Int) (k : Nat) (v : Int) (h : k < xs.length) (hb : xs[k] < 48 ∨ 57 < xs[k]) : zp v (xs.drop k) = none := by
  rw [List.drop_eq_getElem_cons h, zp, if_pos hb]
theorem zp_more (xs : List Int) (k : Nat) (v : Int) (h : k < xs.length) (hb : ¬ (xs[k] < 48 ∨ 57 < xs[k])) (hv : v ≤ 4294967296) : zp v (xs.drop k) = zp (v * 10 + (xs[k] - 48)) (xs.drop (k + 1)) := by
  rw [List.drop_eq_getElem_cons h, zp, if_neg hb, if_pos hv]
theorem zp_keep (xs : List Int) (k : Nat) (v : Int) (h : k < xs.length) (hb : ¬ (xs[k] < 48 ∨ 57 < xs[k])) (hv : ¬ v ≤ 4294967296) : zp v (xs.drop k) = zp v (xs.drop (k + 1)) := by
  rw [List.drop_eq_getElem_cons h, zp, if_neg hb, if_neg hv]
theorem tuple_none {xs : List Int} (hx : parseV xs = (zp 0 xs).bind fun v => if 4294967295 < v then none else some v) (h : zp 0 xs = none) : parseTuple (parseV xs) = .tuple #[.int .u64 0, .bool false] := by
  rw [hx, h]; rfl
theorem tuple_over {xs : List Int} {v : Int} (hx : parseV xs = (zp 0 xs).bind fun v => if 4294967295 < v then none else some v) (h : zp 0 xs = some v) (hv : 4294967295 < v) : parseTuple (parseV xs) = .tuple #[.int .u64 0, .bool false] := by
  rw [hx, h, Option.bind_some, if_pos hv]; rfl
theorem tuple_some {xs : List Int} {v : Int} (hx : parseV xs = (zp 0 xs).bind fun v => if 4294967295 < v then none else some v) (h : zp 0 xs = some v) (hv : v ≤ 4294967295) : parseTuple (parseV xs) = .tuple #[.int .u64 v, .bool true] := by
  rw [hx, h, Option.bind_some, if_neg (by omega)]; rfl
theorem zp_end (xs : List Int) (k : Nat) (v : Int) (h : xs.length ≤ k) : zp v (xs.drop k) = some v := by
  rw [List.drop_eq_nil_of_le h]; rfl
theorem ret_of {a b : Value} (h : a = b) : Ending.returned a = .returned b := by rw [h]

set_option maxHeartbeats 400000 in
theorem parse_any (b off len cap : Nat) (xs : List Int) (w : World) (hl : xs.length = len) (h0 : 0 < len) (hbig : len ≤ 4096)
    (hc : ∀ i, i < len → w.cell? ⟨b, off + i, none⟩ = some (.int .u8 (xs.getD i 0))) (hb : ∀ n ∈ xs, 0 ≤ n ∧ n ≤ 255) :
    Calls Ybad.prog 7 #[.slice (some ⟨b, off, none⟩) len cap] w fun e w' => e = .returned (parseTuple (parseV xs)) ∧ w' = w := by
  have hne : ((len : Int) == 0) = false := by simp; omega
  have hxs : xs ≠ [] := by intro h; rw [h] at hl; simp at hl; omega
  have HX : Hid (parseV xs = (zp 0 xs).bind fun v => if 4294967295 < v then none else some v) := by
    show parseV xs = _
    simp [parseV, hxs]
  go_enter Ybad.func7, Ybad.ntmps7
  go_wp2
  go_loop [4, 5] (fun v i => ∃ (k : Nat) (a : Int), k ≤ len ∧ 0 ≤ a ∧ a ≤ 42949672969 ∧ i = .int .i64 k ∧ v = .int .u64 a ∧ zp 0 xs = zp a (xs.drop k)) (fun _ i => len - (intOf i).toNat)
  case atStart => exact ⟨0, 0, by omega, by omega, by omega, rfl, rfl, by simp⟩
  case round =>
    obtain ⟨k, a, hk, ha0, ha1, rfl, rfl, hz⟩ := hrel
    have HZ : Hid (zp 0 xs = zp a (xs.drop k)) := hz
    clear hz
    by_cases hlt : k < len
    · have hcell : w.cell? ⟨b, off + k, none⟩ = some (.int .u8 (xs.getD k 0)) := hc k hlt
      have hby : 0 ≤ xs[k]?.getD 0 ∧ xs[k]?.getD 0 ≤ 255 := by
        have hm : xs[k] ∈ xs := List.getElem_mem (by omega)
        have := hb _ hm
        simpa [show k < xs.length by omega] using this
      obtain ⟨hy0, hy1⟩ := hby
      clear hb
      have hkx : k < xs.length := by omega
      go_wp2
      · go_ret2
        exact ⟨ret_of (tuple_none HX.out (HZ.out.trans (zp_bad xs k a hkx (by omega)))).symm, rfl⟩
      · go_round
        case rel => exact ⟨k + 1, a * 10 + (xs[k] - 48), by omega, by omega, by omega, by go_num, rfl, HZ.out.trans (zp_more xs k a hkx (by omega) (by omega))⟩
        case measure => simp [intOf]; omega
      · go_round
        case rel => exact ⟨k + 1, a, by omega, by omega, by omega, by go_num, rfl, HZ.out.trans (zp_keep xs k a hkx (by omega) (by omega))⟩
        case measure => simp [intOf]; omega
      · go_ret2
        exact ⟨ret_of (tuple_none HX.out (HZ.out.trans (zp_bad xs k a hkx (by omega)))).symm, rfl⟩
    · go_wp2
      · go_ret2
        exact ⟨ret_of (tuple_over HX.out (HZ.out.trans (zp_end xs k a (by omega))) (by omega)).symm, rfl⟩
      · go_ret2
        exact ⟨ret_of (tuple_some HX.out (HZ.out.trans (zp_end xs k a (by omega))) (by omega)).symm, rfl⟩

/-- newProtocolError at a slice of at most 64 bytes. -/
theorem newPE_short (ad rs : ByteArray) (a : Option Addr) (len cap : Nat) (st : ByteArray) (w : World) (hl : len ≤ 64)
    (hconv : ∀ dst, Ybad.prog.underlying dst = some .string → (convert 22 dst (.slice a len cap)).run Ybad.prog w = .ok (.string st) w) :
    Calls Ybad.prog 9 #[.string ad, .string rs, .slice a len cap] w fun e w' => e = .returned (.pointer (some ⟨w.heap.size, 0, none⟩)) ∧ w' = w.alloc (.cells #[.string ad, .string rs, .string st] 61) := by
  go_enter Ybad.func9, Ybad.ntmps9
  go_wp2
  go_ret
  exact ⟨rfl, rfl⟩

/-- newProtocolError at a slice of more than 64 bytes. -/
theorem newPE_long (ad rs : ByteArray) (b off len cap : Nat) (st : ByteArray) (w : World) (hl : 64 < len) (hlc : len ≤ cap) (hc : cap ≤ 9223372036854775807)
    (hconv : ∀ dst, Ybad.prog.underlying dst = some .string → (convert 22 dst (.slice (some ⟨b, off, none⟩) 64 cap)).run Ybad.prog w = .ok (.string st) w) :
    Calls Ybad.prog 9 #[.string ad, .string rs, .slice (some ⟨b, off, none⟩) len cap] w fun e w' => e = .returned (.pointer (some ⟨w.heap.size, 0, none⟩)) ∧ w' = w.alloc (.cells #[.string ad, .string rs, .string st] 61) := by
  go_enter Ybad.func9, Ybad.ntmps9
  go_wp2
  go_ret
  exact ⟨rfl, rfl⟩
end Go.Proofs.YbulkbgtoDoor
