import Derived.Test.YbulkbgveFmtMem
namespace Go.Proofs.YbulkbgveFmt
open Go.RowKit

theorem Ybaf.info5 : (Ybaf.prog.info? 5).map (fun i => (i.zero, i.size, i.bytes)) = some (some (.int .u8 0), 1, 1) := by kernel_rfl

/-- The buffer at K, n bytes long, of room 4096. -/
def Buf (w : World) (B K n : Nat) : Prop := ∃ ys, w.ownsRow B 5 1 (.slice (some ⟨K, 0, none⟩) n 4096) n ys

theorem Buf.kept {p : Nat → Prop} {w w' : World} {B K n : Nat} (h : Buf w B K n) (hb : Kept p w w') (hg : ¬ p K) : Buf w' B K n := by
  obtain ⟨ys, h⟩ := h
  exact ⟨ys, owns_kept h hb hg⟩
theorem Buf.lt {w : World} {B K n : Nat} (h : Buf w B K n) : K < w.heap.size := by
  obtain ⟨ys, h⟩ := h
  exact (h.lt K rfl).2

set_option maxHeartbeats 8000000 in
set_option maxRecDepth 100000 in
/-- AppendUvarint where there is room: at most ten bytes, in place. -/
theorem uvar (B K n x : Nat) (hx : x < 18446744073709551616) (w : World) (hown : Buf w B K n) (hlim : n + 10 ≤ 4096) :
    Calls Ybaf.prog 7 #[.slice (some ⟨K, 0, none⟩) n 4096, .int .u64 x] w fun e w' => ∃ n', e = .returned (.slice (some ⟨K, 0, none⟩) n' 4096) ∧ n' ≤ n + 10 ∧ Buf w' B K n' ∧ Kept (· = K) w w' := by
  obtain ⟨xs, hown⟩ := hown
  obtain ⟨i0, hi, hz0, hz1, hz2⟩ := info_parts Ybaf.info5
  go_enter Ybaf.func7, Ybaf.ntmps7
  go_wp2
  go_loopw [0, 1] (fun vb vx wr => ∃ (y j : Nat) (ys : List Value), vx = .int .u64 y ∧ j ≤ 9 ∧ y * 128 ^ j < 18446744073709551616 ∧ vb = .slice (some ⟨K, 0, none⟩) (n + j) 4096 ∧ wr.ownsRow B 5 1 (.slice (some ⟨K, 0, none⟩) (n + j) 4096) (n + j) ys ∧ Kept (· = K) w wr)
    (fun _ vx _ => (intOf vx).toNat)
  case atStart => exact ⟨x, 0, xs, rfl, by omega, by simpa using hx, rfl, hown, Kept.refl _ _⟩
  case round =>
    obtain ⟨y, j, ys, rfl, hj, hy, rfl, hown1, hnx⟩ := hrel
    by_cases h128 : 128 ≤ y
    · have hj9 : j ≠ 9 := by
        intro h
        subst h
        have : (128 : Nat) ^ 9 = 9223372036854775808 := by decide
        rw [this] at hy
        omega
      have hyx : y < 18446744073709551616 := Nat.lt_of_le_of_lt (Nat.le_mul_of_pos_right y (Nat.pow_pos (by decide))) hy
      have hor : bits .or .u8 ((y : Int) % 256) 128 = ((y % 128 + 128 : Nat) : Int) := by
        rw [Lib.u8_or128_any _ (by omega) (by omega)]
        omega
      have hst : y / 128 * 128 ^ (j + 1) < 18446744073709551616 := by
        rw [Nat.pow_succ, Nat.mul_comm (128 ^ j) 128, ← Nat.mul_assoc]
        exact Nat.lt_of_le_of_lt (Nat.mul_le_mul_right _ (Nat.div_mul_le_self y 128)) hy
      clear hy
      go_wp2_with (at_builtin; refine wpList_append_fits _ rfl _ _ 40 rfl B 5 i0 1 Ybaf.underlying40 hi hz1 K (n + j) 4096 _ rfl (hown1.alloc _) ⟨wr.heap.size, 0, none⟩ 1 1 [Value.int .u8 ((y % 128 + 128 : Nat) : Int)] rfl rfl ?c1 ?c2 ?c3 ?_)
      case c1 =>
        intro j u hj
        match j, hj with
        | 0, hj => simp at hj; subst hj; simp [Addr.add]
      case c2 => intro u hu; simp at hu; subst hu; rfl
      case c3 => omega
      intro w1 hown' hgrow
      have hnx1 : Kept (· = K) w w1 := (hnx.alloc _).grown hgrow (fun k hk _ => by cases hk; rfl)
      go_wp2
      go_roundw
      case rel => exact ⟨y / 128, j + 1, _, by go_num, by omega, hst, rfl, hown', hnx1⟩
      case measure => simp [intOf]; omega
    · clear hy
      go_wp2_with (at_builtin; refine wpList_append_fits _ rfl _ _ 40 rfl B 5 i0 1 Ybaf.underlying40 hi hz1 K (n + j) 4096 _ rfl (hown1.alloc _) ⟨wr.heap.size, 0, none⟩ 1 1 [Value.int .u8 (y : Int)] rfl rfl ?c1 ?c2 ?c3 ?_)
      case c1 =>
        intro j u hj
        match j, hj with
        | 0, hj => simp at hj; subst hj; simp [Addr.add]
      case c2 => intro u hu; simp at hu; subst hu; rfl
      case c3 => omega
      intro w1 hown' hgrow
      have hnx1 : Kept (· = K) w w1 := (hnx.alloc _).grown hgrow (fun k hk _ => by cases hk; rfl)
      go_wp2
      go_ret
      exact ⟨n + j + 1, rfl, by omega, ⟨_, hown'⟩, hnx1⟩

set_option maxHeartbeats 8000000 in
set_option maxRecDepth 100000 in
/-- AppendVarint likewise. -/
theorem var (B K n : Nat) (x : Int) (h0 : -9223372036854775808 ≤ x) (h1 : x ≤ 9223372036854775807) (w : World) (hown : Buf w B K n) (hlim : n + 10 ≤ 4096) :
    Calls Ybaf.prog 8 #[.slice (some ⟨K, 0, none⟩) n 4096, .int .i64 x] w fun e w' => ∃ n', e = .returned (.slice (some ⟨K, 0, none⟩) n' 4096) ∧ n' ≤ n + 10 ∧ Buf w' B K n' ∧ Kept (· = K) w w' := by
  have hU := uvar B K n (Lib.zigzag x) (Lib.zigzag_lt h0 h1) w hown hlim
  by_cases hneg : x < 0
  · rw [← Lib.zigzag_neg h0 hneg] at hU
    go_enter Ybaf.func8, Ybaf.ntmps8
    go_wp2_with (go_at_call 7; refine hU.mono ?_; rintro e w1 ⟨n', rfl, ho⟩)
    go_wp2
    go_ret
    exact ⟨n', rfl, ho⟩
  · rw [Lib.zigzag_nonneg (by omega)] at hU
    go_enter Ybaf.func8, Ybaf.ntmps8
    go_wp2_with (go_at_call 7; refine hU.mono ?_; rintro e w1 ⟨n', rfl, ho⟩)
    go_wp2
    go_ret
    exact ⟨n', rfl, ho⟩
end Go.Proofs.YbulkbgveFmt
