import Derived.Test.YbulkbgsmFmtMem
import Derived.Laws.AppendOwn
namespace Go.Proofs.YbulkbgsmFmt
open Go.RowKit

/-- The octets of a number of 32 bits. -/
def b32 (big : Bool) (v : Int) : List Int := if big then [v / 16777216, v / 65536 % 256, v / 256 % 256, v % 256] else [v % 256, v / 256 % 256, v / 65536 % 256, v / 16777216]
def b16 (big : Bool) (v : Int) : List Int := if big then [v / 256, v % 256] else [v % 256, v / 256]

/-- v is a slice of the bytes xs in a block of its own from N on. -/
def Fl (w : World) (N : Nat) (v : Value) (xs : List Int) : Prop := w.ownsRow N 5 1 v xs.length (by8 xs)

theorem info5 : (Ybaf.prog.info? 5).map (fun i => (i.zero, i.size, i.bytes)) = some (some (.int .u8 0), 1, 1) := by kernel_rfl
theorem owns_form {w : World} {base : Nat} {e : TypeId} {size : Nat} {v : Value} {n : Nat} {xs : List Value} (h : w.ownsRow base e size v n xs) : ∃ a c, v = .slice a n c := by
  rcases h.2 with ⟨h1, h2⟩ | ⟨g', cap, cur, hv, _⟩
  · subst h2
    exact ⟨none, 0, h1⟩
  · exact ⟨_, _, hv⟩
theorem new_cells (w : World) (e : TypeId) (ys : List Value) (b : Nat) (hb : w.heap.size = b) : ∀ j u, ys[j]? = some u → (w.alloc (.cells ys.toArray e)).cell? ((⟨b, 0, none⟩ : Addr).add j) = some u := by
  subst hb
  intro j u hj
  have hadd : (⟨w.heap.size, 0, none⟩ : Addr).add j = ⟨w.heap.size, j, none⟩ := by unfold Addr.add; split <;> simp_all
  rw [hadd, cell_of_row _ _ j _ e (0, 0) (heap_alloc_new w _)]
  simpa using hj

theorem info_parts {P : Program} {e : TypeId} {z : Option Value} {s b : Nat} (h : (P.info? e).map (fun i => (i.zero, i.size, i.bytes)) = some (z, s, b)) : ∃ i, P.info? e = some i ∧ i.zero = z ∧ i.size = s ∧ i.bytes = b := by
  obtain ⟨i, hi, h⟩ := Option.map_eq_some_iff.1 h
  simp only [Prod.mk.injEq] at h
  exact ⟨i, hi, h.1, h.2.1, h.2.2⟩

theorem fl_fin {w w0 w1 : World} {N : Nat} {oa : Option Addr} {oc m : Nat} {xs ys : List Int} {v' : Value} (hk : Kept (fun k => (Value.slice oa xs.length oc).ownBlock = some k) w w0) (hown : w1.ownsRow N 5 1 v' (xs.length + m) (by8 xs ++ by8 ys)) (hg : w0.grownBy w1 (Value.slice oa xs.length oc).ownBlock) (hm : ys.length = m) :
    Fl w1 N v' (xs ++ ys) ∧ Kept (fun k => (Value.slice oa xs.length oc).ownBlock = some k) w w1 := by
  refine ⟨?_, hk.grown hg (fun k h _ => h)⟩
  unfold Fl
  rw [List.length_append, hm]
  have : by8 (xs ++ ys) = by8 xs ++ by8 ys := by simp [by8]
  rw [this]
  exact hown

set_option maxHeartbeats 1000000 in
set_option maxRecDepth 100000 in
theorem ap32be (N : Nat) (v : Value) (xs : List Int) (n : Int) (w : World) (h : Fl w N v xs) (hN : N ≤ w.heap.size) (hl : xs.length ≤ 4000000) (hn : 0 ≤ n ∧ n ≤ 4294967295) :
    Calls Ybaf.prog 12 #[.agg #[], v, .int .u32 n] w fun e w' => ∃ v' : Value, e = .returned v' ∧ Fl w' N v' (xs ++ b32 true n) ∧ Kept (fun k => v.ownBlock = some k) w w' := by
  obtain ⟨i0, hi, hz0, hz1, hz2⟩ := info_parts info5
  obtain ⟨oa, oc, rfl⟩ := owns_form h
  have HO : Hid (w.ownsRow N 5 1 (.slice oa xs.length oc) xs.length (by8 xs)) := h
  clear h
  go_enter Ybaf.func12, Ybaf.ntmps12
  go_wp2_with (at_builtin; refine wpList_append_own _ rfl (.tmp 7) (.tmp 19) 24 rfl N 5 i0 _ 1 1 Ybaf.underlying24 hi hz0 hz1 hz2 rfl (by decide) (.slice oa xs.length oc) xs.length (by8 xs) rfl ((HO.out.alloc _).alloc _) ⟨w.heap.size + 1, 0, none⟩ 4 4 (by8 (b32 true n)) rfl rfl ?c1 ?c2 ?c3 ?c4 ?c5 ?_)
  case c1 => exact new_cells _ _ (by8 (b32 true n)) _ (by simp)
  case c2 => exact by8_one _
  case c3 => unfold maxLen; omega
  case c4 => omega
  case c5 => simp; omega
  intro v' w1 hown hgrow _
  have HF : Hid (Fl w1 N v' (xs ++ b32 true n) ∧ Kept (fun k => (Value.slice oa xs.length oc).ownBlock = some k) w w1) := fl_fin (((Kept.refl _ w).alloc _).alloc _) hown hgrow rfl
  clear hown hgrow
  go_wp2_with fail
  go_ret
  exact ⟨v', rfl, HF.out⟩

set_option maxHeartbeats 1000000 in
set_option maxRecDepth 100000 in
theorem ap32le (N : Nat) (v : Value) (xs : List Int) (n : Int) (w : World) (h : Fl w N v xs) (hN : N ≤ w.heap.size) (hl : xs.length ≤ 4000000) (hn : 0 ≤ n ∧ n ≤ 4294967295) :
    Calls Ybaf.prog 13 #[.agg #[], v, .int .u32 n] w fun e w' => ∃ v' : Value, e = .returned v' ∧ Fl w' N v' (xs ++ b32 false n) ∧ Kept (fun k => v.ownBlock = some k) w w' := by
  obtain ⟨i0, hi, hz0, hz1, hz2⟩ := info_parts info5
  obtain ⟨oa, oc, rfl⟩ := owns_form h
  have HO : Hid (w.ownsRow N 5 1 (.slice oa xs.length oc) xs.length (by8 xs)) := h
  clear h
  go_enter Ybaf.func13, Ybaf.ntmps13
  go_wp2_with (at_builtin; refine wpList_append_own _ rfl (.tmp 7) (.tmp 19) 24 rfl N 5 i0 _ 1 1 Ybaf.underlying24 hi hz0 hz1 hz2 rfl (by decide) (.slice oa xs.length oc) xs.length (by8 xs) rfl ((HO.out.alloc _).alloc _) ⟨w.heap.size + 1, 0, none⟩ 4 4 (by8 (b32 false n)) rfl rfl ?c1 ?c2 ?c3 ?c4 ?c5 ?_)
  case c1 => exact new_cells _ _ (by8 (b32 false n)) _ (by simp)
  case c2 => exact by8_one _
  case c3 => unfold maxLen; omega
  case c4 => omega
  case c5 => simp; omega
  intro v' w1 hown hgrow _
  have HF : Hid (Fl w1 N v' (xs ++ b32 false n) ∧ Kept (fun k => (Value.slice oa xs.length oc).ownBlock = some k) w w1) := fl_fin (((Kept.refl _ w).alloc _).alloc _) hown hgrow rfl
  clear hown hgrow
  go_wp2_with fail
  go_ret
  exact ⟨v', rfl, HF.out⟩

set_option maxHeartbeats 1000000 in
set_option maxRecDepth 100000 in
theorem ap16be (N : Nat) (v : Value) (xs : List Int) (n : Int) (w : World) (h : Fl w N v xs) (hN : N ≤ w.heap.size) (hl : xs.length ≤ 4000000) (hn : 0 ≤ n ∧ n ≤ 65535) :
    Calls Ybaf.prog 14 #[.agg #[], v, .int .u16 n] w fun e w' => ∃ v' : Value, e = .returned v' ∧ Fl w' N v' (xs ++ b16 true n) ∧ Kept (fun k => v.ownBlock = some k) w w' := by
  obtain ⟨i0, hi, hz0, hz1, hz2⟩ := info_parts info5
  obtain ⟨oa, oc, rfl⟩ := owns_form h
  have HO : Hid (w.ownsRow N 5 1 (.slice oa xs.length oc) xs.length (by8 xs)) := h
  clear h
  go_enter Ybaf.func14, Ybaf.ntmps14
  go_wp2_with (at_builtin; refine wpList_append_own _ rfl (.tmp 7) (.tmp 13) 24 rfl N 5 i0 _ 1 1 Ybaf.underlying24 hi hz0 hz1 hz2 rfl (by decide) (.slice oa xs.length oc) xs.length (by8 xs) rfl ((HO.out.alloc _).alloc _) ⟨w.heap.size + 1, 0, none⟩ 2 2 (by8 (b16 true n)) rfl rfl ?c1 ?c2 ?c3 ?c4 ?c5 ?_)
  case c1 => exact new_cells _ _ (by8 (b16 true n)) _ (by simp)
  case c2 => exact by8_one _
  case c3 => unfold maxLen; omega
  case c4 => omega
  case c5 => simp; omega
  intro v' w1 hown hgrow _
  have HF : Hid (Fl w1 N v' (xs ++ b16 true n) ∧ Kept (fun k => (Value.slice oa xs.length oc).ownBlock = some k) w w1) := fl_fin (((Kept.refl _ w).alloc _).alloc _) hown hgrow rfl
  clear hown hgrow
  go_wp2_with fail
  go_ret
  exact ⟨v', rfl, HF.out⟩

set_option maxHeartbeats 1000000 in
set_option maxRecDepth 100000 in
theorem ap16le (N : Nat) (v : Value) (xs : List Int) (n : Int) (w : World) (h : Fl w N v xs) (hN : N ≤ w.heap.size) (hl : xs.length ≤ 4000000) (hn : 0 ≤ n ∧ n ≤ 65535) :
    Calls Ybaf.prog 15 #[.agg #[], v, .int .u16 n] w fun e w' => ∃ v' : Value, e = .returned v' ∧ Fl w' N v' (xs ++ b16 false n) ∧ Kept (fun k => v.ownBlock = some k) w w' := by
  obtain ⟨i0, hi, hz0, hz1, hz2⟩ := info_parts info5
  obtain ⟨oa, oc, rfl⟩ := owns_form h
  have HO : Hid (w.ownsRow N 5 1 (.slice oa xs.length oc) xs.length (by8 xs)) := h
  clear h
  go_enter Ybaf.func15, Ybaf.ntmps15
  go_wp2_with (at_builtin; refine wpList_append_own _ rfl (.tmp 7) (.tmp 13) 24 rfl N 5 i0 _ 1 1 Ybaf.underlying24 hi hz0 hz1 hz2 rfl (by decide) (.slice oa xs.length oc) xs.length (by8 xs) rfl ((HO.out.alloc _).alloc _) ⟨w.heap.size + 1, 0, none⟩ 2 2 (by8 (b16 false n)) rfl rfl ?c1 ?c2 ?c3 ?c4 ?c5 ?_)
  case c1 => exact new_cells _ _ (by8 (b16 false n)) _ (by simp)
  case c2 => exact by8_one _
  case c3 => unfold maxLen; omega
  case c4 => omega
  case c5 => simp; omega
  intro v' w1 hown hgrow _
  have HF : Hid (Fl w1 N v' (xs ++ b16 false n) ∧ Kept (fun k => (Value.slice oa xs.length oc).ownBlock = some k) w w1) := fl_fin (((Kept.refl _ w).alloc _).alloc _) hown hgrow rfl
  clear hown hgrow
  go_wp2_with fail
  go_ret
  exact ⟨v', rfl, HF.out⟩

set_option maxHeartbeats 1000000 in
set_option maxRecDepth 100000 in
theorem put32 (N : Nat) (v : Value) (xs : List Int) (big : Bool) (n : Int) (w : World) (h : Fl w N v xs) (hN : N ≤ w.heap.size) (hl : xs.length ≤ 4000000) (hn : 0 ≤ n ∧ n ≤ 4294967295) :
    Calls Ybaf.prog 5 #[v, .bool big, .int .u32 n] w fun e w' => ∃ v' : Value, e = .returned v' ∧ Fl w' N v' (xs ++ b32 big n) ∧ Kept (fun k => v.ownBlock = some k) w w' := by
  cases big with
  | true =>
    have HC : Hid _ := ap32be N v xs n w h hN hl hn
    clear h
    go_enter Ybaf.func5, Ybaf.ntmps5
    go_wp2_with fail
    refine Calls.mono HC.out ?_
    rintro _ w1 ⟨v', rfl, hF⟩
    have HF : Hid (Fl w1 N v' (xs ++ b32 true n) ∧ Kept (fun k => v.ownBlock = some k) w w1) := hF
    clear hF HC
    go_wp2_with fail
    go_ret
    exact ⟨v', rfl, HF.out⟩
  | false =>
    have HC : Hid _ := ap32le N v xs n w h hN hl hn
    clear h
    go_enter Ybaf.func5, Ybaf.ntmps5
    go_wp2_with fail
    refine Calls.mono HC.out ?_
    rintro _ w1 ⟨v', rfl, hF⟩
    have HF : Hid (Fl w1 N v' (xs ++ b32 false n) ∧ Kept (fun k => v.ownBlock = some k) w w1) := hF
    clear hF HC
    go_wp2_with fail
    go_ret
    exact ⟨v', rfl, HF.out⟩

set_option maxHeartbeats 1000000 in
set_option maxRecDepth 100000 in
theorem put16 (N : Nat) (v : Value) (xs : List Int) (big : Bool) (n : Int) (w : World) (h : Fl w N v xs) (hN : N ≤ w.heap.size) (hl : xs.length ≤ 4000000) (hn : 0 ≤ n ∧ n ≤ 65535) :
    Calls Ybaf.prog 6 #[v, .bool big, .int .u16 n] w fun e w' => ∃ v' : Value, e = .returned v' ∧ Fl w' N v' (xs ++ b16 big n) ∧ Kept (fun k => v.ownBlock = some k) w w' := by
  cases big with
  | true =>
    have HC : Hid _ := ap16be N v xs n w h hN hl hn
    clear h
    go_enter Ybaf.func6, Ybaf.ntmps6
    go_wp2_with fail
    refine Calls.mono HC.out ?_
    rintro _ w1 ⟨v', rfl, hF⟩
    have HF : Hid (Fl w1 N v' (xs ++ b16 true n) ∧ Kept (fun k => v.ownBlock = some k) w w1) := hF
    clear hF HC
    go_wp2_with fail
    go_ret
    exact ⟨v', rfl, HF.out⟩
  | false =>
    have HC : Hid _ := ap16le N v xs n w h hN hl hn
    clear h
    go_enter Ybaf.func6, Ybaf.ntmps6
    go_wp2_with fail
    refine Calls.mono HC.out ?_
    rintro _ w1 ⟨v', rfl, hF⟩
    have HF : Hid (Fl w1 N v' (xs ++ b16 false n) ∧ Kept (fun k => v.ownBlock = some k) w w1) := hF
    clear hF HC
    go_wp2_with fail
    go_ret
    exact ⟨v', rfl, HF.out⟩

end Go.Proofs.YbulkbgsmFmt
