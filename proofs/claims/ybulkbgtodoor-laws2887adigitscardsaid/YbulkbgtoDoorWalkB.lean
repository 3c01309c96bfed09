import Derived.Test.YbulkbgtoDoorWalkA
import Derived.Test.YbulkbgtoDoorShelf
namespace Go.Proofs.YbulkbgtoDoor
open Go.RowKit

/-- A slice of bytes that can be read in w: the numbers 'xs'. -/
structure Reads (w : World) (a : Option Addr) (len cap : Nat) (xs : List Int) : Prop where
  n : xs.length = len
  le : len ≤ cap
  big : cap ≤ 9223372036854775807
  byte : ∀ n ∈ xs, 0 ≤ n ∧ n ≤ 255
  at' : len = 0 ∨ ∃ b off, a = some ⟨b, off, none⟩ ∧ ∀ i, i < len → w.cell? ⟨b, off + i, none⟩ = some (.int .u8 (xs.getD i 0))

theorem Reads.later {w w' : World} {a : Option Addr} {len cap : Nat} {xs : List Int} (h : Reads w a len cap xs) (hb : Below w.heap.size w w') : Reads w' a len cap xs := by
  refine ⟨h.n, h.le, h.big, h.byte, ?_⟩
  rcases h.at' with h0 | ⟨b, off, rfl, hc⟩
  · exact .inl h0
  · refine .inr ⟨b, off, rfl, fun i hi => ?_⟩
    have := hc i hi
    rw [← this]
    exact hb.cell (p := ⟨b, off + i, none⟩) (Lib.lt_of_cell this)

/-- 'string(b)' of a slice of no byte, whatever its address. -/
theorem conv_zero (w : World) (p : Option Addr) (c : Nat) : ∀ dst, Ybad.prog.underlying dst = some .string → (convert 22 dst (.slice p 0 c)).run Ybad.prog w = .ok (.string (strOfNums [])) w := by
  intro dst hd
  rw [run_convert_bytes_string w 22 dst 5 _ 0 c Ybad.underlying22 Ybad.underlying5 hd]
  cases p <;> simp [Conv.bytesToString, loadCells]
  all_goals rfl

theorem Reads.conv {w : World} {a : Option Addr} {len cap : Nat} {xs : List Int} (h : Reads w a len cap xs) :
    ∀ dst, Ybad.prog.underlying dst = some .string → (convert 22 dst (.slice a len cap)).run Ybad.prog w = .ok (.string (strOfNums xs)) w := by
  rcases h.at' with h0 | ⟨b, off, rfl, hc⟩
  · have hx : xs = [] := List.length_eq_zero_iff.1 (by rw [h.n]; exact h0)
    subst hx h0
    exact conv_zero w a cap
  · exact run_convert_bytes_arg w 22 5 Ybad.underlying22 Ybad.underlying5 b off len cap xs h.n hc

theorem Reads.take {w : World} {a : Option Addr} {len cap : Nat} {xs : List Int} (h : Reads w a len cap xs) (k : Nat) (hk : k ≤ len) : Reads w a k cap (xs.take k) := by
  have hle := h.le
  have hn := h.n
  refine ⟨by simp; omega, by omega, h.big, fun n hn => h.byte n (List.mem_of_mem_take hn), ?_⟩
  rcases h.at' with h0 | ⟨b, off, rfl, hc⟩
  · exact .inl (by omega)
  · refine .inr ⟨b, off, rfl, fun i hi => ?_⟩
    rw [hc i (by omega)]
    simp [List.getD, hi]

theorem newPE (ad rs : ByteArray) (a : Option Addr) (len cap : Nat) (ys : List Int) (w : World) (h : Reads w a len cap ys) :
    Calls Ybad.prog 9 #[.string ad, .string rs, .slice a len cap] w fun e w' => e = .returned (.pointer (some ⟨w.heap.size, 0, none⟩)) ∧ w' = w.alloc (.cells #[.string ad, .string rs, .string (strOfNums (ys.take 64))] 61) := by
  have hn := h.n
  by_cases hl : len ≤ 64
  · rw [List.take_of_length_le (by omega)]
    exact newPE_short ad rs a len cap _ w hl h.conv
  · rcases h.at' with h0 | ⟨b, off, rfl, _⟩
    · omega
    · exact newPE_long ad rs b off len cap _ w (by omega) h.le h.big (h.take 64 (by omega)).conv

theorem parse_reads (a : Option Addr) (len cap : Nat) (xs : List Int) (w : World) (h : Reads w a len cap xs) (hbig : len ≤ 4096) :
    Calls Ybad.prog 7 #[.slice a len cap] w fun e w' => e = .returned (parseTuple (parseV xs)) ∧ w' = w := by
  by_cases h0 : len = 0
  · have hx : xs = [] := List.length_eq_zero_iff.1 (by rw [h.n]; exact h0)
    subst hx h0
    exact parse_empty a cap w
  · rcases h.at' with h1 | ⟨b, off, rfl, hc⟩
    · exact absurd h1 h0
    · exact parse_any b off len cap xs w h.n (by omega) hbig hc h.byte

set_option maxRecDepth 100000 in
set_option maxHeartbeats 400000 in
theorem size_ok (c : Nat) (ad : ByteArray) (mx : Int) (la : Option Addr) (ll lc : Nat) (sa : Option Addr) (sl sc : Nat) (xs : List Int) (w : World)
    (hs : Reads w sa sl sc xs) (hbig : sl ≤ 4096) (hc0 : w.cell? ⟨c, 0, none⟩ = some (.string ad)) (hc4 : w.cell? ⟨c, 4, none⟩ = some (.int .i64 mx))
    (u : Nat) (hu : Lib.parseUintB 32 (strOfNums xs).data.toList = .ok u) (hu32 : u ≤ 4294967295) (hle : (u : Int) ≤ IntKind.u64.wrap mx) :
    Calls Ybad.prog 6 #[.pointer (some ⟨c, 0, none⟩), .slice la ll lc, .slice sa sl sc] w fun e w' => e = .returned (.tuple #[.int .i64 u, .nilIface]) ∧ Below w.heap.size w w' := by
  have hconv := hs.conv
  have hsz : (strOfNums xs).size ≤ 4096 := by rw [strOfNums_size, hs.n]; exact hbig
  go_enter Ybad.func6, Ybad.ntmps6
  go_wp2_with fail
  refine (Ybad.strconv_ParseUint_10_at32_ok _ (by omega) u hu _).mono ?_
  rintro e w1 ⟨rfl, hw1⟩
  have hb1 : Below w.heap.size w w1 := by
    rcases hw1 with rfl | rfl
    · exact Below.refl _ _
    · exact Lib.bytesWorld_below _ _ _
  clear hw1 hconv hu hsz
  have hd0 : w1.cell? ⟨c, 0, none⟩ = some (.string ad) := (hb1.cell (p := ⟨c, 0, none⟩) (Lib.lt_of_cell hc0)).trans hc0
  have hd4 : w1.cell? ⟨c, 4, none⟩ = some (.int .i64 mx) := (hb1.cell (p := ⟨c, 4, none⟩) (Lib.lt_of_cell hc4)).trans hc4
  go_wp2
  go_ret2
  exact ⟨rfl, hb1⟩

set_option maxRecDepth 100000 in
set_option maxHeartbeats 400000 in
theorem size_over (c : Nat) (ad : ByteArray) (mx : Int) (la : Option Addr) (ll lc : Nat) (ys : List Int) (sa : Option Addr) (sl sc : Nat) (xs : List Int) (w : World)
    (hL : Reads w la ll lc ys) (hs : Reads w sa sl sc xs) (hbig : sl ≤ 4096) (hc0 : w.cell? ⟨c, 0, none⟩ = some (.string ad)) (hc4 : w.cell? ⟨c, 4, none⟩ = some (.int .i64 mx))
    (u : Nat) (hu : Lib.parseUintB 32 (strOfNums xs).data.toList = .ok u) (hgt : IntKind.u64.wrap mx < (u : Int)) :
    Calls Ybad.prog 6 #[.pointer (some ⟨c, 0, none⟩), .slice la ll lc, .slice sa sl sc] w fun e w' => ∃ N, e = .returned (.tuple #[.int .i64 0, .iface 58 (.pointer (some ⟨N, 0, none⟩))]) ∧ w.heap.size ≤ N ∧ w'.cell? ⟨N, 0, none⟩ = some (.string ad) ∧ w'.cell? ⟨N, 2, none⟩ = some (.string (strOfNums (ys.take 64))) ∧ Below w.heap.size w w' := by
  have hconv := hs.conv
  have hsz : (strOfNums xs).size ≤ 4096 := by rw [strOfNums_size, hs.n]; exact hbig
  go_enter Ybad.func6, Ybad.ntmps6
  go_wp2_with fail
  refine (Ybad.strconv_ParseUint_10_at32_ok _ (by omega) u hu _).mono ?_
  rintro e w1 ⟨rfl, hw1⟩
  have hb1 : Below w.heap.size w w1 := by
    rcases hw1 with rfl | rfl
    · exact Below.refl _ _
    · exact Lib.bytesWorld_below _ _ _
  have hd0 : w1.cell? ⟨c, 0, none⟩ = some (.string ad) := (hb1.cell (p := ⟨c, 0, none⟩) (Lib.lt_of_cell hc0)).trans hc0
  have hd4 : w1.cell? ⟨c, 4, none⟩ = some (.int .i64 mx) := (hb1.cell (p := ⟨c, 4, none⟩) (Lib.lt_of_cell hc4)).trans hc4
  clear hw1 hu
  have hL1 := hL.later hb1
  clear hL hs hconv hsz
  go_wp2_with (go_at_call 9; refine (newPE _ _ _ _ _ ys _ hL1).mono ?_; rintro e w2 ⟨rfl, rfl⟩)
  go_ret2
  exact ⟨_, rfl, hb1.size, World.cell?_alloc_at _ _ _ _ rfl, World.cell?_alloc_at _ _ _ _ rfl, hb1.trans ((Below.refl _ _).alloc hb1.size _)⟩

set_option maxRecDepth 100000 in
set_option maxHeartbeats 400000 in
theorem size_syn (c : Nat) (ad : ByteArray) (mx : Int) (la : Option Addr) (ll lc : Nat) (ys : List Int) (sa : Option Addr) (sl sc : Nat) (xs : List Int) (w : World)
    (hL : Reads w la ll lc ys) (hs : Reads w sa sl sc xs) (hbig : sl ≤ 4096) (hc0 : w.cell? ⟨c, 0, none⟩ = some (.string ad)) (hc4 : w.cell? ⟨c, 4, none⟩ = some (.int .i64 mx))
    (hu : Lib.parseUintB 32 (strOfNums xs).data.toList = bare) (tp : TypeId) (p : Value) (hvar : w.var? Ybad.prog "strconv.ErrSyntax" = some #[.iface tp p]) :
    Calls Ybad.prog 6 #[.pointer (some ⟨c, 0, none⟩), .slice la ll lc, .slice sa sl sc] w fun e w' => ∃ N, e = .returned (.tuple #[.int .i64 0, .iface 58 (.pointer (some ⟨N, 0, none⟩))]) ∧ w.heap.size ≤ N ∧ w'.cell? ⟨N, 0, none⟩ = some (.string ad) ∧ w'.cell? ⟨N, 2, none⟩ = some (.string (strOfNums (ys.take 64))) ∧ Below w.heap.size w w' := by
  have hconv := hs.conv
  have hsz : (strOfNums xs).size ≤ 4096 := by rw [strOfNums_size, hs.n]; exact hbig
  go_enter Ybad.func6, Ybad.ntmps6
  go_wp2_with fail
  refine (Any.strconv_ParseUint_10_at32_syntax_var Ybad.laysPu14 _ (by omega) hu tp p _ hvar).mono ?_
  rintro e w1 ⟨N, rfl, _, _, hb1⟩
  have hd0 : w1.cell? ⟨c, 0, none⟩ = some (.string ad) := (hb1.cell (p := ⟨c, 0, none⟩) (Lib.lt_of_cell hc0)).trans hc0
  have hd4 : w1.cell? ⟨c, 4, none⟩ = some (.int .i64 mx) := (hb1.cell (p := ⟨c, 4, none⟩) (Lib.lt_of_cell hc4)).trans hc4
  clear hvar hu
  have hL1 := hL.later hb1
  clear hL hs hconv hsz
  go_wp2_with (go_at_call 9; refine (newPE _ _ _ _ _ ys _ hL1).mono ?_; rintro e w2 ⟨rfl, rfl⟩)
  go_ret2
  exact ⟨_, rfl, hb1.size, World.cell?_alloc_at _ _ _ _ rfl, World.cell?_alloc_at _ _ _ _ rfl, hb1.trans ((Below.refl _ _).alloc hb1.size _)⟩

set_option maxRecDepth 100000 in
set_option maxHeartbeats 400000 in
theorem size_range (c : Nat) (ad : ByteArray) (mx : Int) (la : Option Addr) (ll lc : Nat) (ys : List Int) (sa : Option Addr) (sl sc : Nat) (xs : List Int) (w : World)
    (hL : Reads w la ll lc ys) (hs : Reads w sa sl sc xs) (hbig : sl ≤ 4096) (hc0 : w.cell? ⟨c, 0, none⟩ = some (.string ad)) (hc4 : w.cell? ⟨c, 4, none⟩ = some (.int .i64 mx))
    (hu : Lib.parseUintB 32 (strOfNums xs).data.toList = .range) (tp : TypeId) (p : Value) (hvar : w.var? Ybad.prog "strconv.ErrRange" = some #[.iface tp p]) :
    Calls Ybad.prog 6 #[.pointer (some ⟨c, 0, none⟩), .slice la ll lc, .slice sa sl sc] w fun e w' => ∃ N, e = .returned (.tuple #[.int .i64 0, .iface 58 (.pointer (some ⟨N, 0, none⟩))]) ∧ w.heap.size ≤ N ∧ w'.cell? ⟨N, 0, none⟩ = some (.string ad) ∧ w'.cell? ⟨N, 2, none⟩ = some (.string (strOfNums (ys.take 64))) ∧ Below w.heap.size w w' := by
  have hconv := hs.conv
  have hsz : (strOfNums xs).size ≤ 4096 := by rw [strOfNums_size, hs.n]; exact hbig
  go_enter Ybad.func6, Ybad.ntmps6
  go_wp2_with fail
  refine (Ybad.strconv_ParseUint_10_at32_range_var _ (by omega) hu tp p _ hvar).mono ?_
  rintro e w1 ⟨N, rfl, _, _, hb1⟩
  have hd0 : w1.cell? ⟨c, 0, none⟩ = some (.string ad) := (hb1.cell (p := ⟨c, 0, none⟩) (Lib.lt_of_cell hc0)).trans hc0
  have hd4 : w1.cell? ⟨c, 4, none⟩ = some (.int .i64 mx) := (hb1.cell (p := ⟨c, 4, none⟩) (Lib.lt_of_cell hc4)).trans hc4
  clear hvar hu
  have hL1 := hL.later hb1
  clear hL hs hconv hsz
  go_wp2_with (go_at_call 9; refine (newPE _ _ _ _ _ ys _ hL1).mono ?_; rintro e w2 ⟨rfl, rfl⟩)
  go_ret2
  exact ⟨_, rfl, hb1.size, World.cell?_alloc_at _ _ _ _ rfl, World.cell?_alloc_at _ _ _ _ rfl, hb1.trans ((Below.refl _ _).alloc hb1.size _)⟩

end Go.Proofs.YbulkbgtoDoor
