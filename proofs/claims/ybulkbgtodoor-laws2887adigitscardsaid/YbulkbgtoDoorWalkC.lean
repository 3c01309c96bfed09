import Derived.Test.YbulkbgtoDoorWalkB
import Derived.Deep.QuietTactic
import Derived.BigQuiet
namespace Go.Proofs.YbulkbgtoDoor
open Go.RowKit

/-- The law's own check where the token spells a length that is let by. -/
theorem parseTuple_some {xs : List Int} {v : Int} (h : parseV xs = some v) : parseTuple (parseV xs) = .tuple #[.int .u64 v, .bool true] := by rw [h]; rfl
theorem parseTuple_none {xs : List Int} (h : parseV xs = none) : parseTuple (parseV xs) = .tuple #[.int .u64 0, .bool false] := by rw [h]; rfl

theorem parse_some (a : Option Addr) (len cap : Nat) (xs : List Int) (w : World) (v : Int) (h : Reads w a len cap xs) (hbig : len ≤ 4096) (hv : parseV xs = some v) :
    Calls Ybad.prog 7 #[.slice a len cap] w fun e w' => e = .returned (.tuple #[.int .u64 v, .bool true]) ∧ w' = w := by
  rw [← parseTuple_some hv]; exact parse_reads a len cap xs w h hbig
theorem parse_none (a : Option Addr) (len cap : Nat) (xs : List Int) (w : World) (h : Reads w a len cap xs) (hbig : len ≤ 4096) (hv : parseV xs = none) :
    Calls Ybad.prog 7 #[.slice a len cap] w fun e w' => e = .returned (.tuple #[.int .u64 0, .bool false]) ∧ w' = w := by
  rw [← parseTuple_none hv]; exact parse_reads a len cap xs w h hbig

set_option maxRecDepth 100000 in
set_option maxHeartbeats 400000 in
theorem check_ok (ad : ByteArray) (mx : Int) (la : Option Addr) (ll lc : Nat) (sa : Option Addr) (sl sc : Nat) (xs : List Int) (w : World)
    (hs : Reads w sa sl sc xs) (hbig : sl ≤ 4096) (u : Nat) (hu : Lib.parseUintB 32 (strOfNums xs).data.toList = .ok u) (hle : (u : Int) ≤ IntKind.u64.wrap mx) :
    Calls Ybad.prog 5 #[.string ad, .int .i64 mx, .slice la ll lc, .slice sa sl sc] w fun e w' => e = .returned (.bool true) ∧ Below w.heap.size w w' := by
  obtain ⟨hv, hu32⟩ := parse_ok_of hs.byte hu
  have HU : Hid (Lib.parseUintB 32 (strOfNums xs).data.toList = .ok u) := hu
  have HV : Hid (parseV xs = some (u : Int)) := hv
  clear hu hv
  go_enter Ybad.func5, Ybad.ntmps5
  go_wp2_with fail
  refine (size_ok w.heap.size ad mx la ll lc sa sl sc xs _ ?_ hbig ?_ ?_ u HU.out hu32 hle).mono ?_
  · exact hs.later ((Below.refl _ _).alloc (Nat.le_refl _) _)
  · exact World.cell?_alloc_at _ _ _ _ rfl
  · exact World.cell?_alloc_at _ _ _ _ rfl
  rintro e w1 ⟨rfl, hb1⟩
  have hb : Below w.heap.size w w1 := ((Below.refl _ _).alloc (Nat.le_refl _) _).trans (hb1.mono (by simp))
  clear hb1
  go_wp2_with fail
  refine (parse_some sa sl sc xs _ u (hs.later hb) hbig HV.out).mono ?_
  rintro e w2 ⟨rfl, rfl⟩
  go_wp2
  go_ret
  exact ⟨rfl, hb⟩

/-- Why valueSize says no. -/
def Refused (w : World) (mx : Int) (xs : List Int) : Prop :=
  (∃ u : Nat, Lib.parseUintB 32 (strOfNums xs).data.toList = .ok u ∧ IntKind.u64.wrap mx < (u : Int)) ∨
  (Lib.parseUintB 32 (strOfNums xs).data.toList = bare ∧ ∃ tp p, w.var? Ybad.prog "strconv.ErrSyntax" = some #[.iface tp p]) ∨
  (Lib.parseUintB 32 (strOfNums xs).data.toList = .range ∧ ∃ tp p, w.var? Ybad.prog "strconv.ErrRange" = some #[.iface tp p])

theorem size_no (c : Nat) (ad : ByteArray) (mx : Int) (la : Option Addr) (ll lc : Nat) (ys : List Int) (sa : Option Addr) (sl sc : Nat) (xs : List Int) (w : World)
    (hL : Reads w la ll lc ys) (hs : Reads w sa sl sc xs) (hbig : sl ≤ 4096) (hc0 : w.cell? ⟨c, 0, none⟩ = some (.string ad)) (hc4 : w.cell? ⟨c, 4, none⟩ = some (.int .i64 mx)) (hr : Refused w mx xs) :
    Calls Ybad.prog 6 #[.pointer (some ⟨c, 0, none⟩), .slice la ll lc, .slice sa sl sc] w fun e w' => ∃ N, e = .returned (.tuple #[.int .i64 0, .iface 58 (.pointer (some ⟨N, 0, none⟩))]) ∧ w.heap.size ≤ N ∧ w'.cell? ⟨N, 0, none⟩ = some (.string ad) ∧ w'.cell? ⟨N, 2, none⟩ = some (.string (strOfNums (ys.take 64))) ∧ Below w.heap.size w w' := by
  rcases hr with ⟨u, hu, hgt⟩ | ⟨hu, tp, p, hv⟩ | ⟨hu, tp, p, hv⟩
  · exact size_over c ad mx la ll lc ys sa sl sc xs w hL hs hbig hc0 hc4 u hu hgt
  · exact size_syn c ad mx la ll lc ys sa sl sc xs w hL hs hbig hc0 hc4 hu tp p hv
  · exact size_range c ad mx la ll lc ys sa sl sc xs w hL hs hbig hc0 hc4 hu tp p hv

theorem assert_pe (a : Option Addr) (w : World) : (Instr.typeAssert (.iface 58 (.pointer a)) 50 58 true).run Ybad.prog w = .ok (.tuple #[.pointer a, .bool true]) w := by kernel_rfl

set_option maxRecDepth 100000 in
set_option maxHeartbeats 400000 in
theorem check_bad (ad : ByteArray) (mx : Int) (la : Option Addr) (ll lc : Nat) (ys : List Int) (sa : Option Addr) (sl sc : Nat) (xs : List Int) (w : World)
    (hL : Reads w la ll lc ys) (hs : Reads w sa sl sc xs) (hbig : sl ≤ 4096) (hll : ll ≤ 64) (hv : parseV xs = none)
    (hr : ∀ o, Refused (w.alloc o) mx xs) :
    Calls Ybad.prog 5 #[.string ad, .int .i64 mx, .slice la ll lc, .slice sa sl sc] w fun e w' => e = .returned (.bool true) ∧ Below w.heap.size w w' := by
  have HV : Hid (parseV xs = none) := hv
  have HR : Hid (∀ o, Refused (w.alloc o) mx xs) := hr
  clear hr hv
  go_enter Ybad.func5, Ybad.ntmps5
  go_wp2_with fail
  refine (size_no w.heap.size ad mx la ll lc ys sa sl sc xs _ ?_ ?_ hbig ?_ ?_ (HR.out _)).mono ?_
  · exact hL.later ((Below.refl _ _).alloc (Nat.le_refl _) _)
  · exact hs.later ((Below.refl _ _).alloc (Nat.le_refl _) _)
  · exact World.cell?_alloc_at _ _ _ _ rfl
  · exact World.cell?_alloc_at _ _ _ _ rfl
  rintro e w1 ⟨N, rfl, hN, hn0, hn2, hb1⟩
  have hb : Below w.heap.size w w1 := ((Below.refl _ _).alloc (Nat.le_refl _) _).trans (hb1.mono (by simp))
  clear hb1 HR
  go_wp2_with fail
  refine (parse_none sa sl sc xs _ (hs.later hb) hbig HV.out).mono ?_
  rintro e w2 ⟨rfl, rfl⟩
  have hconv := fun n => (hL.later (below_drewN hb n)).conv
  rw [List.take_of_length_le (by rw [hL.n]; exact hll)] at hn2
  clear hs hL HV hN
  have hta := assert_pe
  go_wp2
  go_quiet (fail)
  go_wp2
  go_ret
  exact ⟨rfl, below_drewN hb _⟩

set_option maxRecDepth 100000 in
set_option maxHeartbeats 400000 in
theorem check_bad_long (ad : ByteArray) (mx : Int) (lb lo : Nat) (ll lc : Nat) (ys : List Int) (sa : Option Addr) (sl sc : Nat) (xs : List Int) (w : World)
    (hL : Reads w (some ⟨lb, lo, none⟩) ll lc ys) (hs : Reads w sa sl sc xs) (hbig : sl ≤ 4096) (hll : 64 < ll) (hv : parseV xs = none)
    (hr : ∀ o, Refused (w.alloc o) mx xs) :
    Calls Ybad.prog 5 #[.string ad, .int .i64 mx, .slice (some ⟨lb, lo, none⟩) ll lc, .slice sa sl sc] w fun e w' => e = .returned (.bool true) ∧ Below w.heap.size w w' := by
  have HV : Hid (parseV xs = none) := hv
  have HR : Hid (∀ o, Refused (w.alloc o) mx xs) := hr
  clear hr hv
  go_enter Ybad.func5, Ybad.ntmps5
  go_wp2_with fail
  refine (size_no w.heap.size ad mx (some ⟨lb, lo, none⟩) ll lc ys sa sl sc xs _ ?_ ?_ hbig ?_ ?_ (HR.out _)).mono ?_
  · exact hL.later ((Below.refl _ _).alloc (Nat.le_refl _) _)
  · exact hs.later ((Below.refl _ _).alloc (Nat.le_refl _) _)
  · exact World.cell?_alloc_at _ _ _ _ rfl
  · exact World.cell?_alloc_at _ _ _ _ rfl
  rintro e w1 ⟨N, rfl, hN, hn0, hn2, hb1⟩
  have hb : Below w.heap.size w w1 := ((Below.refl _ _).alloc (Nat.le_refl _) _).trans (hb1.mono (by simp))
  clear hb1 HR
  go_wp2_with fail
  refine (parse_none sa sl sc xs _ (hs.later hb) hbig HV.out).mono ?_
  rintro e w2 ⟨rfl, rfl⟩
  have hconv := fun n => ((hL.take 64 (by omega)).later (below_drewN hb n)).conv
  have hlc : (64 : Int) ≤ (lc : Int) := by have := hL.le; omega
  have hlc2 : lc ≤ 9223372036854775807 := hL.big
  clear hs hL HV hN
  have hta := assert_pe
  go_wp2
  go_quiet (fail)
  go_wp2
  go_ret
  exact ⟨rfl, below_drewN hb _⟩

set_option maxRecDepth 100000 in
set_option maxHeartbeats 400000 in
theorem check_over (ad : ByteArray) (mx : Int) (la : Option Addr) (ll lc : Nat) (ys : List Int) (sa : Option Addr) (sl sc : Nat) (xs : List Int) (w : World)
    (hL : Reads w la ll lc ys) (hs : Reads w sa sl sc xs) (hbig : sl ≤ 4096) (hll : ll ≤ 64) (u : Nat) (hv : parseV xs = some (u : Int)) (hgt : IntKind.u64.wrap mx < (u : Int))
    (hr : ∀ o, Refused (w.alloc o) mx xs) :
    Calls Ybad.prog 5 #[.string ad, .int .i64 mx, .slice la ll lc, .slice sa sl sc] w fun e w' => e = .returned (.bool true) ∧ Below w.heap.size w w' := by
  have HV : Hid (parseV xs = some (u : Int)) := hv
  have HR : Hid (∀ o, Refused (w.alloc o) mx xs) := hr
  clear hr hv
  go_enter Ybad.func5, Ybad.ntmps5
  go_wp2_with fail
  refine (size_no w.heap.size ad mx la ll lc ys sa sl sc xs _ ?_ ?_ hbig ?_ ?_ (HR.out _)).mono ?_
  · exact hL.later ((Below.refl _ _).alloc (Nat.le_refl _) _)
  · exact hs.later ((Below.refl _ _).alloc (Nat.le_refl _) _)
  · exact World.cell?_alloc_at _ _ _ _ rfl
  · exact World.cell?_alloc_at _ _ _ _ rfl
  rintro e w1 ⟨N, rfl, hN, hn0, hn2, hb1⟩
  have hb : Below w.heap.size w w1 := ((Below.refl _ _).alloc (Nat.le_refl _) _).trans (hb1.mono (by simp))
  clear hb1 HR
  go_wp2_with fail
  refine (parse_some sa sl sc xs _ u (hs.later hb) hbig HV.out).mono ?_
  rintro e w2 ⟨rfl, rfl⟩
  have hconv := fun n => (hL.later (below_drewN hb n)).conv
  rw [List.take_of_length_le (by rw [hL.n]; exact hll)] at hn2
  clear hs hL HV hN
  have hta := assert_pe
  go_wp2
  go_quiet (fail)
  go_wp2
  go_ret
  exact ⟨rfl, below_drewN hb _⟩

set_option maxRecDepth 100000 in
set_option maxHeartbeats 400000 in
theorem check_over_long (ad : ByteArray) (mx : Int) (lb lo : Nat) (ll lc : Nat) (ys : List Int) (sa : Option Addr) (sl sc : Nat) (xs : List Int) (w : World)
    (hL : Reads w (some ⟨lb, lo, none⟩) ll lc ys) (hs : Reads w sa sl sc xs) (hbig : sl ≤ 4096) (hll : 64 < ll) (u : Nat) (hv : parseV xs = some (u : Int)) (hgt : IntKind.u64.wrap mx < (u : Int))
    (hr : ∀ o, Refused (w.alloc o) mx xs) :
    Calls Ybad.prog 5 #[.string ad, .int .i64 mx, .slice (some ⟨lb, lo, none⟩) ll lc, .slice sa sl sc] w fun e w' => e = .returned (.bool true) ∧ Below w.heap.size w w' := by
  have HV : Hid (parseV xs = some (u : Int)) := hv
  have HR : Hid (∀ o, Refused (w.alloc o) mx xs) := hr
  clear hr hv
  go_enter Ybad.func5, Ybad.ntmps5
  go_wp2_with fail
  refine (size_no w.heap.size ad mx (some ⟨lb, lo, none⟩) ll lc ys sa sl sc xs _ ?_ ?_ hbig ?_ ?_ (HR.out _)).mono ?_
  · exact hL.later ((Below.refl _ _).alloc (Nat.le_refl _) _)
  · exact hs.later ((Below.refl _ _).alloc (Nat.le_refl _) _)
  · exact World.cell?_alloc_at _ _ _ _ rfl
  · exact World.cell?_alloc_at _ _ _ _ rfl
  rintro e w1 ⟨N, rfl, hN, hn0, hn2, hb1⟩
  have hb : Below w.heap.size w w1 := ((Below.refl _ _).alloc (Nat.le_refl _) _).trans (hb1.mono (by simp))
  clear hb1 HR
  go_wp2_with fail
  refine (parse_some sa sl sc xs _ u (hs.later hb) hbig HV.out).mono ?_
  rintro e w2 ⟨rfl, rfl⟩
  have hconv := fun n => ((hL.take 64 (by omega)).later (below_drewN hb n)).conv
  have hlc : (64 : Int) ≤ (lc : Int) := by have := hL.le; omega
  have hlc2 : lc ≤ 9223372036854775807 := hL.big
  clear hs hL HV hN
  have hta := assert_pe
  go_wp2
  go_quiet (fail)
  go_wp2
  go_ret
  exact ⟨rfl, below_drewN hb _⟩

/-- THE LAW's CHECK, AT EVERY INPUT: true. -/
theorem check_all (ad : ByteArray) (mx : Int) (la : Option Addr) (ll lc : Nat) (ys : List Int) (sa : Option Addr) (sl sc : Nat) (xs : List Int) (w : World)
    (hL : Reads w la ll lc ys) (hs : Reads w sa sl sc xs) (hbig : sl ≤ 4096) (g0 g1 : Nat) (hg0 : Ybad.prog.globalNamed "strconv.ErrSyntax" = some g0) (hg1 : Ybad.prog.globalNamed "strconv.ErrRange" = some g1) (hlt0 : g0 < w.heap.size) (hlt1 : g1 < w.heap.size)
    (h1 : ∃ tp p, w.var? Ybad.prog "strconv.ErrSyntax" = some #[.iface tp p]) (h2 : ∃ tp p, w.var? Ybad.prog "strconv.ErrRange" = some #[.iface tp p]) :
    Calls Ybad.prog 5 #[.string ad, .int .i64 mx, .slice la ll lc, .slice sa sl sc] w fun e w' => e = .returned (.bool true) ∧ Below w.heap.size w w' := by
  obtain ⟨t1, p1, h1⟩ := h1
  obtain ⟨t2, p2, h2⟩ := h2
  have h1' : ∀ o, (w.alloc o).var? Ybad.prog "strconv.ErrSyntax" = some #[.iface t1 p1] := fun o => var?_below ((Below.refl _ _).alloc (Nat.le_refl _) _) hg0 hlt0 h1
  have h2' : ∀ o, (w.alloc o).var? Ybad.prog "strconv.ErrRange" = some #[.iface t2 p2] := fun o => var?_below ((Below.refl _ _).alloc (Nat.le_refl _) _) hg1 hlt1 h2
  have bad : parseV xs = none → (∀ o, Refused (w.alloc o) mx xs) → Calls Ybad.prog 5 #[.string ad, .int .i64 mx, .slice la ll lc, .slice sa sl sc] w fun e w' => e = .returned (.bool true) ∧ Below w.heap.size w w' := by
    intro hv hr
    by_cases hll : ll ≤ 64
    · exact check_bad ad mx la ll lc ys sa sl sc xs w hL hs hbig hll hv hr
    · rcases hL.at' with h0 | ⟨b, off, rfl, _⟩
      · omega
      · exact check_bad_long ad mx b off ll lc ys sa sl sc xs w hL hs hbig (by omega) hv hr
  rcases num_ends (Lib.parseUintB 32 (strOfNums xs).data.toList) with ⟨u, hu⟩ | hu | hu
  · by_cases hle : (u : Int) ≤ IntKind.u64.wrap mx
    · exact check_ok ad mx la ll lc sa sl sc xs w hs hbig u hu hle
    · have hr : ∀ o, Refused (w.alloc o) mx xs := fun o => .inl ⟨u, hu, by omega⟩
      have hv := (parse_ok_of hs.byte hu).1
      by_cases hll : ll ≤ 64
      · exact check_over ad mx la ll lc ys sa sl sc xs w hL hs hbig hll u hv (by omega) hr
      · rcases hL.at' with h0 | ⟨b, off, rfl, _⟩
        · omega
        · exact check_over_long ad mx b off ll lc ys sa sl sc xs w hL hs hbig (by omega) u hv (by omega) hr
  · exact bad (parse_none_of hs.byte (fun u => by rw [hu]; exact range_ne u)) fun o => .inr (.inr ⟨hu, t2, p2, h2' o⟩)
  · exact bad (parse_none_of hs.byte (fun u => by rw [hu]; exact bare_ne u)) fun o => .inr (.inl ⟨hu, t1, p1, h1' o⟩)
end Go.Proofs.YbulkbgtoDoor
