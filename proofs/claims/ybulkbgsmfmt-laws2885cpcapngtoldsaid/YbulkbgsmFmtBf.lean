import Derived.Test.YbulkbgsmFmtRd
namespace Go.Proofs.YbulkbgsmFmt
open Go.RowKit

/-- The buffered reader's cells. -/
def bfc (U Y : Nat) (r v : Nat) (er : Value) (lb lr : Int) : List Value := [.slice (some ⟨U, 0, none⟩) 4096 4096, .iface 34 (.pointer (some ⟨Y, 0, none⟩)), .int .i64 (r : Int), .int .i64 (v : Int), er, .int .i64 lb, .int .i64 lr]

/-- A buffered reader B over a bytes.Reader Y over the bytes L: i read from Y, buffer's window r to v. -/
structure Sm (w : World) (B Y U D cap : Nat) (L : List Int) (i r v : Nat) (er : Value) : Prop where
  buf : ∃ lb lr : Int, Row w B 79 (bfc U Y r v er lb lr)
  rdr : ∃ pr : Int, Row w Y 73 [.slice (some ⟨D, 0, none⟩) L.length cap, .int .i64 (i : Int), .int .i64 pr]
  win : ∃ us : List Int, us.length = 4096 ∧ Row w U 5 (by8 us) ∧ (us.drop r).take (v - r) = (L.drop (i - (v - r))).take (v - r)
  dat : ∃ rest, Row w D 5 (by8 L ++ rest)
  rv : r ≤ v
  v4 : v ≤ 4096
  vi : v - r ≤ i
  iL : i ≤ L.length
  hL : L.length ≤ 4000000
  cp : L.length ≤ cap
  nBY : B ≠ Y
  nBU : B ≠ U
  nBD : B ≠ D
  nYU : Y ≠ U
  nYD : Y ≠ D
  nUD : U ≠ D

set_option maxHeartbeats 400000 in
set_option maxRecDepth 100000 in
theorem readErr_walk (B U Y r v : Nat) (er : Value) (lb lr : Int) (w : World) (h : Row w B 79 (bfc U Y r v er lb lr)) :
    Calls Ybaf.prog 26 #[.pointer (some ⟨B, 0, none⟩)] w fun e w' => e = .returned er ∧ w' = w.setCell ⟨B, 4, none⟩ .nilIface := by
  go_enter Ybaf.func26, Ybaf.ntmps26
  have c4 : w.cell? ⟨B, 4, none⟩ = some er := h.cell 4
  have f4 := h.frozen 4
  go_wp2_with fail
  go_ret
  exact ⟨rfl, rfl⟩

theorem take_win {us L : List Int} {r i k m : Nat} (h : (us.drop r).take k = (L.drop i).take k) (hm : m ≤ k) : (us.drop r).take m = (L.drop i).take m := by
  have := congrArg (List.take m) h
  simpa [List.take_take, Nat.min_eq_left hm] using this

set_option maxHeartbeats 1000000 in
set_option maxRecDepth 100000 in
/-- (*bufio.Reader).Read out of the buffer. -/
theorem bf_read1 (B U Y P off n c r v : Nat) (er : Value) (lb lr : Int) (us : List Int) (ps : List Value) (w : World) (hB : Row w B 79 (bfc U Y r v er lb lr)) (hus : us.length = 4096) (hU : Row w U 5 (by8 us)) (hrv : r < v) (hv : v ≤ 4096) (hn : 0 < n) (hn2 : n ≤ 100000000)
    (hP : Row w P 5 ps) (hfit : off + n ≤ ps.length) (hBP : B ≠ P) (hUP : U ≠ P) (hBU : B ≠ U) (m : Nat) (hm : Nat.min (v - r) n = m) :
    Calls Ybaf.prog 66 #[.pointer (some ⟨B, 0, none⟩), .slice (some ⟨P, off, none⟩) n c] w fun e w' => e = .returned (.tuple #[.int .i64 (m : Int), .nilIface]) ∧
      (∃ lb lr : Int, Row w' B 79 (bfc U Y (r + m) v er lb lr)) ∧ Row w' P 5 (splice ps off (by8 ((us.drop r).take m))) ∧ Kept (fun k => k = B ∨ k = P) w w' := by
  go_enter Ybaf.func66, Ybaf.ntmps66
  have c0 : w.cell? ⟨B, 0, none⟩ = some (.slice (some ⟨U, 0, none⟩) 4096 4096) := hB.cell 0
  have c2 : w.cell? ⟨B, 2, none⟩ = some (.int .i64 (r : Int)) := hB.cell 2
  have c3 : w.cell? ⟨B, 3, none⟩ = some (.int .i64 (v : Int)) := hB.cell 3
  have hn0 : ¬ (n : Int) = 0 := by omega
  have hrv1 : ¬ (r : Int) = (v : Int) := by omega
  have hr0 : (0 : Int) ≤ (r : Int) := by omega
  have hr1 : (r : Int) ≤ (v : Int) := by omega
  have hr2 : (v : Int) ≤ 4096 := by omega
  have hr3 : ¬ 4096 = r := by omega
  have hm2 : m ≤ v - r := by rw [← hm]; exact Nat.min_le_left _ _
  have hm3 : m ≤ n := by rw [← hm]; exact Nat.min_le_right _ _
  have hm4 : 0 < m := by
    rw [← hm]
    exact Nat.lt_min.2 ⟨by omega, hn⟩
  have hlen : ((us.drop r).take m).length = m := by simp [hus]; omega
  have hwr : IntKind.i64.wrap ((r : Int) + (m : Int)) = (r : Int) + (m : Int) := IntWalk.i64_in _ (by omega)
  obtain ⟨q, hq⟩ : ∃ q : Nat, q + 1 = r + m := ⟨r + m - 1, by omega⟩
  have hwq : IntKind.i64.wrap ((r : Int) + (m : Int) - 1) = (q : Int) := by rw [show (r : Int) + (m : Int) - 1 = (q : Int) by omega]; exact IntWalk.i64_in _ (by omega)
  have hq1 : (q : Int) < 4096 := by omega
  have hq2 : (0 : Int) ≤ (q : Int) := by omega
  have hq3 : q < us.length := by omega
  go_wp2_with fail
  go_quiet (fail)
  go_wp2_with fail
  refine still_tail 14 mixed (by kernel_rfl) ?_
  simp only [List.take_succ_cons, List.take_zero, List.drop_succ_cons, List.drop_zero]
  repeat still_step
  try refine wpStill_nil ?_
  have hBd : Row (w.drewN nq).drew B 79 (bfc U Y r v er lb lr) := hB
  have hPd : Row (w.drewN nq).drew P 5 ps := hP
  have hUd : Row (w.drewN nq).drew U 5 (by8 us ++ []) := by rw [List.append_nil]; exact hU
  refine wpList_copy_kept rfl (.tmp 109) (.tmp 122) 24 24 rfl 5 Ybaf.underlying24 Ybaf.size5 _ _ _ _ _ _ rfl rfl P off ps 5 hPd (by8 ((us.drop r).take m)) ?c1 ?c2 ?c3 (by8_one _) ?_
  case c1 => rw [by8_len, hlen]; exact hm.symm
  case c2 => exact fun _ => ⟨rfl, _, rfl, by8_at hUd r m⟩
  case c3 => rw [by8_len, hlen]; omega
  rw [by8_len, hlen]
  intro w' hP' hk'
  have hB' := hBd.kept hk' hBP
  have hU' : Row w' U 5 (by8 us) := by
    have := hUd.kept hk' hUP
    rwa [List.append_nil] at this
  have hk0 : Kept (fun k => k = B ∨ k = P) w w' := ((Kept.refl _ w).drewN nq).drew.trans (hk'.mono (fun _ _ h => .inr h))
  have d0 : w'.cell? ⟨B, 0, none⟩ = some (.slice (some ⟨U, 0, none⟩) 4096 4096) := hB'.cell 0
  have d2 : w'.cell? ⟨B, 2, none⟩ = some (.int .i64 (r : Int)) := hB'.cell 2
  have d5 : w'.cell? ⟨B, 5, none⟩ = some (.int .i64 lb) := hB'.cell 5
  have d6 : w'.cell? ⟨B, 6, none⟩ = some (.int .i64 lr) := hB'.cell 6
  have g2 := hB'.frozen 2
  have g5 := hB'.frozen 5
  have g6 := hB'.frozen 6
  have u1 : w'.cell? ⟨U, q, none⟩ = some (.int .u8 us[q]) := (hU'.cell q).trans (by simp [by8, hq3])
  generalize us[q] = x at u1
  clear hBd hPd hUd hk' hU hP hB c0 c2 c3
  go_wp2_with fail
  refine still_tail 15 mixed (by kernel_rfl) ?_
  simp only [List.take_succ_cons, List.take_zero, List.drop_succ_cons, List.drop_zero]
  repeat still_step
  try refine wpStill_nil ?_
  go_wp2_with fail
  go_ret2
  refine ⟨rfl, ?_, ?_, ?_⟩
  · have h1 := (((hB'.set 2 (.int .i64 ((r : Int) + (m : Int)))).set 5 (.int .i64 (wrap64 x))).set 6 (.int .i64 (-1))).drew
    exact ⟨wrap64 x, -1, by simpa [bfc] using h1⟩
  · exact Row.drew (((hP'.other B 2 _ (fun h => hBP h.symm)).other B 5 _ (fun h => hBP h.symm)).other B 6 _ (fun h => hBP h.symm))
  · exact Kept.drew (((hk0.setCell (g := B) (j := 2) (fun _ => .inl rfl) _).setCell (g := B) (j := 5) (fun _ => .inl rfl) _).setCell (g := B) (j := 6) (fun _ => .inl rfl) _)
end Go.Proofs.YbulkbgsmFmt
