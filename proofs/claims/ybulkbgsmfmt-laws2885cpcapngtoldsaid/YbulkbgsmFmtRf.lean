import Derived.Test.YbulkbgsmFmtBf4
import Derived.Deep.LoopGhost
import Derived.Deep.CutRange
import Derived.LaidEql
namespace Go.Proofs.YbulkbgsmFmt
open Go.RowKit

theorem m_read59 (p : Value) (w : World) : (method 231 59 p "Read").run Ybaf.prog w = .ok (66, p) w := by kernel_rfl
theorem nil_read59 (a : Addr) (w : World) : (nilAhead 231 59 (.pointer (some a)) "Read").run Ybaf.prog w = .ok (some false) w := by kernel_rfl
theorem Ybaf.comp96 : (Ybaf.prog.info? 96).map (·.comparable) = some true := by kernel_rfl
theorem Ybaf.size98 : (Ybaf.prog.info? 98).map (·.size) = some 1 := by kernel_rfl
theorem eq_same (a : Addr) (w : World) : (binOp .eql 31 (.iface 96 (.pointer (some a))) (.iface 96 (.pointer (some a)))).run Ybaf.prog w = .ok (.bool true) w := by
  obtain ⟨i, hi, hc⟩ := Option.map_eq_some_iff.1 Ybaf.comp96
  obtain ⟨j, hj, _⟩ := Option.map_eq_some_iff.1 Ybaf.size98
  exact run_eql_iface_ptr_same w a Ybaf.underlying31 Ybaf.underlying96 hi hc hj
attribute [local go_sem] m_read59 nil_read59 eq_same

theorem Sp.drew {w : World} {B Y U D cap : Nat} {L : List Int} {q : Nat} (h : Sp w B Y U D cap L q) : Sp w.drew B Y U D cap L q := h.kept (p := fun _ => False) (Kept.refl _ w).drew (fun h => h) (fun h => h) (fun h => h) (fun h => h)

theorem splice_more {qs : List Int} {off p k m : Nat} {L : List Int} (hk : k ≤ L.length - p) (h : off + k + m ≤ qs.length) (hm : p + k + m ≤ L.length) :
    splice (splice qs off ((L.drop p).take k)) (off + k) ((L.drop (p + k)).take m) = splice qs off ((L.drop p).take (k + m)) := by
  have h1 : ((L.drop p).take k).length = k := by simp; omega
  have h2 : ((L.drop (p + k)).take m).length = m := by simp; omega
  have h3 : ((L.drop p).take (k + m)).length = k + m := by simp; omega
  have h4 : (L.drop p).take (k + m) = (L.drop p).take k ++ (L.drop (p + k)).take m := by
    rw [List.take_add, List.drop_drop]
  have e1 : (splice qs off ((L.drop p).take k)).take (off + k) = qs.take off ++ (L.drop p).take k := by
    simp only [splice]
    rw [← List.append_assoc, List.take_append_of_le_length (by simp; omega), List.take_of_length_le (by simp; omega)]
  have e2 : (splice qs off ((L.drop p).take k)).drop (off + k + m) = qs.drop (off + (k + m)) := by
    simp only [splice, h1]
    rw [← List.append_assoc, List.drop_append, List.drop_of_length_le (by simp; omega)]
    simp only [List.length_append, List.length_take, h1, List.nil_append, List.drop_drop]
    congr 1
    omega
  have e3 : splice (splice qs off ((L.drop p).take k)) (off + k) ((L.drop (p + k)).take m) = (splice qs off ((L.drop p).take k)).take (off + k) ++ ((L.drop (p + k)).take m ++ (splice qs off ((L.drop p).take k)).drop (off + k + m)) := by
    unfold splice
    rw [h2]
  rw [e3, e1, e2]
  unfold splice
  rw [h3, h4]
  simp

/-- What (*bufio.Reader).Read answers, its two results apart. -/
def Rd2 (B Y U D cap : Nat) (L : List Int) (p P off n : Nat) (qs : List Int) (te : TypeId) (pa : Value) (x y : Value) (w w' : World) : Prop :=
  Kept (fun k => k = B ∨ k = Y ∨ k = U ∨ k = P) w w' ∧
  ((p = L.length ∧ x = .int .i64 0 ∧ y = .iface te pa ∧ Sp w' B Y U D cap L p ∧ Row w' P 5 (by8 qs)) ∨
   (∃ m : Nat, 0 < m ∧ m ≤ n ∧ p + m ≤ L.length ∧ x = .int .i64 (m : Int) ∧ y = .nilIface ∧ Sp w' B Y U D cap L (p + m) ∧ Row w' P 5 (by8 (splice qs off ((L.drop p).take m)))))

theorem bf_read2 (B Y U D cap : Nat) (L : List Int) (p P off n c : Nat) (qs : List Int) (te : TypeId) (pa : Value) (w : World) (h : Sp w B Y U D cap L p) (hP : Row w P 5 (by8 qs)) (hfit : off + n ≤ qs.length) (hn : 0 < n) (hn2 : n ≤ 100000000)
    (nB : B ≠ P) (nY : Y ≠ P) (nU : U ≠ P) (nD : D ≠ P) (hE : w.cell? ⟨0, 0, none⟩ = some (.iface te pa)) (hB0 : B ≠ 0) :
    Calls Ybaf.prog 66 #[.pointer (some ⟨B, 0, none⟩), .slice (some ⟨P, off, none⟩) n c] w fun e w' => ∃ x y : Value, e = .returned (.tuple #[x, y]) ∧ Rd2 B Y U D cap L p P off n qs te pa x y w w' := by
  refine (bf_read B Y U D cap L p P off n c qs te pa w h hP hfit hn hn2 nB nY nU nD hE hB0).mono ?_
  rintro e w' ⟨hk, ⟨h1, rfl, h2, h3⟩ | ⟨m, h1, h2, h3, rfl, h4, h5⟩⟩
  · exact ⟨_, _, rfl, hk, .inl ⟨h1, rfl, rfl, h2, h3⟩⟩
  · exact ⟨_, _, rfl, hk, .inr ⟨m, h1, h2, h3, rfl, rfl, h4, h5⟩⟩

/-- What io.ReadFull answers. -/
def Rfull (B Y U D cap : Nat) (L : List Int) (p P off n : Nat) (qs : List Int) (te tu : TypeId) (pa pu : Value) (x y : Value) (w w' : World) : Prop :=
  Kept (fun k => k = B ∨ k = Y ∨ k = U ∨ k = P) w w' ∧
  ((p + n ≤ L.length ∧ x = .int .i64 (n : Int) ∧ y = .nilIface ∧ Sp w' B Y U D cap L (p + n) ∧ Row w' P 5 (by8 (splice qs off ((L.drop p).take n)))) ∨
   (L.length < p + n ∧ x = .int .i64 ((L.length - p : Nat) : Int) ∧ y = (if p = L.length then .iface te pa else .iface tu pu) ∧ Sp w' B Y U D cap L L.length ∧ ∃ qs' : List Int, qs'.length = qs.length ∧ Row w' P 5 (by8 qs')))

set_option maxHeartbeats 2000000 in
set_option maxRecDepth 100000 in
/-- io.ReadAtLeast over the buffered reader, as much as the slice holds. -/
theorem ral_walk (B Y U D cap : Nat) (L : List Int) (p P off n c : Nat) (qs : List Int) (ae au : Addr) (w : World) (h : Sp w B Y U D cap L p) (hP : Row w P 5 (by8 qs)) (hfit : off + n ≤ qs.length) (hnc : n ≤ c) (hn2 : n ≤ 100000000)
    (nB : B ≠ P) (nY : Y ≠ P) (nU : U ≠ P) (nD : D ≠ P) (hE : w.cell? ⟨0, 0, none⟩ = some (.iface 96 (.pointer (some ae)))) (hX : w.cell? ⟨8, 0, none⟩ = some (.iface 96 (.pointer (some au)))) (hB0 : 10 ≤ B) (hY0 : 10 ≤ Y) (hU0 : 10 ≤ U) (hP0 : 10 ≤ P) :
    Calls Ybaf.prog 40 #[.iface 59 (.pointer (some ⟨B, 0, none⟩)), .slice (some ⟨P, off, none⟩) n c, .int .i64 (n : Int)] w fun e w' => ∃ x y : Value, e = .returned (.tuple #[x, y]) ∧ Rfull B Y U D cap L p P off n qs 96 96 (.pointer (some ae)) (.pointer (some au)) x y w w' := by
  go_enter Ybaf.func40, Ybaf.ntmps40
  go_wp2_with fail
  go_loopg [6, 7, 8] (2 * n + 1) (fun gk s6 s7 s8 wr => ∃ k : Nat, k ≤ n ∧ s6 = .int .i64 (k : Int) ∧ Kept (fun k => k = B ∨ k = Y ∨ k = U ∨ k = P) w wr ∧ p + k ≤ L.length ∧ Sp wr B Y U D cap L (p + k) ∧ ((gk = 2 * (n - k) + 1 ∧ s7 = .nilIface ∧ Row wr P 5 (by8 (splice qs off ((L.drop p).take k)))) ∨ (gk = 2 * (n - k) ∧ k < n ∧ p + k = L.length ∧ s7 = .iface 96 (.pointer (some ae)) ∧ ∃ qs' : List Int, qs'.length = qs.length ∧ Row wr P 5 (by8 qs'))))
  case atStart => exact ⟨0, Nat.zero_le _, rfl, Kept.refl _ _, by have := h.le; omega, h, .inl ⟨by omega, rfl, by simpa [splice] using hP⟩⟩
  case round =>
    obtain ⟨k, hk, rfl, hkept, hpk, hsp, hcase⟩ := hrel
    have hE' : wr.cell? ⟨0, 0, none⟩ = some (.iface 96 (.pointer (some ae))) := hkept.cell hE (by omega)
    have hX' : wr.cell? ⟨8, 0, none⟩ = some (.iface 96 (.pointer (some au))) := hkept.cell hX (by omega)
    have hk0 : (0 : Int) ≤ (k : Int) := by omega
    have hk1 : (k : Int) ≤ (n : Int) := by omega
    rcases hcase with ⟨rfl, rfl, hrow⟩ | ⟨rfl, hkn, hpl, rfl, qs', hqs', hrow⟩
    · have hlk : ((L.drop p).take k).length = k := by simp; omega
      have hql : (splice qs off ((L.drop p).take k)).length = qs.length := length_splice _ _ _ (by omega)
      by_cases hlt : k < n
      · have hlt' : (k : Int) < (n : Int) := by omega
        have hck : ¬ c = k := by omega
        have HB := bf_read2 B Y U D cap L (p + k) P (off + k) (n - k) (c - k) (splice qs off ((L.drop p).take k)) 96 (.pointer (some ae)) wr.drew hsp.drew hrow (by omega) (by omega) (by omega) nB nY nU nD hE' (by omega)
        have HC : Hid _ := HB
        have HS : Hid (Sp wr B Y U D cap L (p + k) ∧ Row wr P 5 (by8 (splice qs off ((L.drop p).take k))) ∧ Kept (fun k => k = B ∨ k = Y ∨ k = U ∨ k = P) w wr) := ⟨hsp, hrow, hkept⟩
        clear HB hsp hrow hkept
        go_wp2_with fail
        go_cut [7, 8] from 14 to 34 (fun s7 s8 wc => Rd2 B Y U D cap L (p + k) P (off + k) (n - k) (splice qs off ((L.drop p).take k)) 96 (.pointer (some ae)) s8 s7 wr.drew wc)
        case first =>
          go_region_with (go_at_call 66; refine Calls.mono HC.out ?_; rintro _ w2 ⟨x, y, rfl, hR⟩)
          all_goals go_wp2_with fail
          all_goals
            go_meet
            case rel => exact hR
        case rest =>
          obtain ⟨hk2, hc⟩ := hcut
          have hk3 : Kept (fun k => k = B ∨ k = Y ∨ k = U ∨ k = P) w wc := (HS.out.2.2.drew).trans hk2
          rcases hc with ⟨h1, rfl, rfl, h2, h3⟩ | ⟨m, h1, h2, h3, rfl, rfl, h4, h5⟩
          · have hwk : IntKind.i64.wrap (k : Int) = (k : Int) := IntWalk.i64_in _ (by omega)
            have HH : Hid (Sp wc B Y U D cap L (p + k) ∧ Row wc P 5 (by8 (splice qs off ((L.drop p).take k)))) := ⟨h2, h3⟩
            clear h2 h3
            go_wp2_with fail
            go_roundg (2 * (n - k))
            case rel => exact ⟨k, hk, rfl, hk3, hpk, HH.out.1, .inr ⟨rfl, hlt, h1, rfl, _, hql, HH.out.2⟩⟩
            case measure => omega
          · have hwk : IntKind.i64.wrap ((k : Int) + (m : Int)) = (k : Int) + (m : Int) := IntWalk.i64_in _ (by omega)
            have HH : Hid (Sp wc B Y U D cap L (p + k + m) ∧ Row wc P 5 (by8 (splice (splice qs off ((L.drop p).take k)) (off + k) ((L.drop (p + k)).take m)))) := ⟨h4, h5⟩
            clear h4 h5
            go_wp2_with fail
            go_roundg (2 * (n - (k + m)) + 1)
            case rel => exact ⟨k + m, by omega, by simp, hk3, by omega, by rw [← Nat.add_assoc]; exact HH.out.1, .inl ⟨rfl, rfl, by rw [← splice_more (by omega) (by omega) (by omega)]; exact HH.out.2⟩⟩
            case measure => omega
      · have hkn : k = n := by omega
        subst hkn
        have HS : Hid (Sp wr B Y U D cap L (p + k) ∧ Row wr P 5 (by8 (splice qs off ((L.drop p).take k))) ∧ Kept (fun k => k = B ∨ k = Y ∨ k = U ∨ k = P) w wr) := ⟨hsp, hrow, hkept⟩
        clear hsp hrow hkept
        go_wp2_with fail
        go_ret2
        exact ⟨_, _, rfl, HS.out.2.2, .inl ⟨hpk, rfl, rfl, HS.out.1, HS.out.2.1⟩⟩
    · have hlt' : (k : Int) < (n : Int) := by omega
      have HS : Hid (Sp wr B Y U D cap L (p + k) ∧ Row wr P 5 (by8 qs') ∧ Kept (fun k => k = B ∨ k = Y ∨ k = U ∨ k = P) w wr) := ⟨hsp, hrow, hkept⟩
      clear hsp hrow hkept
      by_cases hz : k = 0
      · subst hz
        go_wp2_with fail
        go_ret2
        exact ⟨.int .i64 0, .iface 96 (.pointer (some ae)), rfl, HS.out.2.2, .inr ⟨by omega, by rw [show L.length - p = 0 by omega]; rfl, by rw [if_pos (by omega)], by rw [← hpl]; exact HS.out.1, qs', hqs', HS.out.2.1⟩⟩
      · have hz' : (0 : Int) < (k : Int) := by omega
        go_wp2_with fail
        go_ret2
        exact ⟨.int .i64 (k : Int), .iface 96 (.pointer (some au)), rfl, HS.out.2.2, .inr ⟨by omega, by rw [show L.length - p = k by omega], by rw [if_neg (by omega)], by rw [← hpl]; exact HS.out.1, qs', hqs', HS.out.2.1⟩⟩

set_option maxHeartbeats 400000 in
set_option maxRecDepth 100000 in
/-- io.ReadFull over the buffered reader. -/
theorem rf_walk (B Y U D cap : Nat) (L : List Int) (p P off n c : Nat) (qs : List Int) (ae au : Addr) (w : World) (h : Sp w B Y U D cap L p) (hP : Row w P 5 (by8 qs)) (hfit : off + n ≤ qs.length) (hnc : n ≤ c) (hn2 : n ≤ 100000000)
    (nB : B ≠ P) (nY : Y ≠ P) (nU : U ≠ P) (nD : D ≠ P) (hE : w.cell? ⟨0, 0, none⟩ = some (.iface 96 (.pointer (some ae)))) (hX : w.cell? ⟨8, 0, none⟩ = some (.iface 96 (.pointer (some au)))) (hB0 : 10 ≤ B) (hY0 : 10 ≤ Y) (hU0 : 10 ≤ U) (hP0 : 10 ≤ P) :
    Calls Ybaf.prog 38 #[.iface 59 (.pointer (some ⟨B, 0, none⟩)), .slice (some ⟨P, off, none⟩) n c] w fun e w' => ∃ x y : Value, e = .returned (.tuple #[x, y]) ∧ Rfull B Y U D cap L p P off n qs 96 96 (.pointer (some ae)) (.pointer (some au)) x y w w' := by
  have HC : Hid _ := ral_walk B Y U D cap L p P off n c qs ae au w h hP hfit hnc hn2 nB nY nU nD hE hX hB0 hY0 hU0 hP0
  clear h hP hE hX
  go_enter Ybaf.func38, Ybaf.ntmps38
  go_wp2_with fail
  refine Calls.mono HC.out ?_
  rintro _ w2 ⟨x, y, rfl, hR⟩
  go_wp2_with fail
  go_ret2
  exact ⟨x, y, rfl, hR⟩
end Go.Proofs.YbulkbgsmFmt
