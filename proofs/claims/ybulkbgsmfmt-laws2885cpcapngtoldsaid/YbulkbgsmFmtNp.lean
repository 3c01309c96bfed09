import Derived.Test.YbulkbgsmFmtNf
import Derived.Test.YbulkbgsmFmtNq
import Derived.Test.YbulkbgsmFmtPc
namespace Go.Proofs.YbulkbgsmFmt
open Go.RowKit

/-- The link type of a packet. -/
def Pkt.want (ls : List Int) (p : Pkt) : Int := if p.simple then ls.getD 0 0 else ls.getD (p.ifn % ls.length) 0

/-- What the calls of Next stand on. -/
structure Pq (ls : List Int) (ps : List Pkt) : Prop where
  l0 : 0 < ls.length
  ll : ls.length ≤ 300
  pl : ps.length ≤ 300
  lr : ∀ l ∈ ls, 0 ≤ l ∧ l ≤ 65535
  pr : ∀ p ∈ ps, p.ifn ≤ 255 ∧ p.data.length ≤ 4096 ∧ ∀ x ∈ p.data, 0 ≤ x ∧ x ≤ 255

theorem get_want {ls : List Int} {i : Nat} (h : i < ls.length) : ls[i]? = some (ls.getD i 0) := by simp [List.getD, h]

theorem curs_lnk (ls : List Int) (ps : List Pkt) (j : Nat) (hj : 0 < j) : lnk (allB ls ls.length ps) (curs ls ls.length ps j) = ls := by
  refine lnk_all ls ls.length ps _ ?_
  have := ahead_ge ls ls.length ps j
  simp [curs, Nat.ne_of_gt hj]
  exact this

/-- Next at packet j. -/
theorem np_ok (M : Nat) (X : Nat → Prop) (Q B Y U D cap : Nat) (big : Bool) (ls : List Int) (ps : List Pkt) (hq : Pq ls ps) (j : Nat) (hj : j < ps.length) (oa : Option Addr) (oc : Nat) (ae au : Addr) (w : World) (hXr : ∀ k, X k → ∃ e xs, Row w k e xs ∧ e ≠ 89) (h : Nst w M X Q B Y U D cap big (allB ls ls.length ps) (curs ls ls.length ps j) (j : Int) (.slice oa (lnk (allB ls ls.length ps) (curs ls ls.length ps j)).length oc)) (hM : M ≤ w.heap.size)
    (hE : w.cell? ⟨0, 0, none⟩ = some (.iface 96 (.pointer (some ae)))) (hX : w.cell? ⟨8, 0, none⟩ = some (.iface 96 (.pointer (some au)))) :
    Calls Ybaf.prog 9 #[.pointer (some ⟨Q, 0, none⟩)] w fun e w' => ∃ (oa' : Option Addr) (oc' P off c : Nat), e = .returned (.tuple #[.agg #[.int .i64 ((j : Int) + 1), .int .i64 (ps[j].want ls), .slice (some ⟨P, off, none⟩) ps[j].data.length c], .nilIface]) ∧ (∀ i x, ps[j].data[i]? = some x → w'.cell? ⟨P, off + i, none⟩ = some (.int .u8 x)) ∧ Nst w' M X Q B Y U D cap big (allB ls ls.length ps) (curs ls ls.length ps (j + 1)) ((j : Int) + 1) (.slice oa' (lnk (allB ls ls.length ps) (curs ls ls.length ps (j + 1))).length oc') ∧ Kept (fun k => M ≤ k ∧ ¬ X k) w w' := by
  have hbl := allB_len ls ls.length ps
  have hfr := frame_at ls ls.length ps j hj
  have hok := allB_ok ls ls.length ps hq.lr hq.pr
  have hcs := curs_succ ls ls.length ps j hj
  have hag := ahead_ge ls ls.length ps j
  obtain ⟨hk1, hf1⟩ := List.getElem?_eq_some_iff.1 hfr
  have hck : curs ls ls.length ps j ≤ ahead ls ls.length ps j + ps[j].pre.length := by unfold curs; split <;> omega
  have hpre := pre_ok ls ls.length ps j (Nat.le_of_lt hj) (ahead ls ls.length ps j + ps[j].pre.length) (by simp [hj])
  have hl1 : lnk (allB ls ls.length ps) (ahead ls ls.length ps j + ps[j].pre.length) = ls := lnk_all ls ls.length ps _ (by omega)
  have hl2 : lnk (allB ls ls.length ps) (curs ls ls.length ps (j + 1)) = ls := curs_lnk ls ps (j + 1) (Nat.succ_pos j)
  have hXl : ∀ k, X k → k < w.heap.size := fun k hk => by
    obtain ⟨_, _, hr, _⟩ := hXr k hk
    exact hr.lt
  have hXw : ∀ k, X1 X w.heap.size k → ∃ e xs, Row (nw w) k e xs ∧ e ≠ 89 := by
    intro k hk
    rcases hk with hk | hk
    · obtain ⟨e, xs, hr, hne⟩ := hXr k hk
      exact ⟨e, xs, hr.kept (nw_kept w) (fun h => h), hne⟩
    · subst hk
      exact ⟨37, _, nw_row w, by decide⟩
  have hkE := (nw_kept w).cell hE (fun h => h)
  have hkX := (nw_kept w).cell hX (fun h => h)
  have hMn : M ≤ (nw w).heap.size := Nat.le_trans hM (nw_kept w).size
  have hll := hq.ll
  have hpl := hq.pl
  have hl0 := hq.l0
  have key : Calls Ybaf.prog 22 #[.pointer (some ⟨Q, 0, none⟩)] (nw w) fun e w' => ∃ (oa' : Option Addr) (oc' P off c : Nat), e = .returned (.tuple #[.int .i64 (ps[j].want ls), .slice (some ⟨P, off, none⟩) ps[j].data.length c, .nilIface]) ∧ Fd w' (VV M (X1 X w.heap.size) (.slice oa' (lnk (allB ls ls.length ps) (ahead ls ls.length ps j + ps[j].pre.length)).length oc')) Q P off ps[j].data ∧ Nst w' M (X1 X w.heap.size) Q B Y U D cap big (allB ls ls.length ps) (ahead ls ls.length ps j + ps[j].pre.length + 1) (j : Int) (.slice oa' (lnk (allB ls ls.length ps) (ahead ls ls.length ps j + ps[j].pre.length)).length oc') ∧ Kept (fun k => M ≤ k ∧ ¬ X1 X w.heap.size k) (nw w) w' := by
    cases hs : ps[j].simple with
    | true =>
      refine nbf_spb M (X1 X w.heap.size) Q B Y U D cap big (allB ls ls.length ps) (curs ls ls.length ps j) (ahead ls ls.length ps j + ps[j].pre.length) (j : Int) ae au (nw w) oa oc h.widen hXw hMn hkE hkX hok (by omega) hck (by omega) hpre hk1 ps[j].data _ ?_ ?_
      · rw [hf1]
        simp [Pkt.frame, hs]
      · rw [hl1]
        simp only [Pkt.want, hs, if_true]
        exact get_want hl0
    | false =>
      refine nbf_epb M (X1 X w.heap.size) Q B Y U D cap big (allB ls ls.length ps) (curs ls ls.length ps j) (ahead ls ls.length ps j + ps[j].pre.length) (j : Int) ae au (nw w) oa oc h.widen hXw hMn hkE hkX hok (by omega) hck (by omega) hpre hk1 (ps[j].ifn % ls.length) ps[j].data _ ?_ ?_
      · rw [hf1]
        simp [Pkt.frame, hs]
      · rw [hl1]
        simp only [Pkt.want, hs, Bool.false_eq_true, if_false]
        exact get_want (Nat.mod_lt _ hl0)
  refine (nextp_ok M X Q B Y U D cap big (allB ls ls.length ps) (curs ls ls.length ps j) (ahead ls ls.length ps j + ps[j].pre.length) j _ (ps[j].want ls) ps[j].data w hXl h (by omega) key).mono ?_
  rintro e w' ⟨oa', oc', P, off, c, rfl, h1, h2, h3⟩
  refine ⟨oa', oc', P, off, c, rfl, h1, ?_, h3⟩
  rw [hl2, hcs]
  rw [hl1] at h2
  exact h2

/-- Next behind the last packet. -/
theorem np_eof (M : Nat) (X : Nat → Prop) (Q B Y U D cap : Nat) (big : Bool) (ls : List Int) (ps : List Pkt) (hq : Pq ls ps) (oa : Option Addr) (oc : Nat) (ae au : Addr) (fr : Int) (w : World) (hXr : ∀ k, X k → ∃ e xs, Row w k e xs ∧ e ≠ 89) (h : Nst w M X Q B Y U D cap big (allB ls ls.length ps) (curs ls ls.length ps ps.length) fr (.slice oa (lnk (allB ls ls.length ps) (curs ls ls.length ps ps.length)).length oc)) (hM : M ≤ w.heap.size)
    (hE : w.cell? ⟨0, 0, none⟩ = some (.iface 96 (.pointer (some ae)))) (hX : w.cell? ⟨8, 0, none⟩ = some (.iface 96 (.pointer (some au)))) :
    Calls Ybaf.prog 9 #[.pointer (some ⟨Q, 0, none⟩)] w fun e w' => e = .returned (.tuple #[.agg #[.int .i64 0, .int .i64 0, .slice none 0 0], .iface 96 (.pointer (some ae))]) ∧ Kept (fun k => M ≤ k ∧ ¬ X k) w w' := by
  have hbl := allB_len ls ls.length ps
  have hok := allB_ok ls ls.length ps hq.lr hq.pr
  have haa := ahead_all ls ls.length ps
  have hck : curs ls ls.length ps ps.length ≤ (allB ls ls.length ps).length := by unfold curs; split <;> omega
  have hpre := pre_ok ls ls.length ps ps.length (Nat.le_refl _) (allB ls ls.length ps).length (by simp [haa])
  have hXl : ∀ k, X k → k < w.heap.size := fun k hk => by
    obtain ⟨_, _, hr, _⟩ := hXr k hk
    exact hr.lt
  have hXw : ∀ k, X1 X w.heap.size k → ∃ e xs, Row (nw w) k e xs ∧ e ≠ 89 := by
    intro k hk
    rcases hk with hk | hk
    · obtain ⟨e, xs, hr, hne⟩ := hXr k hk
      exact ⟨e, xs, hr.kept (nw_kept w) (fun h => h), hne⟩
    · subst hk
      exact ⟨37, _, nw_row w, by decide⟩
  have hkE := (nw_kept w).cell hE (fun h => h)
  have hkX := (nw_kept w).cell hX (fun h => h)
  have hMn : M ≤ (nw w).heap.size := Nat.le_trans hM (nw_kept w).size
  have hll := hq.ll
  have hpl := hq.pl
  exact nextp_eof M X Q B Y U D cap big (allB ls ls.length ps) (curs ls ls.length ps ps.length) (allB ls ls.length ps).length fr _ ae w hXl h (nbf_eof M (X1 X w.heap.size) Q B Y U D cap big (allB ls ls.length ps) (curs ls ls.length ps ps.length) (allB ls ls.length ps).length fr ae au (nw w) oa oc h.widen hXw hMn hkE hkX hok (by omega) hck (Nat.le_refl _) hpre rfl)
end Go.Proofs.YbulkbgsmFmt
