import Derived.Test.YbulkbgsmFmtQs
namespace Go.Proofs.YbulkbgsmFmt
open Go.RowKit

/-- A packet of the law. -/
structure Pkt where
  ifn : Nat
  simple : Bool
  skip : Bool
  data : List Int

/-- The block that holds its frame. -/
def Pkt.frame (n : Nat) (p : Pkt) : Bk := if p.simple then .spb p.data else .epb (p.ifn % n) p.data
def Pkt.pre (p : Pkt) : List Bk := if p.skip then [.skp] else []
def Pkt.blocks (n : Nat) (p : Pkt) : List Bk := p.pre ++ [p.frame n]
/-- All blocks. -/
def allB (ls : List Int) (n : Nat) (ps : List Pkt) : List Bk := ls.map Bk.ifc ++ ps.flatMap (Pkt.blocks n)

theorem allB_succ (ls : List Int) (n : Nat) (ps : List Pkt) (j : Nat) (hj : j < ps.length) : allB ls n (ps.take (j + 1)) = allB ls n (ps.take j) ++ ps[j].blocks n := by
  unfold allB
  rw [List.take_succ_eq_append_getElem hj, List.flatMap_append, List.append_assoc]
  simp
theorem allB_split (ls : List Int) (n : Nat) (ps : List Pkt) (j : Nat) (hj : j < ps.length) : ∃ r, allB ls n ps = allB ls n (ps.take j) ++ (ps[j].blocks n ++ r) := by
  refine ⟨(ps.drop (j + 1)).flatMap (Pkt.blocks n), ?_⟩
  have e : ps = ps.take j ++ ps.drop j := (List.take_append_drop j ps).symm
  conv => lhs; rw [e]
  unfold allB
  rw [List.flatMap_append, List.drop_eq_getElem_cons hj, List.flatMap_cons, List.append_assoc]
theorem allB_len (ls : List Int) (n : Nat) (ps : List Pkt) : (allB ls n ps).length ≤ ls.length + ps.length * 2 := by
  unfold allB
  rw [List.length_append, List.length_map]
  have : (ps.flatMap (Pkt.blocks n)).length ≤ ps.length * 2 := by
    induction ps with
    | nil => simp
    | cons p r ih =>
      have h1 : (p.blocks n).length ≤ 2 := by unfold Pkt.blocks Pkt.pre; split <;> simp
      simp only [List.flatMap_cons, List.length_append, List.length_cons]
      omega
  omega

/-- How many blocks lie ahead of packet j, and ahead of its frame. -/
def ahead (ls : List Int) (n : Nat) (ps : List Pkt) (j : Nat) : Nat := (allB ls n (ps.take j)).length
def curs (ls : List Int) (n : Nat) (ps : List Pkt) (j : Nat) : Nat := if j = 0 then 0 else ahead ls n ps j
theorem ahead_ge (ls : List Int) (n : Nat) (ps : List Pkt) (j : Nat) : ls.length ≤ ahead ls n ps j := by
  unfold ahead allB
  simp
theorem ahead_zero (ls : List Int) (n : Nat) (ps : List Pkt) : ahead ls n ps 0 = ls.length := by simp [ahead, allB]
theorem ahead_succ (ls : List Int) (n : Nat) (ps : List Pkt) (j : Nat) (hj : j < ps.length) : ahead ls n ps (j + 1) = ahead ls n ps j + ps[j].pre.length + 1 := by
  unfold ahead
  rw [allB_succ ls n ps j hj, List.length_append]
  simp [Pkt.blocks]
  omega
theorem ahead_all (ls : List Int) (n : Nat) (ps : List Pkt) : ahead ls n ps ps.length = (allB ls n ps).length := by simp [ahead]

theorem frame_at (ls : List Int) (n : Nat) (ps : List Pkt) (j : Nat) (hj : j < ps.length) : (allB ls n ps)[ahead ls n ps j + ps[j].pre.length]? = some (ps[j].frame n) := by
  obtain ⟨r, hr⟩ := allB_split ls n ps j hj
  rw [hr]
  unfold ahead
  rw [List.getElem?_append_right (by omega), Nat.add_sub_cancel_left]
  simp [Pkt.blocks]
theorem pre_at (ls : List Int) (n : Nat) (ps : List Pkt) (j : Nat) (hj : j < ps.length) (k : Nat) (hk : ahead ls n ps j ≤ k) (hk2 : k < ahead ls n ps j + ps[j].pre.length) : (allB ls n ps)[k]? = some .skp := by
  obtain ⟨r, hr⟩ := allB_split ls n ps j hj
  rw [hr]
  unfold ahead at hk hk2
  rw [List.getElem?_append_right hk]
  have hp : ps[j].pre.length ≤ 1 := by unfold Pkt.pre; split <;> simp
  have hps : ps[j].pre = [.skp] := by
    unfold Pkt.pre at *
    split
    · rfl
    · rename_i h
      simp [h] at hk2
      omega
  have e : k - (allB ls n (ps.take j)).length = 0 := by omega
  rw [e]
  simp [Pkt.blocks, hps]
theorem ifc_at (ls : List Int) (n : Nat) (ps : List Pkt) (k : Nat) (hk : k < ls.length) : (allB ls n ps)[k]? = some (.ifc ls[k]) := by
  unfold allB
  rw [List.getElem?_append_left (by simpa using hk)]
  simp [hk]
theorem ifc_links (ls : List Int) : (ls.map Bk.ifc).filterMap Bk.link? = ls := by
  induction ls with
  | nil => rfl
  | cons a r ih =>
    have e : (Bk.ifc a).link? = some a := rfl
    rw [List.map_cons, List.filterMap_cons_some e, ih]
theorem rest_link (n : Nat) (ps : List Pkt) : ∀ b ∈ ps.flatMap (Pkt.blocks n), b.link? = none := by
  intro b hb
  obtain ⟨p, _, hp⟩ := List.mem_flatMap.1 hb
  unfold Pkt.blocks Pkt.pre Pkt.frame at hp
  rcases List.mem_append.1 hp with hp | hp
  · split at hp
    · simp at hp
      subst hp
      rfl
    · simp at hp
  · simp at hp
    split at hp <;> subst hp <;> rfl
theorem lnk_all (ls : List Int) (n : Nat) (ps : List Pkt) (k : Nat) (hk : ls.length ≤ k) : lnk (allB ls n ps) k = ls := by
  unfold lnk allB
  rw [List.take_append, List.filterMap_append, List.take_of_length_le (by simpa using hk)]
  have h1 := ifc_links ls
  have h2 : ((ps.flatMap (Pkt.blocks n)).take (k - (ls.map Bk.ifc).length)).filterMap Bk.link? = [] := by
    rw [List.filterMap_eq_nil_iff]
    exact fun b hb => rest_link n ps b (List.mem_of_mem_take hb)
  rw [h1, h2, List.append_nil]
/-- What stands ahead of packet j's frame is passed over. -/
theorem pre_ok (ls : List Int) (n : Nat) (ps : List Pkt) (j : Nat) (hj : j ≤ ps.length) (k1 : Nat) (hk1 : k1 = ahead ls n ps j + (if h : j < ps.length then ps[j].pre.length else 0)) : ∀ k (h : k < (allB ls n ps).length), curs ls n ps j ≤ k → k < k1 → (∃ l, (allB ls n ps)[k] = .ifc l) ∨ (allB ls n ps)[k] = .skp := by
  intro k h hc hk
  by_cases ha : ahead ls n ps j ≤ k
  · right
    by_cases hjl : j < ps.length
    · simp [hjl] at hk1
      exact (List.getElem?_eq_some_iff.1 (pre_at ls n ps j hjl k ha (by omega))).2
    · simp [hjl] at hk1
      omega
  · left
    have hj0 : j = 0 := by
      by_cases h0 : j = 0
      · exact h0
      · simp [curs, h0] at hc
        omega
    subst hj0
    rw [ahead_zero] at ha
    exact ⟨_, (List.getElem?_eq_some_iff.1 (ifc_at ls n ps k (by omega))).2⟩
theorem allB_ok (ls : List Int) (n : Nat) (ps : List Pkt) (hl : ∀ l ∈ ls, 0 ≤ l ∧ l ≤ 65535) (hp : ∀ p ∈ ps, p.ifn ≤ 255 ∧ p.data.length ≤ 4096 ∧ ∀ x ∈ p.data, 0 ≤ x ∧ x ≤ 255) : ∀ b ∈ allB ls n ps, b.ok := by
  intro b hb
  rcases List.mem_append.1 hb with hb | hb
  · obtain ⟨l, hl2, rfl⟩ := List.mem_map.1 hb
    exact hl l hl2
  · obtain ⟨p, hp2, hb⟩ := List.mem_flatMap.1 hb
    have h := hp p hp2
    unfold Pkt.blocks Pkt.pre Pkt.frame at hb
    rcases List.mem_append.1 hb with hb | hb
    · split at hb
      · simp at hb
        subst hb
        trivial
      · simp at hb
    · simp at hb
      split at hb
      · subst hb
        exact h.2
      · subst hb
        exact ⟨Nat.le_trans (Nat.mod_le _ _) (by omega), h.2⟩
theorem curs_succ (ls : List Int) (n : Nat) (ps : List Pkt) (j : Nat) (hj : j < ps.length) : curs ls n ps (j + 1) = ahead ls n ps j + ps[j].pre.length + 1 := by
  simp [curs, ahead_succ ls n ps j hj]
end Go.Proofs.YbulkbgsmFmt
