import Derived.Test.YbulkbgyyStop2
namespace Go.Proofs.Ybulkbgyy
open Go.RowKit

theorem owns_some {w : World} {base : Nat} {e : TypeId} {size : Nat} {v : Value} {n : Nat} {xs : List Value} (h : w.ownsRow base e size v n xs) (hn : 0 < n) : ∃ g c, v = .slice (some ⟨g, 0, none⟩) n c ∧ n ≤ c ∧ c ≤ 9223372036854775807 := by
  rcases h.2 with ⟨rfl, rfl⟩ | ⟨g, cap, _, rfl, _, _, hle, hmax, _⟩
  · omega
  · exact ⟨_, _, rfl, hle, hmax⟩

theorem shows_owns {w : World} {base : Nat} {v : Value} {n : Nat} {L : List Mem} (h : w.ownsRow base 65 2 v n (flat L)) (hn : L.length = n) : Shows w v L := by
  subst hn
  rcases h.2 with ⟨rfl, h0⟩ | ⟨g, cap, cur, rfl, hb, hg, _⟩
  · exact ⟨none, 0, by rw [h0], .inl (List.length_eq_zero_iff.1 h0)⟩
  · exact ⟨_, cap, rfl, .inr ⟨g, rfl, fun j hj => h.cellAt j hj⟩⟩

theorem Shows.later {w w' : World} {v : Value} {L : List Mem} (h : Shows w v L) (hk : ∀ g, g < w.heap.size → w'.heap[g]? = w.heap[g]?) : Shows w' v L := by
  obtain ⟨a, c, rfl, h0 | ⟨g, rfl, hc⟩⟩ := h
  · exact ⟨a, c, rfl, .inl h0⟩
  · by_cases e : L = []
    · exact ⟨_, c, rfl, .inl e⟩
    · refine ⟨_, c, rfl, .inr ⟨g, rfl, fun j hj => ?_⟩⟩
      have h1 := hc j hj
      rw [← h1]
      have hlt : g < w.heap.size := by
        have : (flat L)[j]? = some ((flat L)[j]'(by rw [flat_length]; omega)) := by simp
        rw [this] at h1
        exact lt_of_cell h1
      exact World.cell?_of_block (hk g hlt)

set_option maxRecDepth 100000 in
set_option maxHeartbeats 1000000 in
theorem stop_more (b off n cap : Nat) (ss : List ByteArray) (ex pu st : Nat) (w : World) (h0 : 0 < n) (hn : n ≤ 1024) (hex : ex ≤ 255) (hpu : pu ≤ 18446744073709551615) (hst : st ≤ 65535)
    (hc : ∀ i, i < n → w.cell? ⟨b, off + i, none⟩ = some (.string (ss.getD i ByteArray.empty))) :
    Calls Yba.prog 6 #[.slice (some ⟨b, off, none⟩) n cap, .int .u8 ex, .int .u64 pu, .int .u16 st] w fun e w' => e = .returned (.bool true) ∧ Below w.heap.size w w' := by
  have HM := hide' (members_any b off n cap ss w h0 hn hc)
  have hne : ((n : Int) == 0) = false := by simp; omega
  obtain ⟨P, hP⟩ : ∃ P : Nat, P = n + ex := ⟨_, rfl⟩
  obtain ⟨p, hp⟩ : ∃ p : Nat, p = pu % (2 * P) := ⟨_, rfl⟩
  obtain ⟨r, hr⟩ : ∃ r : Nat, r = st % n := ⟨_, rfl⟩
  have hp2 : p < 2 * P := by rw [hp]; exact Nat.mod_lt _ (by omega)
  have hk2 : 1 + r ≤ n := by have := Nat.mod_lt st h0; omega
  have hPn : n ≤ P := by omega
  have hP3 : P ≤ 1279 := by omega
  have eP : (n : Int) + (ex : Int) = (P : Int) := by omega
  have ep : (pu : Int) % (2 * (P : Int)) = (p : Int) := by rw [hp]; push_cast; rfl
  have ek : (st : Int) % (n : Int) = (r : Int) := by rw [hr]; push_cast; rfl
  clear hc hP hp hr
  go_enter Yba.func6, Yba.ntmps6
  go_wp2_with (go_at_call 13; refine HM.out.mono ?_; rintro e w1 ⟨rfl, L, hL, hrow, hbel⟩)
  refine (walk_any _ _ _ _ _ _).mono ?_
  rintro e w2 ⟨rfl, rfl⟩
  go_wp2_with fail
  have hrow5 := fun o1 o2 o3 o4 o5 => ((((hrow.alloc o1).alloc o2).alloc o3).alloc o4).alloc o5
  have hgw : w.heap.size < w1.heap.size := hrow.lt
  refine (walk_stop (w1.heap.size + 1) w1.heap.size (w1.heap.size + 1 + 1) (w1.heap.size + 1 + 1 + 1 + 1) (w1.heap.size + 1 + 1 + 1) w.heap.size n (1 + r) L P p _ hL h0 hn hPn hP3 hp2 (by omega) hk2 (hrow5 _ _ _ _ _) ?_ ?_ ?_ ?_ ?_ ?_ (by omega) (by omega) (by omega) (by omega)).mono ?_
  · simp [go_sem]
  · simp [go_sem]
  · simp [go_sem]
  · simp [go_sem]
  · simp [go_sem]
  · simp [go_sem]
  rintro e w3 ⟨rfl, v, hv, hown, hst⟩
  have hz3 : w1.heap.size + 1 + 1 + 1 + 1 + 1 ≤ w3.heap.size := by have := hst.size; simp at this; exact this
  have hck : w3.cell? ⟨w1.heap.size, 0, none⟩ = some (.int .i64 (1 + (r : Int))) := (hst.cell (by simp; omega) (by omega)).trans (by simp [go_sem])
  have hrow3 : Row w3 w.heap.size 65 (flat L) := (hst.block _ (by simp; omega) (by omega)).trans (hrow5 _ _ _ _ _)
  have hb3 : Below w.heap.size w w3 := by
    refine ⟨hst.os.trans hbel.os, hst.tape.trans hbel.tape, hst.output.trans hbel.output, by have := hbel.size; omega, fun q hq => (hst.block q (by simp; omega) (by omega)).trans ?_⟩
    refine Eq.trans ?_ (hbel.block q hq)
    rw [Below.heap_alloc _ _ _ (by simp; omega), Below.heap_alloc _ _ _ (by simp; omega), Below.heap_alloc _ _ _ (by simp; omega), Below.heap_alloc _ _ _ (by simp; omega), Below.heap_alloc _ _ _ (by omega)]
  obtain ⟨va, vc, rfl⟩ := owns_form hown
  have HO := hide' hown
  have HB3 := hide' hb3
  have HR3 := hide' hrow3
  clear hown hst hrow hrow5 hbel hb3 hrow3
  go_wp2_with fail
  refine (model_any w.heap.size n L P p w3 hL h0 hn hPn hP3 hp2 HR3.out).mono ?_
  rintro e w4 ⟨v4, rfl, hown4, hbel4⟩
  obtain ⟨g4, c4, rfl, hc4, hc5⟩ := owns_some hown4 h0
  have dck : w4.cell? ⟨w1.heap.size, 0, none⟩ = some (.int .i64 (1 + (r : Int))) := (hbel4.cell (p := ⟨w1.heap.size, 0, none⟩) (by show w1.heap.size < _; omega)).trans hck
  have dcl : w4.cell? ⟨w1.heap.size + 1, 0, none⟩ = some (.slice va (1 + r) vc) := (hbel4.cell (p := ⟨w1.heap.size + 1, 0, none⟩) (by show w1.heap.size + 1 < _; omega)).trans hv
  have hlen : ((firsts n P p (P + 1)).take (1 + r)).length = 1 + r := by rw [List.length_take, firsts_full n P p h0 hPn]; omega
  have hE : ∀ q, Calls Yba.prog 15 #[.slice va (1 + r) vc, .slice (some ⟨g4, 0, none⟩) (1 + r) c4] (w4.drewN q) fun e w' => e = .returned (.bool true) ∧ ∃ m, w' = (w4.drewN q).drewN m := by
    intro q
    have hS1 : Shows (w4.drewN q) (.slice va (1 + r) vc) (sel L ((firsts n P p (P + 1)).take (1 + r))) := by
      have h1 := shows_owns HO.out (by rw [sel_length]; exact hlen)
      exact h1.later (fun g' hg' => (hbel4.block g' hg').trans rfl)
    have hS2 : Shows (w4.drewN q) (.slice (some ⟨g4, 0, none⟩) (1 + r) c4) (sel L ((firsts n P p (P + 1)).take (1 + r))) := by
      refine ⟨_, c4, by rw [sel_length, hlen], .inr ⟨g4, rfl, fun j hj => ?_⟩⟩
      rw [sel_length, hlen] at hj
      have := hown4.cellAt j (by omega)
      show w4.cell? _ = _
      rw [this]
      have e : sel L (firsts n P p (P + 1)) = sel L ((firsts n P p (P + 1)).take (1 + r)) ++ sel L ((firsts n P p (P + 1)).drop (1 + r)) := by
        rw [sel, sel, sel, ← List.map_append, List.take_append_drop]
      rw [e, flat_append, List.getElem?_append_left (by rw [flat_length, sel_length, hlen]; omega)]
    exact eq_any _ _ _ _ (by rw [sel_length, hlen]; omega) hS1 hS2
  have hb4 : Below w.heap.size w w4 := HB3.out.trans (hbel4.mono (by omega))
  have HE := hide' hE
  have HB4 := hide' hb4
  have i1 : (1 : Int) + (r : Int) ≤ (c4 : Int) := by omega
  have i2 : (0 : Int) ≤ 1 + (r : Int) := by omega
  have i3 : c4 ≤ 9223372036854775807 := hc5
  clear hE hb4 hown4 hbel4 HO HB3 HR3 hlen
  go_wp2
  go_quiet ((go_at_call 15; exact Calls.quiet_of (HE.out _)))
  go_wp2
  go_ret
  exact ⟨rfl, below_drewN HB4.out _⟩
end Go.Proofs.Ybulkbgyy
