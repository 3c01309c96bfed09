import Derived.Test.YbulkbgyyLocks
import Derived.WalkSpells
import Derived.WalkLawsBesides
import Derived.Defers
import Derived.MapKept
namespace Go.Proofs.Ybulkbgyy
open Go.MuLone Go.RowKit

theorem modify_modify_same (h : Array Obj) (b i : Nat) (x y : Value) (hb : ∀ c t fr, h[b]? = some (.cells c t fr) → c[i]? = some y) :
    ((h.modify b fun | .cells c elem frozen => .cells (c.setIfInBounds i x) elem frozen | o => o).modify b fun | .cells c elem frozen => .cells (c.setIfInBounds i y) elem frozen | o => o) = h := by
  apply Array.ext
  · simp
  · intro j h1 h2
    simp only [Array.getElem_modify]
    by_cases e : b = j
    · subst e
      simp only [if_true]
      have hj : h[b]? = some h[b] := by simp [h2]
      cases ho : h[b] with
      | cells c t fr =>
        rw [ho] at hj
        have hy := hb c t fr hj
        simp only [Array.setIfInBounds_setIfInBounds]
        congr 1
        apply Array.ext
        · simp
        · intro k k1 k2
          by_cases ek : i = k
          · subst ek
            have : c[i]? = some c[i] := by simp [k2]
            rw [this] at hy
            simpa using (Option.some.inj hy).symm
          · exact Array.getElem_setIfInBounds_ne k2 ek
      | _ => rfl
    · rw [if_neg e, if_neg e]

/-- A cell stored into and stored back: the world is the old one. -/
theorem setCell_back (w : World) (b i : Nat) (x y : Value) (h : w.cell? ⟨b, i, none⟩ = some y) : (w.setCell ⟨b, i, none⟩ x).setCell ⟨b, i, none⟩ y = w := by
  have := modify_modify_same w.heap b i x y (fun c t fr hc => by simpa [World.cell?, hc] using h)
  have key : ((w.setCell ⟨b, i, none⟩ x).setCell ⟨b, i, none⟩ y).heap = w.heap := this
  show ({ w with heap := ((w.setCell ⟨b, i, none⟩ x).setCell ⟨b, i, none⟩ y).heap } : World) = w
  rw [key]

/-- (*sync.Mutex).TryLock on a lock that is free. -/
theorem try_free (a : Addr) (w : World) (hc : w.cell? a = some (.int .i32 0)) (hz : w.frozen? a = false) :
    Calls Yba.prog 8 #[.pointer (some a)] w fun e w' => e = .returned (.bool true) ∧ w' = w.setCell a (.int .i32 1) := by
  go_enter Yba.func8, Yba.ntmps8
  go_wp2_with (go_at_call 19; refine (itry_free a _ hc hz).mono ?_; rintro e w' ⟨rfl, rfl⟩)
  go_ret
  exact ⟨rfl, rfl⟩

set_option maxHeartbeats 400000 in
theorem mark_any (c : Nat) (m : ByteArray) (w : World) (h12 : w.cell? ⟨c, 12, none⟩ = some (.int .i32 0)) (hz : w.frozen? ⟨c, 12, none⟩ = false) (h18 : w.cell? ⟨c, 18, none⟩ = some (.string m)) :
    Calls Yba.prog 7 #[.pointer (some ⟨c, 0, none⟩)] w fun e w' => e = .returned (.string m) ∧ w' = w := by
  go_enter_defers Yba.func7, Yba.ntmps7
  go_wp2_with (go_at_call 18; refine (lock_free Yba.muLib ⟨c, 12, none⟩ _ h12 hz).mono ?_; rintro e w' ⟨rfl, rfl⟩)
  refine leaves_cons (f := 9) (args := #[.pointer (some ⟨c, 12, none⟩)]) (by simp) (by simp [go_sem]) ?_
  refine (unlock_deferred Yba.muLib ⟨c, 12, none⟩ .returning _ ?_ ?_).mono ?_
  · exact World.cell?_setCell_same w ⟨c, 12, none⟩ (.int .i32 1) h12
  · simp [hz]
  rintro e u' w'' ⟨rfl, rfl, rfl⟩
  refine ⟨_, results_tmp rfl _ _ _, rfl, setCell_back w c 12 _ _ h12⟩

/-- A map of one entry. -/
def one (s : ByteArray) (v : Value) : Obj := .map #[{ key := .string s, val := v, born := 0 }] 1

theorem check_str (b : Bool) (s : ByteArray) (w : World) : (Instr.checkKey b 10000 9 (.string s)).run Yba.prog w = .ok () w := by
  have h2 := run_underlying (P := Yba.prog) Yba.underlying9
  show (Instr.checkKey b (9999 + 1) 9 (.string s)).run Yba.prog w = .ok () w
  rw [Instr.checkKey]
  simp [h2]

theorem insert_new (W : World) (r : Nat) (t e : TypeId) (s : ByteArray) (v : Value) (hr : r = W.heap.size) (ht : Yba.prog.underlying t = some (.map 9 e)) :
    (Instr.mapUpdate t (.map (some r)) (.string s) v).run Yba.prog (W.alloc (.map #[] 0)) = .ok () (W.alloc (one s v)) := by
  subst hr
  have hb : (W.alloc (.map #[] 0)).heap[W.heap.size]? = some (.map #[] 0) := heap_alloc_new _ _
  have hs : ∀ o, ({ W.alloc (.map #[] 0) with heap := (W.alloc (.map #[] 0)).heap.setIfInBounds W.heap.size o } : World) = W.alloc o := by
    intro o
    show ({ W with heap := (W.heap.push (.map #[] 0)).setIfInBounds W.heap.size o } : World) = { W with heap := W.heap.push o }
    have : (W.heap.push (.map #[] 0)).setIfInBounds W.heap.size o = W.heap.push o := by
      apply Array.ext_getElem?
      intro i
      rw [Array.getElem?_setIfInBounds, Array.getElem?_push, Array.getElem?_push]
      by_cases e : W.heap.size = i
      · subst e; simp
      · rw [if_neg e, if_neg (by omega), if_neg (by omega)]
    rw [this]
  have h1 := run_underlying (P := Yba.prog) ht
  have h2 := run_underlying (P := Yba.prog) Yba.underlying9
  have h3 := MapKept.run_getObj_map (P := Yba.prog) hb
  have h4 := fun o => MapKept.run_setObj_map (P := Yba.prog) o hb
  simp [Instr.mapUpdate, h1, h2, h3, h4, check_str, Instr.findKey, Instr.findNow, one]
  exact hs _

theorem look_one (W : World) (r : Nat) (t e : TypeId) (s : ByteArray) (v : Value) (hb : W.heap[r]? = some (one s v)) (ht : Yba.prog.underlying t = some (.map 9 e)) :
    (Instr.lookup t (.map (some r)) (.string s) false).run Yba.prog W = .ok v W := by
  unfold one at hb
  have h1 := run_underlying (P := Yba.prog) ht
  have h2 := run_underlying (P := Yba.prog) Yba.underlying9
  have h3 := MapKept.run_getObj_map (P := Yba.prog) hb
  have hss : (s == s) = true := (MapKept.bytes_beq s s).2 rfl
  simp [Instr.lookup, h1, h2, h3, check_str, Instr.findKey, Instr.findNow, Instr.sameNow, hss]

set_option maxHeartbeats 400000 in
theorem floor_any (c r : Nat) (s : ByteArray) (n : Int) (w : World) (h12 : w.cell? ⟨c, 12, none⟩ = some (.int .i32 0)) (hz : w.frozen? ⟨c, 12, none⟩ = false)
    (h16 : w.cell? ⟨c, 16, none⟩ = some (.map (some r))) (hr : w.heap[r]? = some (one s (.int .u64 n))) (hne : r ≠ c) :
    Calls Yba.prog 10 #[.pointer (some ⟨c, 0, none⟩), .string s] w fun e w' => e = .returned (.int .u64 n) ∧ w' = w := by
  have hr1 : (w.setCell ⟨c, 12, none⟩ (.int .i32 1)).heap[r]? = some (one s (.int .u64 n)) := by
    rw [← hr]; simp [World.setCell, Array.getElem?_modify, Ne.symm hne]
  have hlk := look_one (w.setCell ⟨c, 12, none⟩ (.int .i32 1)) r 24 22 s _ hr1 Yba.underlying24
  clear hr hr1
  go_enter_defers Yba.func10, Yba.ntmps10
  go_wp2_with (go_at_call 18; refine (lock_free Yba.muLib ⟨c, 12, none⟩ _ h12 hz).mono ?_; rintro e w' ⟨rfl, rfl⟩)
  refine leaves_cons (f := 9) (args := #[.pointer (some ⟨c, 12, none⟩)]) (by simp) (by simp [go_sem]) ?_
  refine (unlock_deferred Yba.muLib ⟨c, 12, none⟩ .returning _ ?_ ?_).mono ?_
  · exact World.cell?_setCell_same w ⟨c, 12, none⟩ (.int .i32 1) h12
  · simp [hz]
  rintro e u' w'' ⟨rfl, rfl, rfl⟩
  refine ⟨_, results_tmp rfl _ _ _, rfl, setCell_back w c 12 _ _ h12⟩

set_option maxHeartbeats 400000 in
theorem met_any (c r : Nat) (s m : ByteArray) (w : World) (h12 : w.cell? ⟨c, 12, none⟩ = some (.int .i32 0)) (hz : w.frozen? ⟨c, 12, none⟩ = false)
    (h19 : w.cell? ⟨c, 19, none⟩ = some (.map (some r))) (hr : w.heap[r]? = some (one s (.string m))) (hne : r ≠ c) :
    Calls Yba.prog 11 #[.pointer (some ⟨c, 0, none⟩), .string s] w fun e w' => e = .returned (.string m) ∧ w' = w := by
  have hr1 : (w.setCell ⟨c, 12, none⟩ (.int .i32 1)).heap[r]? = some (one s (.string m)) := by
    rw [← hr]; simp [World.setCell, Array.getElem?_modify, Ne.symm hne]
  have hlk := look_one (w.setCell ⟨c, 12, none⟩ (.int .i32 1)) r 25 9 s _ hr1 Yba.underlying25
  clear hr hr1
  go_enter_defers Yba.func11, Yba.ntmps11
  go_wp2_with (go_at_call 18; refine (lock_free Yba.muLib ⟨c, 12, none⟩ _ h12 hz).mono ?_; rintro e w' ⟨rfl, rfl⟩)
  refine leaves_cons (f := 9) (args := #[.pointer (some ⟨c, 12, none⟩)]) (by simp) (by simp [go_sem]) ?_
  refine (unlock_deferred Yba.muLib ⟨c, 12, none⟩ .returning _ ?_ ?_).mono ?_
  · exact World.cell?_setCell_same w ⟨c, 12, none⟩ (.int .i32 1) h12
  · simp [hz]
  rintro e u' w'' ⟨rfl, rfl, rfl⟩
  refine ⟨_, results_tmp rfl _ _ _, rfl, setCell_back w c 12 _ _ h12⟩
end Go.Proofs.Ybulkbgyy
