import Derived.Tactics
namespace Go.Proofs.Ybulkbgyy

/-- The partition that is visited k-th. -/
def vis (P p k : Nat) : Nat := if k = 0 then p else (p + k) % P

/-- The owners that have come when k partitions have been visited, each the first time it comes. -/
def firsts (m P p : Nat) : Nat → List Nat
  | 0 => []
  | k + 1 => if vis P p k % m ∈ firsts m P p k then firsts m P p k else firsts m P p k ++ [vis P p k % m]

theorem vis_succ (P p k : Nat) : vis P p (k + 1) = (vis P p k + 1) % P := by
  unfold vis
  by_cases h : k = 0
  · subst h; simp
  · rw [if_neg h, if_neg (by omega), Nat.mod_add_mod, Nat.add_assoc]

theorem sub_length {A : List Nat} : ∀ {B : List Nat}, A.Nodup → (∀ x ∈ A, x ∈ B) → A.length ≤ B.length := by
  induction A with
  | nil => intro B _ _; simp
  | cons a A ih =>
    intro B hn hs
    have ha : a ∈ B := hs a (by simp)
    rw [List.nodup_cons] at hn
    have := ih (B := B.erase a) hn.2 (fun x hx => by
      have hxa : x ≠ a := fun e => hn.1 (e ▸ hx)
      exact (List.mem_erase_of_ne hxa).2 (hs x (by simp [hx])))
    rw [List.length_erase_of_mem ha] at this
    have hpos : 0 < B.length := List.length_pos_of_mem ha
    simp; omega

theorem firsts_lt (m P p : Nat) (hm : 0 < m) : ∀ k, ∀ o ∈ firsts m P p k, o < m
  | 0, o, h => by simp [firsts] at h
  | k + 1, o, h => by
    unfold firsts at h
    split at h
    · exact firsts_lt m P p hm k o h
    · rcases List.mem_append.1 h with h | h
      · exact firsts_lt m P p hm k o h
      · simp at h; subst h; exact Nat.mod_lt _ hm

theorem firsts_nodup (m P p : Nat) : ∀ k, (firsts m P p k).Nodup
  | 0 => by simp [firsts]
  | k + 1 => by
    unfold firsts
    split
    · exact firsts_nodup m P p k
    · rename_i h
      rw [List.nodup_append]
      refine ⟨firsts_nodup m P p k, by simp, fun a ha b hb => ?_⟩
      simp at hb
      subst hb
      exact fun e => h (e ▸ ha)

theorem firsts_step (m P p k : Nat) : firsts m P p k <+: firsts m P p (k + 1) := by
  show firsts m P p k <+: (if vis P p k % m ∈ firsts m P p k then firsts m P p k else firsts m P p k ++ [vis P p k % m])
  split
  · exact List.prefix_refl _
  · exact List.prefix_append _ _

theorem firsts_prefix (m P p : Nat) {j k : Nat} (h : j ≤ k) : firsts m P p j <+: firsts m P p k := by
  induction k with
  | zero => have : j = 0 := by omega
            subst this; exact List.prefix_refl _
  | succ k ih =>
    by_cases e : j = k + 1
    · subst e; exact List.prefix_refl _
    · exact (ih (by omega)).trans (firsts_step m P p k)

theorem firsts_le (m P p k : Nat) (hm : 0 < m) : (firsts m P p k).length ≤ m := by
  have := sub_length (A := firsts m P p k) (B := List.range m) (firsts_nodup m P p k) (fun x hx => List.mem_range.2 (firsts_lt m P p hm k x hx))
  simpa using this

theorem mem_firsts (m P p : Nat) : ∀ k j, j < k → vis P p j % m ∈ firsts m P p k
  | 0, j, h => by omega
  | k + 1, j, h => by
    by_cases e : j = k
    · subst e
      show _ ∈ (if vis P p j % m ∈ firsts m P p j then firsts m P p j else firsts m P p j ++ [vis P p j % m])
      split
      · assumption
      · simp
    · exact (firsts_step m P p k).subset (mem_firsts m P p k j (by omega))

theorem cover (P p o : Nat) (ho : o < P) : ∃ j, 1 ≤ j ∧ j ≤ P ∧ vis P p j = o := by
  have hP : 0 < P := by omega
  have hr : p % P < P := Nat.mod_lt _ hP
  by_cases h : p % P < o
  · refine ⟨o - p % P, by omega, by omega, ?_⟩
    unfold vis
    rw [if_neg (by omega), Nat.add_mod, Nat.mod_eq_of_lt (a := o - p % P) (by omega), Nat.mod_eq_of_lt (by omega)]
    omega
  · refine ⟨P - p % P + o, by omega, by omega, ?_⟩
    unfold vis
    rw [if_neg (by omega)]
    have e : p + (P - p % P + o) = o + P * (p / P + 1) := by
      have := Nat.div_add_mod p P
      rw [Nat.mul_add]
      omega
    rw [e, Nat.add_mul_mod_self_left, Nat.mod_eq_of_lt ho]

theorem firsts_full (m P p : Nat) (hm : 0 < m) (hP : m ≤ P) : (firsts m P p (P + 1)).length = m := by
  refine Nat.le_antisymm (firsts_le m P p _ hm) ?_
  have := sub_length (A := List.range m) (B := firsts m P p (P + 1)) List.nodup_range (fun x hx => by
    have hx := List.mem_range.1 hx
    obtain ⟨j, h1, h2, h3⟩ := cover P p x (by omega)
    have := mem_firsts m P p (P + 1) j (by omega)
    rwa [h3, Nat.mod_eq_of_lt hx] at this)
  simpa using this

/-- All have come: no more can come. -/
theorem firsts_short (m P p k : Nat) (hm : 0 < m) (hP : m ≤ P) (h : (firsts m P p k).length < m) : k ≤ P := by
  rcases Nat.lt_or_ge P k with h' | h'
  · have := (firsts_prefix m P p (show P + 1 ≤ k by omega)).length_le
    rw [firsts_full m P p hm hP] at this
    omega
  · exact h'

theorem firsts_whole (m P p k : Nat) (hm : 0 < m) (hP : m ≤ P) (hk : k ≤ P + 1) (h : (firsts m P p k).length = m) : firsts m P p k = firsts m P p (P + 1) :=
  (firsts_prefix m P p hk).eq_of_length (h.trans (firsts_full m P p hm hP).symm)

theorem firsts_take (m P p k : Nat) (hk : k ≤ P + 1) : firsts m P p k = (firsts m P p (P + 1)).take (firsts m P p k).length :=
  List.prefix_iff_eq_take.1 (firsts_prefix m P p hk)

theorem vis_lt (P p k : Nat) (hp : p < 2 * P) : vis P p k < 2 * P := by
  unfold vis
  split
  · exact hp
  · have := Nat.mod_lt (p + k) (show P > 0 by omega); omega
end Go.Proofs.Ybulkbgyy
