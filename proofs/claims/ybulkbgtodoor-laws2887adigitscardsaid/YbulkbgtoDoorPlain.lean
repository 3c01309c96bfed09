import Derived.Lib.ParseIntB
import Derived.Laws.BytesArg
namespace Go.Proofs.YbulkbgtoDoor

/-- What the law's own reader of digits does to a row of bytes, from the accumulator on. -/
def zp : Int → List Int → Option Int
  | v, [] => some v
  | v, c :: r => if c < 48 ∨ 57 < c then none else zp (if v ≤ 4294967296 then v * 10 + (c - 48) else v) r

/-- The number that the law's own reader gives; none where it says no. -/
def parseV (xs : List Int) : Option Int :=
  if xs = [] then none else (zp 0 xs).bind fun v => if 4294967295 < v then none else some v

theorem zp_ge : ∀ (xs : List Int) (a v : Int), 0 ≤ a → zp a xs = some v → a ≤ v
  | [], a, v, _, h => by simp [zp] at h; omega
  | c :: r, a, v, ha, h => by
    unfold zp at h
    by_cases hc : c < 48 ∨ 57 < c
    · rw [if_pos hc] at h; cases h
    · rw [if_neg hc] at h
      by_cases hv : a ≤ 4294967296
      · rw [if_pos hv] at h
        have := zp_ge r _ v (by omega) h
        omega
      · rw [if_neg hv] at h
        exact zp_ge r _ v ha h

/-- The bytes that a row of numbers spells. -/
def bs (xs : List Int) : List UInt8 := xs.map fun n => UInt8.ofNat n.toNat

theorem zp_of_ok : ∀ (xs : List Int) (a : Nat), a ≤ 4294967295 → (∀ n ∈ xs, 0 ≤ n ∧ n ≤ 255) →
    (∀ u, Lib.parseUintM 4294967295 a (bs xs) = .ok u → zp a xs = some (u : Int) ∧ u ≤ 4294967295) ∧
    ((∀ u, Lib.parseUintM 4294967295 a (bs xs) ≠ .ok u) → ∀ v, zp a xs = some v → 4294967295 < v)
  | [], a, ha, _ => by
    refine ⟨fun u h => ?_, fun h => ?_⟩
    · simp [bs, Lib.parseUintM] at h
      subst h
      exact ⟨rfl, ha⟩
    · exact absurd rfl (h a)
  | c :: r, a, ha, hb => by
    obtain ⟨h0, h1⟩ := hb c (by simp)
    have hb' : ∀ n ∈ r, 0 ≤ n ∧ n ≤ 255 := fun n hn => hb n (by simp [hn])
    have hcn : (UInt8.ofNat c.toNat).toNat = c.toNat := by
      rw [UInt8.toNat_ofNat']; omega
    have e : bs (c :: r) = UInt8.ofNat c.toNat :: bs r := rfl
    rw [e]
    unfold Lib.parseUintM zp
    rw [hcn]
    by_cases hd : 48 ≤ c.toNat ∧ c.toNat ≤ 57
    · have hz : ¬ (c < 48 ∨ 57 < c) := by omega
      rw [if_pos hd, if_neg hz, if_neg (show ¬ 1844674407370955162 ≤ a by omega), if_pos (show (a : Int) ≤ 4294967296 by omega)]
      by_cases hm : 4294967295 < a * 10 + (c.toNat - 48)
      · rw [if_pos hm]
        refine ⟨fun u h => (by cases h), fun _ v h => ?_⟩
        have := zp_ge r _ v (by omega) h
        omega
      · rw [if_neg hm]
        have ih := zp_of_ok r (a * 10 + (c.toNat - 48)) (by omega) hb'
        have ea : ((a * 10 + (c.toNat - 48) : Nat) : Int) = (a : Int) * 10 + (c - 48) := by omega
        rw [ea] at ih
        exact ih
    · have hz : c < 48 ∨ 57 < c := by omega
      rw [if_neg hd, if_pos hz]
      exact ⟨fun u h => (by cases h), fun _ v h => (by cases h)⟩

theorem parse_ok_of {xs : List Int} (hb : ∀ n ∈ xs, 0 ≤ n ∧ n ≤ 255) {u : Nat} (h : Lib.parseUintB 32 (strOfNums xs).data.toList = .ok u) : parseV xs = some (u : Int) ∧ u ≤ 4294967295 := by
  have h' : Lib.parseUintB 32 (bs xs) = .ok u := h
  cases xs with
  | nil => simp [bs, Lib.parseUintB] at h'
  | cons c r =>
    have h2 : Lib.parseUintM 4294967295 0 (bs (c :: r)) = .ok u := h'
    have := (zp_of_ok (c :: r) 0 (by omega) hb).1 u h2
    obtain ⟨hz, hu⟩ := this
    refine ⟨?_, hu⟩
    have hz' : zp 0 (c :: r) = some (u : Int) := hz
    simp only [parseV, List.cons_ne_nil, if_false, hz', Option.bind_some]
    rw [if_neg (by omega)]

theorem parse_none_of {xs : List Int} (hb : ∀ n ∈ xs, 0 ≤ n ∧ n ≤ 255)
    (h : ∀ u, Lib.parseUintB 32 (strOfNums xs).data.toList ≠ .ok u) : parseV xs = none := by
  cases xs with
  | nil => rfl
  | cons c r =>
    have h2 : ∀ u, Lib.parseUintM 4294967295 0 (bs (c :: r)) ≠ .ok u := h
    have := (zp_of_ok (c :: r) 0 (by omega) hb).2 h2
    have e : ((0 : Nat) : Int) = 0 := rfl
    rw [e] at this
    simp only [parseV, List.cons_ne_nil, if_false]
    cases hz : zp 0 (c :: r) with
    | none => rfl
    | some v =>
      have := this v hz
      simp only [Option.bind_some]
      rw [if_pos (by omega)]

/-- How ParseUint ends at no byte at all: the end 'no row of digits', by its own reckoning. -/
def bare : Lib.NumEnd Nat := Lib.parseUintB 32 []

theorem num_ends (e : Lib.NumEnd Nat) : (∃ u, e = .ok u) ∨ e = .range ∨ e = bare := by
  cases e with
  | ok u => exact .inl ⟨u, rfl⟩
  | range => exact .inr (.inl rfl)
  | _ => exact .inr (.inr rfl)
theorem bare_ne (u : Nat) : bare ≠ .ok u := by intro h; cases h
theorem range_ne (u : Nat) : (Lib.NumEnd.range : Lib.NumEnd Nat) ≠ .ok u := by intro h; cases h

theorem zp_le : ∀ (xs : List Int) (a v : Int), 0 ≤ a → a ≤ 42949672969 → zp a xs = some v → v ≤ 42949672969
  | [], a, v, _, h2, h => by simp [zp] at h; omega
  | c :: r, a, v, ha, h2, h => by
    unfold zp at h
    by_cases hc : c < 48 ∨ 57 < c
    · rw [if_pos hc] at h; cases h
    · rw [if_neg hc] at h
      by_cases hv : a ≤ 4294967296
      · rw [if_pos hv] at h
        exact zp_le r _ v (by omega) (by omega) h
      · rw [if_neg hv] at h
        exact zp_le r _ v ha h2 h
end Go.Proofs.YbulkbgtoDoor
