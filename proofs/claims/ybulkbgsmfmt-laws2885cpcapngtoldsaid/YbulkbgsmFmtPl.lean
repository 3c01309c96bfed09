import Derived.Test.YbulkbgsmFmtNw
import Derived.Test.YbulkbgsmFmtAp
namespace Go.Proofs.YbulkbgsmFmt
open Go.RowKit

theorem b32_len (big : Bool) (v : Int) : (b32 big v).length = 4 := by cases big <;> rfl
theorem b16_len (big : Bool) (v : Int) : (b16 big v).length = 2 := by cases big <;> rfl

theorem b32_in (big : Bool) (v : Int) (h : 0 ≤ v ∧ v ≤ 4294967295) : ∀ x ∈ b32 big v, 0 ≤ x ∧ x ≤ 255 := by
  intro x hx
  cases big <;> simp only [b32, if_true, if_false, Bool.false_eq_true, List.mem_cons, List.not_mem_nil, or_false] at hx <;> rcases hx with rfl | rfl | rfl | rfl <;> omega
theorem b16_in (big : Bool) (v : Int) (h : 0 ≤ v ∧ v ≤ 65535) : ∀ x ∈ b16 big v, 0 ≤ x ∧ x ≤ 255 := by
  intro x hx
  cases big <;> simp only [b16, if_true, if_false, Bool.false_eq_true, List.mem_cons, List.not_mem_nil, or_false] at hx <;> rcases hx with rfl | rfl <;> omega

theorem get_of {L B : List Int} {p n : Nat} (h : (L.drop p).take n = B) (j : Nat) (x : Int) (hx : B[j]? = some x) (hj : j < n) (hl : p + j < L.length) : L[p + j] = x := by
  rw [← h, List.getElem?_take_of_lt hj, List.getElem?_drop] at hx
  exact (List.getElem?_eq_some_iff.1 hx).2

theorem u32_at (big : Bool) (L : List Int) (p : Nat) (v : Int) (h : (L.drop p).take 4 = b32 big v) (hp : p + 3 < L.length) : u32f big L[p] L[p + 1] L[p + 2] L[p + 3] = v := by
  cases big with
  | true =>
    have e0 := get_of h 0 (v / 16777216) rfl (by decide) (by omega)
    have e1 := get_of h 1 (v / 65536 % 256) rfl (by decide) (by omega)
    have e2 := get_of h 2 (v / 256 % 256) rfl (by decide) (by omega)
    have e3 := get_of h 3 (v % 256) rfl (by decide) (by omega)
    simp only [Nat.add_zero] at e0
    rw [e0, e1, e2, e3]
    simp only [u32f]
    simp
    omega
  | false =>
    have e0 := get_of h 0 (v % 256) rfl (by decide) (by omega)
    have e1 := get_of h 1 (v / 256 % 256) rfl (by decide) (by omega)
    have e2 := get_of h 2 (v / 65536 % 256) rfl (by decide) (by omega)
    have e3 := get_of h 3 (v / 16777216) rfl (by decide) (by omega)
    simp only [Nat.add_zero] at e0
    rw [e0, e1, e2, e3]
    simp only [u32f]
    simp
    omega

theorem u16_at (big : Bool) (L : List Int) (p : Nat) (v : Int) (h : (L.drop p).take 2 = b16 big v) (hp : p + 1 < L.length) : u16f big L[p] L[p + 1] = v := by
  cases big with
  | true =>
    have e0 := get_of h 0 (v / 256) rfl (by decide) (by omega)
    have e1 := get_of h 1 (v % 256) rfl (by decide) (by omega)
    simp only [Nat.add_zero] at e0
    rw [e0, e1]
    simp only [u16f]
    simp
    omega
  | false =>
    have e0 := get_of h 0 (v % 256) rfl (by decide) (by omega)
    have e1 := get_of h 1 (v / 256) rfl (by decide) (by omega)
    simp only [Nat.add_zero] at e0
    rw [e0, e1]
    simp only [u16f]
    simp
    omega

/-- The file's header. -/
def hdrOf (big : Bool) (link : Int) : List Int := [] ++ b32 big 2712847316 ++ b16 big 2 ++ b16 big 4 ++ b32 big 0 ++ b32 big 0 ++ b32 big 65535 ++ b32 big (link + 2684354560)
/-- A record. -/
def recOf (big : Bool) (i : Nat) (f : List Int) : List Int := b32 big i ++ b32 big 7 ++ b32 big f.length ++ b32 big ((f.length : Int) + 3) ++ f
/-- The file with its first k records. -/
def fileAt (big : Bool) (link : Int) (F : List (List Int)) (k : Nat) : List Int := hdrOf big link ++ (List.range k).flatMap fun i => recOf big i (F.getD i [])
/-- Where record k starts. -/
def st (big : Bool) (link : Int) (F : List (List Int)) (k : Nat) : Nat := (fileAt big link F k).length

variable (big : Bool) (link : Int) (F : List (List Int))
theorem hdr_len : (hdrOf big link).length = 24 := by simp [hdrOf, b32_len, b16_len]
theorem rec_len (i : Nat) (f : List Int) : (recOf big i f).length = 16 + f.length := by simp [recOf, b32_len]; omega
theorem file_zero : fileAt big link F 0 = hdrOf big link := by simp [fileAt]
theorem file_succ (k : Nat) : fileAt big link F (k + 1) = fileAt big link F k ++ recOf big k (F.getD k []) := by
  simp [fileAt, List.range_succ, List.flatMap_append]
theorem st_zero : st big link F 0 = 24 := by unfold st; rw [file_zero, hdr_len]
theorem st_succ (k : Nat) : st big link F (k + 1) = st big link F k + 16 + (F.getD k []).length := by
  unfold st
  rw [file_succ, List.length_append, rec_len]
  omega
theorem st_ge (k : Nat) : 24 ≤ st big link F k := by
  induction k with
  | zero => rw [st_zero]; omega
  | succ k ih => rw [st_succ]; omega
theorem st_mono {a b : Nat} (h : a ≤ b) : st big link F a ≤ st big link F b := by
  induction h with
  | refl => exact Nat.le_refl _
  | step _ ih => rw [st_succ]; omega
theorem st_le (hF : ∀ f ∈ F, f.length ≤ 4096) (k : Nat) : st big link F k ≤ 24 + k * 4112 := by
  induction k with
  | zero => rw [st_zero]; omega
  | succ k ih =>
    rw [st_succ]
    have : (F.getD k []).length ≤ 4096 := by
      by_cases hk : k < F.length
      · simpa [List.getD, hk] using hF _ (List.getElem_mem hk)
      · simp [List.getD, hk]
    omega
theorem file_pre {a b : Nat} (h : a ≤ b) : ∃ r, fileAt big link F b = fileAt big link F a ++ r := by
  induction h with
  | refl => exact ⟨[], by simp⟩
  | step _ ih =>
    obtain ⟨r, hr⟩ := ih
    exact ⟨r ++ recOf big _ (F.getD _ []), by rw [file_succ, hr, List.append_assoc]⟩
theorem file_split {k n : Nat} (h : k < n) : ∃ r, fileAt big link F n = fileAt big link F k ++ (recOf big k (F.getD k []) ++ r) := by
  obtain ⟨r, hr⟩ := file_pre big link F (show k + 1 ≤ n from h)
  exact ⟨r, by rw [hr, file_succ, List.append_assoc]⟩
theorem seg (A B C : List Int) (keep : Nat) (h : A.length + B.length ≤ keep) : (((A ++ (B ++ C)).take keep).drop A.length).take B.length = B := by
  rw [List.drop_take, List.drop_left, List.take_take, Nat.min_eq_left (by omega), List.take_left]

theorem file_in (hl : 0 ≤ link ∧ link ≤ 65535) (hF : ∀ f ∈ F, f.length ≤ 4096 ∧ ∀ x ∈ f, 0 ≤ x ∧ x ≤ 255) (k : Nat) (hk : k ≤ 300) : ∀ x ∈ fileAt big link F k, 0 ≤ x ∧ x ≤ 255 := by
  induction k with
  | zero =>
    rw [file_zero]
    intro x hx
    simp only [hdrOf, List.mem_append, List.not_mem_nil, false_or] at hx
    rcases hx with (((((hx | hx) | hx) | hx) | hx) | hx) | hx
    · exact b32_in _ _ (by decide) x hx
    · exact b16_in _ _ (by decide) x hx
    · exact b16_in _ _ (by decide) x hx
    · exact b32_in _ _ (by decide) x hx
    · exact b32_in _ _ (by decide) x hx
    · exact b32_in _ _ (by decide) x hx
    · exact b32_in _ _ (by omega) x hx
  | succ k ih =>
    rw [file_succ]
    intro x hx
    rcases List.mem_append.1 hx with hx | hx
    · exact ih (by omega) x hx
    have hf : (F.getD k []).length ≤ 4096 ∧ ∀ x ∈ F.getD k [], 0 ≤ x ∧ x ≤ 255 := by
      by_cases hk : k < F.length
      · simpa [List.getD, hk] using hF _ (List.getElem_mem hk)
      · simp [List.getD, hk]
    simp only [recOf, List.mem_append] at hx
    rcases hx with (((hx | hx) | hx) | hx) | hx
    · exact b32_in _ _ (by omega) x hx
    · exact b32_in _ _ (by decide) x hx
    · exact b32_in _ _ (by omega) x hx
    · exact b32_in _ _ (by omega) x hx
    · exact hf.2 x hx

/-- What the cut file says. -/
theorem rec_n {k n keep : Nat} (h : k < n) (hk : st big link F k + 16 ≤ keep) : (((fileAt big link F n).take keep).drop (st big link F k + 8)).take 4 = b32 big ((F.getD k []).length : Int) := by
  obtain ⟨r, hr⟩ := file_split big link F h
  have e : fileAt big link F n = (fileAt big link F k ++ b32 big k ++ b32 big 7) ++ (b32 big ((F.getD k []).length : Int) ++ (b32 big (((F.getD k []).length : Int) + 3) ++ F.getD k [] ++ r)) := by
    rw [hr]; simp [recOf]
  have hA : (fileAt big link F k ++ b32 big k ++ b32 big 7).length = st big link F k + 8 := by simp [b32_len, st]
  have hs := seg (fileAt big link F k ++ b32 big k ++ b32 big 7) (b32 big ((F.getD k []).length : Int)) (b32 big (((F.getD k []).length : Int) + 3) ++ F.getD k [] ++ r) keep (by rw [hA, b32_len]; omega)
  rw [← e, hA, b32_len] at hs
  exact hs
theorem rec_data {k n keep : Nat} (h : k < n) (hk : st big link F k + 16 + (F.getD k []).length ≤ keep) : (((fileAt big link F n).take keep).drop (st big link F k + 16)).take (F.getD k []).length = F.getD k [] := by
  obtain ⟨r, hr⟩ := file_split big link F h
  have e : fileAt big link F n = (fileAt big link F k ++ b32 big k ++ b32 big 7 ++ b32 big ((F.getD k []).length : Int) ++ b32 big (((F.getD k []).length : Int) + 3)) ++ (F.getD k [] ++ r) := by
    rw [hr]; simp [recOf]
  have hA : (fileAt big link F k ++ b32 big k ++ b32 big 7 ++ b32 big ((F.getD k []).length : Int) ++ b32 big (((F.getD k []).length : Int) + 3)).length = st big link F k + 16 := by simp [b32_len, st]
  have hs := seg (fileAt big link F k ++ b32 big k ++ b32 big 7 ++ b32 big ((F.getD k []).length : Int) ++ b32 big (((F.getD k []).length : Int) + 3)) (F.getD k []) r keep (by rw [hA]; omega)
  rw [← e, hA] at hs
  exact hs
theorem hdr_pre (n : Nat) : ∃ r, fileAt big link F n = hdrOf big link ++ r := by
  obtain ⟨r, hr⟩ := file_pre big link F (Nat.zero_le n)
  exact ⟨r, by rw [hr, file_zero]⟩
theorem hdr_magic {n keep : Nat} (hk : 24 ≤ keep) : ((fileAt big link F n).take keep).take 4 = b32 big 2712847316 := by
  obtain ⟨r, hr⟩ := hdr_pre big link F n
  have hs := seg [] (b32 big 2712847316) (b16 big 2 ++ b16 big 4 ++ b32 big 0 ++ b32 big 0 ++ b32 big 65535 ++ b32 big (link + 2684354560) ++ r) keep (by rw [b32_len]; simp; omega)
  rw [b32_len] at hs
  rw [hr]
  simpa [hdrOf] using hs
theorem hdr_major {n keep : Nat} (hk : 24 ≤ keep) : (((fileAt big link F n).take keep).drop 4).take 2 = b16 big 2 := by
  obtain ⟨r, hr⟩ := hdr_pre big link F n
  have hs := seg (b32 big 2712847316) (b16 big 2) (b16 big 4 ++ b32 big 0 ++ b32 big 0 ++ b32 big 65535 ++ b32 big (link + 2684354560) ++ r) keep (by rw [b32_len, b16_len]; omega)
  rw [b16_len, b32_len] at hs
  rw [hr]
  simpa [hdrOf] using hs
theorem hdr_link {n keep : Nat} (hk : 24 ≤ keep) : (((fileAt big link F n).take keep).drop 20).take 4 = b32 big (link + 2684354560) := by
  obtain ⟨r, hr⟩ := hdr_pre big link F n
  have hA : (b32 big 2712847316 ++ b16 big 2 ++ b16 big 4 ++ b32 big 0 ++ b32 big 0 ++ b32 big 65535).length = 20 := by simp [b32_len, b16_len]
  have hs := seg (b32 big 2712847316 ++ b16 big 2 ++ b16 big 4 ++ b32 big 0 ++ b32 big 0 ++ b32 big 65535) (b32 big (link + 2684354560)) r keep (by rw [hA, b32_len]; omega)
  rw [hA, b32_len] at hs
  rw [hr]
  simpa [hdrOf] using hs

theorem or_link (link : Int) (h : 0 ≤ link ∧ link ≤ 65535) : bits .or .u32 link 2684354560 = link + 2684354560 := by
  have := or32_16 link 40960 h.1 (by omega) (by decide) (by omega)
  rw [show (2684354560 : Int) = 40960 * 65536 by decide]
  exact this
theorem and_link (link : Int) (h : 0 ≤ link ∧ link ≤ 65535) : bits .and .u32 (link + 2684354560) 65535 = link := by
  obtain ⟨a, rfl⟩ := Int.eq_ofNat_of_zero_le h.1
  have e : ((a : Int) + 2684354560) = ((a + 2684354560 : Nat) : Int) := by omega
  rw [e, show (65535 : Int) = ((65535 : Nat) : Int) from rfl, u32_and_nat (a + 2684354560) 65535 (by omega) (by omega)]
  have := Nat.and_two_pow_sub_one_eq_mod (a + 2684354560) 16
  rw [show (2 : Nat) ^ 16 - 1 = 65535 from rfl, show (2 : Nat) ^ 16 = 65536 from rfl] at this
  rw [this]
  omega
end Go.Proofs.YbulkbgsmFmt
