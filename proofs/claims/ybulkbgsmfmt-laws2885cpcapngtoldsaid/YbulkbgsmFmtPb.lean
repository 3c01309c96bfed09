import Derived.Test.YbulkbgsmFmtTb
import Derived.Test.YbulkbgsmFmtPl
namespace Go.Proofs.YbulkbgsmFmt
open Go.RowKit

/-- A block of a pcapng file. Its two signs say which: an interface (its link type), one to be passed over, a packet (its interface and octets), a simple packet (its octets). -/
structure Bk where
  x : Bool
  y : Bool
  n : Int
  i : Nat
  f : List Int
abbrev Bk.ifc (l : Int) : Bk := ⟨false, false, l, 0, []⟩
abbrev Bk.skp : Bk := ⟨false, true, 0, 0, []⟩
abbrev Bk.epb (i : Nat) (f : List Int) : Bk := ⟨true, false, 0, i, f⟩
abbrev Bk.spb (f : List Int) : Bk := ⟨true, true, 0, 0, f⟩

/-- The octets behind the data. -/
def padL (n : Nat) : List Int := List.replicate ((4 - n % 4) % 4) 0
theorem padL_len (n : Nat) : (padL n).length = (4 - n % 4) % 4 := by simp [padL]

def Bk.typ : Bk → Int
  | ⟨false, false, _, _, _⟩ => 1
  | ⟨false, true, _, _, _⟩ => 2989
  | ⟨true, false, _, _, _⟩ => 6
  | ⟨true, true, _, _, _⟩ => 3

def Bk.body (big : Bool) : Bk → List Int
  | ⟨false, false, l, _, _⟩ => b16 big l ++ b16 big 0 ++ b32 big 0
  | ⟨false, true, _, _, _⟩ => b32 big 0
  | ⟨true, false, _, i, f⟩ => b32 big i ++ b32 big 0 ++ b32 big 0 ++ b32 big f.length ++ b32 big ((f.length : Int) + 5) ++ f ++ padL f.length
  | ⟨true, true, _, _, f⟩ => b32 big f.length ++ f ++ padL f.length

/-- A block's octets. -/
def Bk.bytes (big : Bool) (b : Bk) : List Int := b32 big b.typ ++ (b32 big (((b.body big).length : Int) + 12) ++ (b.body big ++ b32 big (((b.body big).length : Int) + 12)))

def Bk.ok : Bk → Prop
  | ⟨false, false, l, _, _⟩ => 0 ≤ l ∧ l ≤ 65535
  | ⟨false, true, _, _, _⟩ => True
  | ⟨true, false, _, i, f⟩ => i ≤ 100000 ∧ f.length ≤ 4096 ∧ ∀ x ∈ f, 0 ≤ x ∧ x ≤ 255
  | ⟨true, true, _, _, f⟩ => f.length ≤ 4096 ∧ ∀ x ∈ f, 0 ≤ x ∧ x ≤ 255

def Bk.blen : Bk → Nat
  | ⟨false, false, _, _, _⟩ => 8
  | ⟨false, true, _, _, _⟩ => 4
  | ⟨true, false, _, _, f⟩ => 20 + f.length + (4 - f.length % 4) % 4
  | ⟨true, true, _, _, f⟩ => 4 + f.length + (4 - f.length % 4) % 4

theorem Bk.body_len (big : Bool) (b : Bk) : (b.body big).length = b.blen := by
  match b with
  | ⟨false, false, l, _, _⟩ => simp [Bk.body, Bk.blen, b32_len, b16_len]
  | ⟨false, true, _, _, _⟩ => simp [Bk.body, Bk.blen, b32_len]
  | ⟨true, false, _, i, f⟩ => simp [Bk.body, Bk.blen, b32_len, padL_len]; omega
  | ⟨true, true, _, _, f⟩ => simp [Bk.body, Bk.blen, b32_len, padL_len]; omega
theorem Bk.bytes_len (big : Bool) (b : Bk) : (b.bytes big).length = b.blen + 12 := by
  simp [Bk.bytes, b32_len, Bk.body_len]
  omega
theorem Bk.blen_mod (b : Bk) : b.blen % 4 = 0 := by
  obtain ⟨x, y, n, i, f⟩ := b
  cases x <;> cases y <;> simp [Bk.blen] <;> omega
theorem Bk.blen_le (b : Bk) (h : b.ok) : b.blen ≤ 4200 := by
  match b, h with
  | ⟨false, false, l, _, _⟩, h => simp [Bk.blen]
  | ⟨false, true, _, _, _⟩, h => simp [Bk.blen]
  | ⟨true, false, _, i, f⟩, h => have := h.2.1; simp [Bk.blen]; omega
  | ⟨true, true, _, _, f⟩, h => have := h.1; simp [Bk.blen]; omega

theorem padL_in (n : Nat) : ∀ x ∈ padL n, 0 ≤ x ∧ x ≤ 255 := by
  intro x hx
  simp [padL] at hx
  omega
theorem Bk.body_in (big : Bool) (b : Bk) (h : b.ok) : ∀ x ∈ b.body big, 0 ≤ x ∧ x ≤ 255 := by
  intro x hx
  match b, h, hx with
  | ⟨false, false, l, _, _⟩, h, hx =>
    simp only [Bk.body, List.mem_append] at hx
    rcases hx with (hx | hx) | hx
    · exact b16_in _ _ h x hx
    · exact b16_in _ _ (by decide) x hx
    · exact b32_in _ _ (by decide) x hx
  | ⟨false, true, _, _, _⟩, h, hx => exact b32_in _ _ (by decide) x hx
  | ⟨true, false, _, i, f⟩, h, hx =>
    simp only [Bk.body, List.mem_append] at hx
    obtain ⟨h1, h2, h3⟩ := h
    rcases hx with (((((hx | hx) | hx) | hx) | hx) | hx) | hx
    · exact b32_in _ _ (by omega) x hx
    · exact b32_in _ _ (by decide) x hx
    · exact b32_in _ _ (by decide) x hx
    · exact b32_in _ _ (by omega) x hx
    · exact b32_in _ _ (by omega) x hx
    · exact h3 x hx
    · exact padL_in _ x hx
  | ⟨true, true, _, _, f⟩, h, hx =>
    simp only [Bk.body, List.mem_append] at hx
    obtain ⟨h2, h3⟩ := h
    rcases hx with (hx | hx) | hx
    · exact b32_in _ _ (by omega) x hx
    · exact h3 x hx
    · exact padL_in _ x hx
theorem Bk.typ_is (b : Bk) : b.typ = 1 ∨ b.typ = 2989 ∨ b.typ = 6 ∨ b.typ = 3 := by
  obtain ⟨x, y, n, i, f⟩ := b
  cases x <;> cases y <;> simp [Bk.typ]
theorem Bk.typ_in (b : Bk) : 0 ≤ b.typ ∧ b.typ ≤ 4294967295 := by have := b.typ_is; omega
theorem Bk.bytes_in (big : Bool) (b : Bk) (h : b.ok) : ∀ x ∈ b.bytes big, 0 ≤ x ∧ x ≤ 255 := by
  intro x hx
  have hl := b.body_len big
  have hle := b.blen_le h
  simp only [Bk.bytes, List.mem_append] at hx
  rcases hx with hx | hx | hx | hx
  · exact b32_in _ _ b.typ_in x hx
  · exact b32_in _ _ (by omega) x hx
  · exact Bk.body_in big b h x hx
  · exact b32_in _ _ (by omega) x hx

/-- The section header block. -/
def secHdr (big : Bool) : List Int := [10, 13, 13, 10] ++ b32 big 28 ++ b32 big 439041101 ++ b16 big 1 ++ b16 big 0 ++ b32 big 4294967295 ++ b32 big 4294967295 ++ b32 big 28
theorem secHdr_len (big : Bool) : (secHdr big).length = 28 := by simp [secHdr, b32_len, b16_len]
/-- The file. -/
def pfile (big : Bool) (bs : List Bk) : List Int := secHdr big ++ bs.flatMap (Bk.bytes big)
/-- Where block k starts. -/
def pos (big : Bool) (bs : List Bk) (k : Nat) : Nat := (pfile big (bs.take k)).length

variable (big : Bool) (bs : List Bk)
theorem pfile_app (cs : List Bk) : pfile big (bs ++ cs) = pfile big bs ++ cs.flatMap (Bk.bytes big) := by simp [pfile]
theorem pos_zero : pos big bs 0 = 28 := by simp [pos, pfile, secHdr_len]
theorem pos_end : pos big bs bs.length = (pfile big bs).length := by simp [pos]
theorem pos_succ (k : Nat) (hk : k < bs.length) : pos big bs (k + 1) = pos big bs k + (bs[k].blen + 12) := by
  unfold pos
  rw [List.take_succ_eq_append_getElem hk, pfile_app, List.length_append]
  simp [Bk.bytes_len]
theorem pos_ge (k : Nat) : 28 ≤ pos big bs k := by
  unfold pos pfile
  rw [List.length_append, secHdr_len]
  omega
theorem pfile_split (k : Nat) (hk : k < bs.length) : ∃ r, pfile big bs = pfile big (bs.take k) ++ (bs[k].bytes big ++ r) := by
  refine ⟨(bs.drop (k + 1)).flatMap (Bk.bytes big), ?_⟩
  have e : bs = bs.take k ++ bs.drop k := (List.take_append_drop k bs).symm
  conv => lhs; rw [e]
  rw [pfile_app, List.drop_eq_getElem_cons hk, List.flatMap_cons]
theorem pos_le (k : Nat) (hk : k < bs.length) : pos big bs k + (bs[k].blen + 12) ≤ (pfile big bs).length := by
  obtain ⟨r, hr⟩ := pfile_split big bs k hk
  rw [hr, List.length_append, List.length_append, Bk.bytes_len]
  unfold pos
  omega
theorem blk_at (k : Nat) (hk : k < bs.length) : ((pfile big bs).drop (pos big bs k)).take (bs[k].blen + 12) = bs[k].bytes big := by
  obtain ⟨r, hr⟩ := pfile_split big bs k hk
  rw [hr]
  unfold pos
  rw [List.drop_left, ← Bk.bytes_len big, List.take_left]
theorem pfile_in (h : ∀ b ∈ bs, b.ok) : ∀ x ∈ pfile big bs, 0 ≤ x ∧ x ≤ 255 := by
  intro x hx
  rcases List.mem_append.1 hx with hx | hx
  · simp only [secHdr, List.mem_append] at hx
    rcases hx with ((((((hx | hx) | hx) | hx) | hx) | hx) | hx) | hx
    · simp at hx
      omega
    · exact b32_in _ _ (by decide) x hx
    · exact b32_in _ _ (by decide) x hx
    · exact b16_in _ _ (by decide) x hx
    · exact b16_in _ _ (by decide) x hx
    · exact b32_in _ _ (by decide) x hx
    · exact b32_in _ _ (by decide) x hx
    · exact b32_in _ _ (by decide) x hx
  · obtain ⟨b, hb, hx⟩ := List.mem_flatMap.1 hx
    exact Bk.bytes_in big b (h b hb) x hx
theorem pfile_len (h : ∀ b ∈ bs, b.ok) : (pfile big bs).length ≤ 28 + bs.length * 4212 := by
  unfold pfile
  rw [List.length_append, secHdr_len]
  have : (bs.flatMap (Bk.bytes big)).length ≤ bs.length * 4212 := by
    induction bs with
    | nil => simp
    | cons b r ih =>
      have h1 := ih (fun b hb => h b (List.mem_cons_of_mem _ hb))
      have h2 := b.blen_le (h b List.mem_cons_self)
      simp only [List.flatMap_cons, List.length_append, Bk.bytes_len, List.length_cons]
      omega
  omega
theorem sec_take12 : (pfile big bs).take 12 = mag12 big := by cases big <;> rfl
theorem sec_major : ((pfile big bs).drop 12).take 2 = b16 big 1 := by cases big <;> rfl
theorem sec_end : ((pfile big bs).drop 24).take 4 = b32 big 28 := by cases big <;> rfl

theorem sub_seg {L X : List Int} {p n : Nat} (h : (L.drop p).take n = X) (a c : Nat) (hac : a + c ≤ n) : (L.drop (p + a)).take c = (X.drop a).take c := by
  rw [← h, List.drop_take, List.drop_drop, List.take_take, Nat.min_eq_left (by omega)]
theorem take_app {A B : List Int} {n : Nat} (h : A.length = n) : (A ++ B).take n = A := by subst h; exact List.take_left
theorem drop_app {A B : List Int} {n : Nat} (h : A.length = n) : (A ++ B).drop n = B := by subst h; exact List.drop_left

theorem notsec (L : List Int) (p : Nat) (b : Bk) (h : (L.drop p).take 4 = b32 big b.typ) (hp : p + 3 < L.length) : ¬ u32f false L[p] L[p + 1] L[p + 2] L[p + 3] = 168627466 := by
  cases big with
  | true =>
    have e0 := get_of h 0 (b.typ / 16777216) rfl (by decide) (by omega)
    have e1 := get_of h 1 (b.typ / 65536 % 256) rfl (by decide) (by omega)
    have e2 := get_of h 2 (b.typ / 256 % 256) rfl (by decide) (by omega)
    have e3 := get_of h 3 (b.typ % 256) rfl (by decide) (by omega)
    simp only [Nat.add_zero] at e0
    rw [e0, e1, e2, e3]
    rcases b.typ_is with e | e | e | e <;> rw [e] <;> decide
  | false =>
    have e0 := get_of h 0 (b.typ % 256) rfl (by decide) (by omega)
    have e1 := get_of h 1 (b.typ / 256 % 256) rfl (by decide) (by omega)
    have e2 := get_of h 2 (b.typ / 65536 % 256) rfl (by decide) (by omega)
    have e3 := get_of h 3 (b.typ / 16777216) rfl (by decide) (by omega)
    simp only [Nat.add_zero] at e0
    rw [e0, e1, e2, e3]
    rcases b.typ_is with e | e | e | e <;> rw [e] <;> decide
end Go.Proofs.YbulkbgsmFmt
