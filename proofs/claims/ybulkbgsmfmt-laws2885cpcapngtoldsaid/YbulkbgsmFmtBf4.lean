import Derived.Test.YbulkbgsmFmtBf3
namespace Go.Proofs.YbulkbgsmFmt
open Go.RowKit

/-- The stream stands at octet p of the bytes L. -/
def Sp (w : World) (B Y U D cap : Nat) (L : List Int) (p : Nat) : Prop := ∃ i r v, Sm w B Y U D cap L i r v .nilIface ∧ i - (v - r) = p

theorem Sp.le {w : World} {B Y U D cap : Nat} {L : List Int} {p : Nat} (h : Sp w B Y U D cap L p) : p ≤ L.length := by
  obtain ⟨i, r, v, h, rfl⟩ := h
  have := h.iL
  omega

theorem drop_win {us L : List Int} {r a k : Nat} (m : Nat) (h : (us.drop r).take k = (L.drop a).take k) : (us.drop (r + m)).take (k - m) = (L.drop (a + m)).take (k - m) := by
  have := congrArg (List.drop m) h
  simpa [List.drop_take, List.drop_drop] using this

theorem Sm.kept {w w' : World} {B Y U D cap : Nat} {L : List Int} {i r v : Nat} {er : Value} {p : Nat → Prop} (h : Sm w B Y U D cap L i r v er) (hk : Kept p w w') (hB : ¬ p B) (hY : ¬ p Y) (hU : ¬ p U) (hD : ¬ p D) : Sm w' B Y U D cap L i r v er := by
  obtain ⟨⟨lb, lr, h1⟩, ⟨pr, h2⟩, ⟨us, h3, h4, h5⟩, ⟨rest, h6⟩, a1, a2, a3, a4, a5, a6, b1, b2, b3, b4, b5, b6⟩ := h
  exact ⟨⟨lb, lr, h1.kept hk hB⟩, ⟨pr, h2.kept hk hY⟩, ⟨us, h3, h4.kept hk hU, h5⟩, ⟨rest, h6.kept hk hD⟩, a1, a2, a3, a4, a5, a6, b1, b2, b3, b4, b5, b6⟩

theorem Sp.kept {w w' : World} {B Y U D cap : Nat} {L : List Int} {q : Nat} {p : Nat → Prop} (h : Sp w B Y U D cap L q) (hk : Kept p w w') (hB : ¬ p B) (hY : ¬ p Y) (hU : ¬ p U) (hD : ¬ p D) : Sp w' B Y U D cap L q := by
  obtain ⟨i, r, v, h, e⟩ := h
  exact ⟨i, r, v, h.kept hk hB hY hU hD, e⟩

/-- What (*bufio.Reader).Read answers. -/
def Rdone (B Y U D cap : Nat) (L : List Int) (p P off n : Nat) (qs : List Int) (te : TypeId) (pa : Value) (w : World) (e : Ending) (w' : World) : Prop :=
  Kept (fun k => k = B ∨ k = Y ∨ k = U ∨ k = P) w w' ∧
  ((p = L.length ∧ e = .returned (.tuple #[.int .i64 0, .iface te pa]) ∧ Sp w' B Y U D cap L p ∧ Row w' P 5 (by8 qs)) ∨
   (∃ m : Nat, 0 < m ∧ m ≤ n ∧ p + m ≤ L.length ∧ e = .returned (.tuple #[.int .i64 (m : Int), .nilIface]) ∧ Sp w' B Y U D cap L (p + m) ∧ Row w' P 5 (by8 (splice qs off ((L.drop p).take m)))))

theorem bf_read (B Y U D cap : Nat) (L : List Int) (p P off n c : Nat) (qs : List Int) (te : TypeId) (pa : Value) (w : World) (h : Sp w B Y U D cap L p) (hP : Row w P 5 (by8 qs)) (hfit : off + n ≤ qs.length) (hn : 0 < n) (hn2 : n ≤ 100000000)
    (nB : B ≠ P) (nY : Y ≠ P) (nU : U ≠ P) (nD : D ≠ P) (hE : w.cell? ⟨0, 0, none⟩ = some (.iface te pa)) (hB0 : B ≠ 0) :
    Calls Ybaf.prog 66 #[.pointer (some ⟨B, 0, none⟩), .slice (some ⟨P, off, none⟩) n c] w (Rdone B Y U D cap L p P off n qs te pa w) := by
  obtain ⟨i, r, v, h, rfl⟩ := h
  obtain ⟨⟨lb, lr, h1⟩, ⟨pr, h2⟩, ⟨us, h3, h4, h5⟩, ⟨rest, h6⟩, a1, a2, a3, a4, a5, a6, b1, b2, b3, b4, b5, b6⟩ := h
  have hfit8 : off + n ≤ (by8 qs).length := by rw [by8_len]; exact hfit
  by_cases hrv : r < v
  · refine (bf_read1 B U Y P off n c r v .nilIface lb lr us (by8 qs) w h1 h3 h4 hrv a2 hn hn2 hP hfit8 nB nU b2 (Nat.min (v - r) n) rfl).mono ?_
    rintro e w' ⟨rfl, ⟨lb', lr', hB'⟩, hP', hk⟩
    have m1 : Nat.min (v - r) n ≤ v - r := Nat.min_le_left _ _
    have m2 : Nat.min (v - r) n ≤ n := Nat.min_le_right _ _
    have m3 : 0 < Nat.min (v - r) n := Nat.lt_min.2 ⟨by omega, hn⟩
    generalize Nat.min (v - r) n = m at *
    refine ⟨hk.mono (fun _ _ h => h.elim .inl (fun h => .inr (.inr (.inr h)))), .inr ⟨m, m3, m2, by omega, rfl, ⟨i, r + m, v, ⟨⟨lb', lr', hB'⟩, ⟨pr, h2.kept hk (fun h => h.elim (fun h => b1 h.symm) nY)⟩, ⟨us, h3, h4.kept hk (fun h => h.elim (fun h => b2 h.symm) nU), ?_⟩, ⟨rest, h6.kept hk (fun h => h.elim (fun h => b3 h.symm) nD)⟩, by omega, a2, by omega, a4, a5, a6, b1, b2, b3, b4, b5, b6⟩, by omega⟩, ?_⟩⟩
    · have := drop_win m h5
      rw [show v - (r + m) = v - r - m by omega, show i - (v - r - m) = i - (v - r) + m by omega]
      exact this
    · rw [take_win h5 m1, by8_splice] at hP'
      exact hP'
  · have hr : r = v := by omega
    subst hr
    simp only [Nat.sub_self, Nat.sub_zero] at *
    by_cases hi : i = L.length
    · by_cases hs : n < 4096
      · refine (bf_eof B U Y D P off n c r i cap lb lr pr te pa L w h1 h2 hi hn b1 hE hB0 hs).mono ?_
        rintro e w' ⟨rfl, ⟨v', hv', lb', lr', hB'⟩, hk⟩
        refine ⟨hk.mono (fun _ _ h => .inl h), .inl ⟨hi, rfl, ⟨i, v', v', ⟨⟨lb', lr', hB'⟩, ⟨pr, h2.kept hk (fun h => b1 h.symm)⟩, ⟨us, h3, h4.kept hk (fun h => b2 h.symm), by simp⟩, ⟨rest, h6.kept hk (fun h => b3 h.symm)⟩, Nat.le_refl _, hv', by omega, a4, a5, a6, b1, b2, b3, b4, b5, b6⟩, by omega⟩, hP.kept hk (fun h => nB h.symm)⟩⟩
      · refine (bf_eof2 B U Y D P off n c r i cap lb lr pr te pa L w h1 h2 hi a2 hE (by omega)).mono ?_
        rintro e w' ⟨rfl, ⟨v', hv', lb', lr', hB'⟩, hk⟩
        refine ⟨hk.mono (fun _ _ h => .inl h), .inl ⟨hi, rfl, ⟨i, v', v', ⟨⟨lb', lr', hB'⟩, ⟨pr, h2.kept hk (fun h => b1 h.symm)⟩, ⟨us, h3, h4.kept hk (fun h => b2 h.symm), by simp⟩, ⟨rest, h6.kept hk (fun h => b3 h.symm)⟩, Nat.le_refl _, hv', by omega, a4, a5, a6, b1, b2, b3, b4, b5, b6⟩, by omega⟩, hP.kept hk (fun h => nB h.symm)⟩⟩
    · have hi' : i < L.length := by omega
      by_cases hs : n < 4096
      · refine (bf_small B U Y D P off n c r i cap lb lr pr L rest us (by8 qs) w h1 h2 h6 hi' a5 a6 h3 h4 hn hs hP hfit8 b1 b2 nB b4 nY (fun h => b5 h.symm) nU (fun h => b3 h.symm) _ rfl _ rfl).mono ?_
        rintro e w' ⟨rfl, ⟨lb', lr', hB'⟩, hY', hU', hP', hk⟩
        have ht : ((L.drop i).take 4096).length = min 4096 (L.length - i) := by simp
        have m1 : Nat.min ((L.drop i).take 4096).length n ≤ ((L.drop i).take 4096).length := Nat.min_le_left _ _
        have m2 : Nat.min ((L.drop i).take 4096).length n ≤ n := Nat.min_le_right _ _
        have m3 : 0 < Nat.min ((L.drop i).take 4096).length n := Nat.lt_min.2 ⟨by omega, hn⟩
        have hsp : splice us 0 ((L.drop i).take 4096) = (L.drop i).take 4096 ++ us.drop ((L.drop i).take 4096).length := by simp [splice]
        have hul : (splice us 0 ((L.drop i).take 4096)).length = 4096 := by rw [length_splice _ _ _ (by omega)]; exact h3
        generalize hq : ((L.drop i).take 4096).length = t at *
        generalize Nat.min t n = m at *
        refine ⟨hk, .inr ⟨m, m3, m2, by omega, rfl, ⟨i + t, m, t, ⟨⟨lb', lr', hB'⟩, ⟨-1, ?_⟩, ⟨_, hul, hU', ?_⟩, ⟨rest, h6.kept hk (fun h => h.elim (fun h => b3 h.symm) (fun h => h.elim (fun h => b5 h.symm) (fun h => h.elim (fun h => b6 h.symm) nD)))⟩, m1, by omega, by omega, by omega, a5, a6, b1, b2, b3, b4, b5, b6⟩, by omega⟩, ?_⟩⟩
        · simpa using hY'
        · rw [show i + t - (t - m) = i + m by omega]
          refine drop_win (r := 0) (a := i) (k := t) m ?_ |> fun h => by simpa using h
          rw [hsp]
          simp [← hq]
        · rw [by8_splice] at hP'
          exact hP'
      · refine (bf_big B U Y D P off n c r i cap lb lr pr L rest qs w h1 h2 h6 hi' a5 a6 (by omega) hP hfit hn2 b1 nB nY (fun h => b5 h.symm) _ rfl).mono ?_
        rintro e w' ⟨rfl, ⟨lb', lr', hB'⟩, hY', hP', hk⟩
        have ht : ((L.drop i).take n).length = min n (L.length - i) := by simp
        have htt : (L.drop i).take n = (L.drop i).take ((L.drop i).take n).length := by
          rw [ht, ← List.take_take]
          congr 1
          rw [List.take_of_length_le (by simp)]
        generalize hq : ((L.drop i).take n).length = t at *
        refine ⟨hk.mono (fun _ _ h => h.elim .inl (fun h => h.elim (fun h => .inr (.inl h)) (fun h => .inr (.inr (.inr h))))), .inr ⟨t, by omega, by omega, by omega, rfl, ⟨i + t, r, r, ⟨⟨lb', lr', hB'⟩, ⟨-1, ?_⟩, ⟨us, h3, h4.kept hk (fun h => h.elim (fun h => b2 h.symm) (fun h => h.elim (fun h => b4 h.symm) nU)), by simp⟩, ⟨rest, h6.kept hk (fun h => h.elim (fun h => b3 h.symm) (fun h => h.elim (fun h => b5 h.symm) nD))⟩, Nat.le_refl _, a2, by omega, by omega, a5, a6, b1, b2, b3, b4, b5, b6⟩, by omega⟩, ?_⟩⟩
        · simpa using hY'
        · rw [← htt]
          exact hP'
end Go.Proofs.YbulkbgsmFmt
