import Derived.Test.YbulkbgsmFmtPk
import Derived.Test.YbulkbgsmFmtNx
namespace Go.Proofs.YbulkbgsmFmt
open Go.RowKit

/-- (*bufio.Reader).Peek where the stream still holds the octets. -/
theorem peek_ok (B Y U D cap : Nat) (L : List Int) (p n : Nat) (w : World) (h : Sp w B Y U D cap L p) (hn0 : 0 < n) (hn : n ≤ 4096) (hp : p + n ≤ L.length) :
    Calls Ybaf.prog 17 #[.pointer (some ⟨B, 0, none⟩), .int .i64 (n : Int)] w fun e w' => ∃ (off c : Nat) (us : List Int), e = .returned (.tuple #[.slice (some ⟨U, off, none⟩) n c, .nilIface]) ∧ Row w' U 5 (by8 us) ∧ (us.drop off).take n = (L.drop p).take n ∧ Sp w' B Y U D cap L p ∧ Kept (fun k => k = B ∨ k = Y ∨ k = U) w w' := by
  obtain ⟨i, r, v, h, rfl⟩ := h
  obtain ⟨⟨lb, lr, h1⟩, ⟨pr, h2⟩, ⟨us, h3, h4, h5⟩, ⟨rest, h6⟩, a1, a2, a3, a4, a5, a6, b1, b2, b3, b4, b5, b6⟩ := h
  by_cases hc : r + n ≤ v
  · refine (peek_a B U Y r v n lb lr w h1 a2 hc hn0).mono ?_
    rintro e w' ⟨rfl, hB', hk⟩
    refine ⟨r, 4096 - r, us, rfl, h4.kept hk (fun h => b2 h.symm), take_win h5 (by omega), ⟨i, r, v, ⟨⟨-1, -1, hB'⟩, ⟨pr, h2.kept hk (fun h => b1 h.symm)⟩, ⟨us, h3, h4.kept hk (fun h => b2 h.symm), h5⟩, ⟨rest, h6.kept hk (fun h => b3 h.symm)⟩, a1, a2, a3, a4, a5, a6, b1, b2, b3, b4, b5, b6⟩, rfl⟩, hk.mono (fun _ _ h => .inl h)⟩
  · obtain ⟨k, hk⟩ : ∃ k : Nat, r + k = v := ⟨v - r, by omega⟩
    have hvk : v - r = k := by omega
    rw [hvk] at h5 hp ⊢
    refine (peek_b B U Y D r v k i cap n lb lr pr L rest us w h1 h2 h6 (by omega) a5 a6 h3 h4 hk a2 (by omega) hn b1 b2 b4 (fun h => b5 h.symm) (fun h => b3 h.symm) (fun h => b6 h.symm) _ rfl (by simp; omega)).mono ?_
    rintro e w' ⟨rfl, ⟨lb', lr', hB'⟩, hY', ⟨vs, hvl, hU', hvt⟩, hkk⟩
    have ht : ((L.drop i).take (4096 - k)).length = min (4096 - k) (L.length - i) := by simp
    have hvt2 : vs.take (k + ((L.drop i).take (4096 - k)).length) = (L.drop (i - k)).take (k + ((L.drop i).take (4096 - k)).length) := by
      rw [hvt, h5]
      have e1 : (L.drop i).take (4096 - k) = (L.drop i).take ((L.drop i).take (4096 - k)).length := by
        rw [ht, ← List.take_take]
        congr 1
        rw [List.take_of_length_le (by simp)]
      rw [List.take_add, List.drop_drop, show i - k + k = i by omega]
      exact congrArg (fun z => (L.drop (i - k)).take k ++ z) e1
    generalize ((L.drop i).take (4096 - k)).length = t at *
    have hD' := h6.kept hkk (fun h => h.elim (fun h => b3 h.symm) (fun h => h.elim (fun h => b5 h.symm) (fun h => b6 h.symm)))
    refine ⟨0, 4096, vs, rfl, hU', ?_, ⟨i + t, 0, k + t, ⟨⟨lb', lr', hB'⟩, ⟨-1, by simpa using hY'⟩, ⟨vs, hvl, hU', ?_⟩, ⟨rest, hD'⟩, by omega, by omega, by omega, by omega, a5, a6, b1, b2, b3, b4, b5, b6⟩, by omega⟩, hkk⟩
    · have := congrArg (List.take n) hvt2
      simpa [List.take_take, Nat.min_eq_left (show n ≤ k + t by omega)] using this
    · rw [Nat.sub_zero, show i + t - (k + t) = i - k by omega, List.drop_zero]
      exact hvt2
end Go.Proofs.YbulkbgsmFmt
