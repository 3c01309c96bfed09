import Derived.Test.YbulkbgsmFmtNw
import Derived.Test.YbulkbgsmFmtAp
namespace Go.Proofs.YbulkbgsmFmt
open Go.RowKit

/-- The pcapng reader's own room: V is what is not its own. -/
def RoomV (w : World) (V : Nat → Prop) (Q B Y U : Nat) (bv : Value) : Prop := bv = .slice none 0 0 ∨ ∃ (P cp : Nat) (qs : List Int), bv = .slice (some ⟨P, 0, none⟩) cp cp ∧ qs.length = cp ∧ Row w P 5 (by8 qs) ∧ ¬ V P ∧ P ≠ Q ∧ P ≠ B ∧ P ≠ Y ∧ P ≠ U ∧ cp ≤ 100000000

/-- A pcapng reader Q over the stream at octet p. -/
structure Cq (w : World) (V : Nat → Prop) (Q B Y U D cap : Nat) (L : List Int) (p : Nat) (ord : Value) (fr : Int) (ifs : Value) : Prop where
  row : ∃ (offs lk at' : Int) (bv : Value), Row w Q 65 (crc B true ord fr offs bv lk ifs at') ∧ RoomV w V Q B Y U bv
  sp : Sp w B Y U D cap L p
  vQ : ¬ V Q
  vB : ¬ V B
  vY : ¬ V Y
  vU : ¬ V U
  vD : V D
  v10 : ∀ k, k < 10 → V k
  vl : ∀ k, V k → k < w.heap.size
  nB : Q ≠ B
  nY : Q ≠ Y
  nU : Q ≠ U

section
variable {w w' : World} {V : Nat → Prop} {Q B Y U D cap : Nat} {L : List Int} {p p' : Nat} {ord : Value} {fr : Int} {ifs : Value}
theorem Cq.ge (h : Cq w V Q B Y U D cap L p ord fr ifs) {k : Nat} (hk : ¬ V k) : 10 ≤ k := Nat.le_of_not_lt fun h1 => hk (h.v10 k h1)
theorem Cq.lQ (h : Cq w V Q B Y U D cap L p ord fr ifs) : Q < w.heap.size := by
  obtain ⟨_, _, _, _, hq, _⟩ := h.row
  exact hq.lt

theorem Cq.turn (h : Cq w V Q B Y U D cap L p ord fr ifs) (hk : Kept (fun k => k = B ∨ k = Y ∨ k = U) w w') (hs : Sp w' B Y U D cap L p') : Cq w' V Q B Y U D cap L p' ord fr ifs := by
  obtain ⟨⟨offs, lk, at', bv, hQ, hr⟩, hsp, a1, a2, a3, a4, a5, a6, a7, a8, a9, a10⟩ := h
  refine ⟨⟨offs, lk, at', bv, hQ.kept hk (fun h => by rcases h with h | h | h; exact a8 h; exact a9 h; exact a10 h), ?_⟩, hs, a1, a2, a3, a4, a5, a6, fun k hV => Nat.lt_of_lt_of_le (a7 k hV) hk.size, a8, a9, a10⟩
  rcases hr with h | ⟨P, cp, qs, h1, h2, h3, h4, h5, h6, h7, h8, h9⟩
  · exact .inl h
  · exact .inr ⟨P, cp, qs, h1, h2, h3.kept hk (fun h => by rcases h with h | h | h; exact h6 h; exact h7 h; exact h8 h), h4, h5, h6, h7, h8, h9⟩

theorem Cq.kept (h : Cq w V Q B Y U D cap L p ord fr ifs) (hk : Kept (fun _ => False) w w') : Cq w' V Q B Y U D cap L p ord fr ifs :=
  h.turn (Kept.mono (q := fun k => k = B ∨ k = Y ∨ k = U) hk (fun _ _ h => h.elim)) (h.sp.kept hk (fun h => h) (fun h => h) (fun h => h) (fun h => h))

/-- The set of what is not the reader's own may turn, as long as its own blocks stay out. -/
theorem Cq.reV {V' : Nat → Prop} (h : Cq w V Q B Y U D cap L p ord fr ifs) (hV : ∀ k, V' k → V k ∨ (k ≠ Q ∧ k ≠ B ∧ k ≠ Y ∧ k ≠ U ∧ ∀ P cp : Nat, (∃ offs lk at' : Int, Row w Q 65 (crc B true ord fr offs (.slice (some ⟨P, 0, none⟩) cp cp) lk ifs at') ∧ ¬ V P) → k ≠ P)) (hD : V' D) (h10 : ∀ k, k < 10 → V' k) (hl : ∀ k, V' k → k < w.heap.size) : Cq w V' Q B Y U D cap L p ord fr ifs := by
  obtain ⟨⟨offs, lk, at', bv, hQ, hr⟩, hsp, a1, a2, a3, a4, a5, a6, a7, a8, a9, a10⟩ := h
  refine ⟨⟨offs, lk, at', bv, hQ, ?_⟩, hsp, fun h => (hV _ h).elim a1 (fun h => h.1 rfl), fun h => (hV _ h).elim a2 (fun h => h.2.1 rfl), fun h => (hV _ h).elim a3 (fun h => h.2.2.1 rfl), fun h => (hV _ h).elim a4 (fun h => h.2.2.2.1 rfl), hD, h10, hl, a8, a9, a10⟩
  rcases hr with h | ⟨P, cp, qs, rfl, h2, h3, h4, h5, h6, h7, h8, h9⟩
  · exact .inl h
  · exact .inr ⟨P, cp, qs, rfl, h2, h3, fun h => (hV _ h).elim h4 (fun h => h.2.2.2.2 P cp ⟨offs, lk, at', hQ, h4⟩ rfl), h5, h6, h7, h8, h9⟩

theorem RoomV.other {bv : Value} (h : RoomV w V Q B Y U bv) (j : Nat) (u : Value) : RoomV (w.setCell ⟨Q, j, none⟩ u) V Q B Y U bv := by
  rcases h with h | ⟨P, cp, qs, h1, h2, h3, h4, h5, h6⟩
  · exact .inl h
  · exact .inr ⟨P, cp, qs, h1, h2, h3.other Q j _ h5, h4, h5, h6⟩

theorem Cq.nDQ (h : Cq w V Q B Y U D cap L p ord fr ifs) : D ≠ Q := fun e => h.vQ (e ▸ h.vD)

theorem Cq.setOrd (h : Cq w V Q B Y U D cap L p ord fr ifs) (o : Value) : Cq (w.setCell ⟨Q, 2, none⟩ o) V Q B Y U D cap L p o fr ifs := by
  have hn := h.nDQ
  obtain ⟨⟨offs, lk, at', bv, hQ, hr⟩, hsp, a1, a2, a3, a4, a5, a6, a7, a8, a9, a10⟩ := h
  exact ⟨⟨offs, lk, at', bv, hQ.set 2 _, hr.other 2 _⟩, hsp.setOther Q 2 _ a8 a9 a10 hn, a1, a2, a3, a4, a5, a6, fun k hV => by simpa using a7 k hV, a8, a9, a10⟩
theorem Cq.setFr (h : Cq w V Q B Y U D cap L p ord fr ifs) (x : Int) : Cq (w.setCell ⟨Q, 3, none⟩ (.int .i64 x)) V Q B Y U D cap L p ord x ifs := by
  have hn := h.nDQ
  obtain ⟨⟨offs, lk, at', bv, hQ, hr⟩, hsp, a1, a2, a3, a4, a5, a6, a7, a8, a9, a10⟩ := h
  exact ⟨⟨offs, lk, at', bv, hQ.set 3 _, hr.other 3 _⟩, hsp.setOther Q 3 _ a8 a9 a10 hn, a1, a2, a3, a4, a5, a6, fun k hV => by simpa using a7 k hV, a8, a9, a10⟩
theorem Cq.setIfs (h : Cq w V Q B Y U D cap L p ord fr ifs) (x : Value) : Cq (w.setCell ⟨Q, 7, none⟩ x) V Q B Y U D cap L p ord fr x := by
  have hn := h.nDQ
  obtain ⟨⟨offs, lk, at', bv, hQ, hr⟩, hsp, a1, a2, a3, a4, a5, a6, a7, a8, a9, a10⟩ := h
  exact ⟨⟨offs, lk, at', bv, hQ.set 7 _, hr.other 7 _⟩, hsp.setOther Q 7 _ a8 a9 a10 hn, a1, a2, a3, a4, a5, a6, fun k hV => by simpa using a7 k hV, a8, a9, a10⟩
theorem Cq.setAt (h : Cq w V Q B Y U D cap L p ord fr ifs) (x : Int) : Cq (w.setCell ⟨Q, 8, none⟩ (.int .i64 x)) V Q B Y U D cap L p ord fr ifs := by
  have hn := h.nDQ
  obtain ⟨⟨offs, lk, at', bv, hQ, hr⟩, hsp, a1, a2, a3, a4, a5, a6, a7, a8, a9, a10⟩ := h
  exact ⟨⟨offs, lk, x, bv, hQ.set 8 _, hr.other 8 _⟩, hsp.setOther Q 8 _ a8 a9 a10 hn, a1, a2, a3, a4, a5, a6, fun k hV => by simpa using a7 k hV, a8, a9, a10⟩

/-- A block that is not the reader's own turns. -/
theorem Cq.other (h : Cq w V Q B Y U D cap L p ord fr ifs) (X j : Nat) (u : Value) (hX : V X) (hD : D ≠ X) : Cq (w.setCell ⟨X, j, none⟩ u) V Q B Y U D cap L p ord fr ifs := by
  obtain ⟨⟨offs, lk, at', bv, hQ, hr⟩, hsp, a1, a2, a3, a4, a5, a6, a7, a8, a9, a10⟩ := h
  refine ⟨⟨offs, lk, at', bv, hQ.other X j u (fun e => a1 (e ▸ hX)), ?_⟩, hsp.setOther X j _ (fun e => a2 (e ▸ hX)) (fun e => a3 (e ▸ hX)) (fun e => a4 (e ▸ hX)) hD, a1, a2, a3, a4, a5, a6, fun k hV => by simpa using a7 k hV, a8, a9, a10⟩
  rcases hr with h | ⟨P, cp, qs, h1, h2, h3, h4, h5, h6⟩
  · exact .inl h
  · exact .inr ⟨P, cp, qs, h1, h2, h3.other X j _ (fun e => h4 (e ▸ hX)), h4, h5, h6⟩
end

theorem ra_cq {V : Nat → Prop} {Q B Y U D cap : Nat} {L : List Int} {p n : Nat} {ord : Value} {fr lk at' : Int} {ifs : Value} {ae au : Addr} {P cp : Nat} {qs : List Int} {x y : Value} {w w' : World} (h : Ra Q B Y U D cap L p n true ord fr lk at' ifs ae au P cp qs x y w w') (hC : Cq w V Q B Y U D cap L p ord fr ifs) (hql : qs.length = cp) (hn : n ≤ cp) (hcp : cp ≤ 100000000) (hp : p + n ≤ L.length)
    (vP : ¬ V P) (nPQ : P ≠ Q) (nPB : P ≠ B) (nPY : P ≠ Y) (nPU : P ≠ U) :
    x = .slice (some ⟨P, 0, none⟩) n cp ∧ y = .nilIface ∧ Kept (fun k => ¬ V k) w w' ∧ ∃ qs' : List Int, qs'.length = cp ∧ Row w' P 5 (by8 qs') ∧ qs'.take n = (L.drop p).take n ∧ Cq w' V Q B Y U D cap L (p + n) ord fr ifs := by
  obtain ⟨⟨offs', hQ⟩, hk, hc⟩ := h
  obtain ⟨_, _, a1, a2, a3, a4, a5, a6, a7, a8, a9, a10⟩ := hC
  have hk' : Kept (fun k => ¬ V k) w w' := Kept.mono (q := fun k => ¬ V k) hk (fun k _ h => by rcases h with rfl | rfl | rfl | rfl | rfl <;> assumption)
  rcases hc with ⟨h1, rfl, rfl, h4, h5⟩ | ⟨h1, _⟩
  · have hl : ((L.drop p).take n).length = n := by simp; omega
    have hs : (splice qs 0 ((L.drop p).take n)).length = cp := by rw [length_splice _ _ _ (by omega)]; exact hql
    exact ⟨rfl, rfl, hk', _, hs, h5, splice_take0 hl, ⟨⟨offs', lk, at', _, hQ, .inr ⟨P, cp, _, rfl, hs, h5, vP, nPQ, nPB, nPY, nPU, hcp⟩⟩, h4, a1, a2, a3, a4, a5, a6, fun k hV => Nat.lt_of_lt_of_le (a7 k hV) hk.size, a8, a9, a10⟩⟩
  · omega

/-- What read answers where the octets are there. -/
def Rq (V : Nat → Prop) (Q B Y U D cap : Nat) (L : List Int) (p n : Nat) (ord : Value) (fr : Int) (ifs : Value) (w : World) (e : Ending) (w' : World) : Prop :=
  ∃ (P cp : Nat) (qs : List Int), e = .returned (.tuple #[.slice (some ⟨P, 0, none⟩) n cp, .nilIface]) ∧ n ≤ cp ∧ Kept (fun k => ¬ V k) w w' ∧ qs.length = cp ∧ Row w' P 5 (by8 qs) ∧ qs.take n = (L.drop p).take n ∧ ¬ V P ∧ P ≠ Q ∧ Cq w' V Q B Y U D cap L (p + n) ord fr ifs

/-- (*Reader).read. -/
theorem rq_ok (V : Nat → Prop) (Q B Y U D cap : Nat) (L : List Int) (p n : Nat) (ord : Value) (fr : Int) (ifs : Value) (ae au : Addr) (w : World) (h : Cq w V Q B Y U D cap L p ord fr ifs) (hn : n ≤ 100000000) (hn0 : 0 < n) (hp : p + n ≤ L.length)
    (hE : w.cell? ⟨0, 0, none⟩ = some (.iface 96 (.pointer (some ae)))) (hX : w.cell? ⟨8, 0, none⟩ = some (.iface 96 (.pointer (some au)))) :
    Calls Ybaf.prog 31 #[.pointer (some ⟨Q, 0, none⟩), .int .i64 (n : Int)] w (Rq V Q B Y U D cap L p n ord fr ifs w) := by
  have hC := h
  obtain ⟨⟨offs, lk, at', bv, hQ, hroom'⟩, hsp, a1, a2, a3, a4, a5, a6, a7, a8, a9, a10⟩ := h
  have lts : B < w.heap.size ∧ Y < w.heap.size ∧ U < w.heap.size ∧ D < w.heap.size := by
    obtain ⟨i, r, v, hs, _⟩ := hsp
    obtain ⟨⟨_, _, h1⟩, ⟨_, h2⟩, ⟨_, _, h3, _⟩, ⟨_, h4⟩, _⟩ := hs
    exact ⟨h1.lt, h2.lt, h3.lt, h4.lt⟩
  have hQl := hQ.lt
  have hDQ := hC.nDQ
  have vN : ¬ V w.heap.size := fun h => Nat.lt_irrefl _ (a7 _ h)
  have mk : ∀ (a0 : Option Addr) (c0 : Nat), bv = .slice a0 c0 c0 → c0 < n → Calls Ybaf.prog 31 #[.pointer (some ⟨Q, 0, none⟩), .int .i64 (n : Int)] w (Rq V Q B Y U D cap L p n ord fr ifs w) := by
    intro a0 c0 hbv hc
    subst hbv
    refine (read_b Q B Y U D cap L p n true ord fr lk offs at' ifs ae au a0 c0 w hQ hc hn hsp a8 a9 a10 hDQ lts.1 lts.2.1 lts.2.2.1 lts.2.2.2 hE hX (hC.ge a2) (hC.ge a3) (hC.ge a4) (hC.ge a1)).mono ?_
    rintro e w' ⟨x, y, rfl, hR⟩
    obtain ⟨rfl, rfl, h1, qs', h2, h3, h4, h5⟩ := ra_cq hR hC (by simp) (Nat.le_refl _) hn hp vN (by omega) (by omega) (by omega) (by omega)
    exact ⟨_, _, qs', rfl, Nat.le_refl _, h1, h2, h3, h4, vN, by omega, h5⟩
  rcases hroom' with rfl | ⟨P, cp, qs, rfl, hql, hP, vP, nPQ, nPB, nPY, nPU, hcp⟩
  · exact mk none 0 rfl hn0
  · by_cases hc : cp < n
    · exact mk (some ⟨P, 0, none⟩) cp rfl hc
    · refine (read_a Q B Y U D cap L p n true ord fr lk offs at' ifs ae au P cp qs w hQ hql hP (by omega) hcp hsp a8 a9 a10 (fun h => nPQ h.symm) (fun h => nPB h.symm) (fun h => nPY h.symm) (fun h => nPU h.symm) (fun h => vP (h ▸ a5)) hDQ hE hX (hC.ge a2) (hC.ge a3) (hC.ge a4) (hC.ge vP)).mono ?_
      rintro e w' ⟨x, y, rfl, hR⟩
      obtain ⟨rfl, rfl, h1, qs', h2, h3, h4, h5⟩ := ra_cq hR hC hql (by omega) hcp hp vP nPQ nPB nPY nPU
      exact ⟨_, _, qs', rfl, by omega, h1, h2, h3, h4, vP, nPQ, h5⟩

/-- (*bufio.Reader).Peek where the stream still holds the octets; the room behind them told. -/
theorem peek_ok2 (B Y U D cap : Nat) (L : List Int) (p n : Nat) (w : World) (h : Sp w B Y U D cap L p) (hn0 : 0 < n) (hn : n ≤ 4096) (hp : p + n ≤ L.length) :
    Calls Ybaf.prog 17 #[.pointer (some ⟨B, 0, none⟩), .int .i64 (n : Int)] w fun e w' => ∃ (off c : Nat) (us : List Int), e = .returned (.tuple #[.slice (some ⟨U, off, none⟩) n c, .nilIface]) ∧ n ≤ c ∧ Row w' U 5 (by8 us) ∧ (us.drop off).take n = (L.drop p).take n ∧ Sp w' B Y U D cap L p ∧ Kept (fun k => k = B ∨ k = Y ∨ k = U) w w' := by
  obtain ⟨i, r, v, h, rfl⟩ := h
  obtain ⟨⟨lb, lr, h1⟩, ⟨pr, h2⟩, ⟨us, h3, h4, h5⟩, ⟨rest, h6⟩, a1, a2, a3, a4, a5, a6, b1, b2, b3, b4, b5, b6⟩ := h
  by_cases hc : r + n ≤ v
  · refine (peek_a B U Y r v n lb lr w h1 a2 hc hn0).mono ?_
    rintro e w' ⟨rfl, hB', hk⟩
    refine ⟨r, 4096 - r, us, rfl, by omega, h4.kept hk (fun h => b2 h.symm), take_win h5 (by omega), ⟨i, r, v, ⟨⟨-1, -1, hB'⟩, ⟨pr, h2.kept hk (fun h => b1 h.symm)⟩, ⟨us, h3, h4.kept hk (fun h => b2 h.symm), h5⟩, ⟨rest, h6.kept hk (fun h => b3 h.symm)⟩, a1, a2, a3, a4, a5, a6, b1, b2, b3, b4, b5, b6⟩, rfl⟩, hk.mono (fun _ _ h => .inl h)⟩
  · obtain ⟨k, hk⟩ : ∃ k : Nat, r + k = v := ⟨v - r, by omega⟩
    have hvk : v - r = k := by omega
    rw [hvk] at h5 hp ⊢
    refine (peek_b B U Y D r v k i cap n lb lr pr L rest us w h1 h2 h6 (by omega) a5 a6 h3 h4 hk a2 (by omega) hn b1 b2 b4 (fun h => b5 h.symm) (fun h => b3 h.symm) (fun h => b6 h.symm) _ rfl (by simp; omega)).mono ?_
    rintro e w' ⟨rfl, ⟨lb', lr', hB'⟩, hY', ⟨vs, hvl, hU', hvt⟩, hkk⟩
    have ht : ((L.drop i).take (4096 - k)).length = min (4096 - k) (L.length - i) := by simp
    have hvt2 : vs.take (k + ((L.drop i).take (4096 - k)).length) = (L.drop (i - k)).take (k + ((L.drop i).take (4096 - k)).length) := by
      rw [hvt, h5]
      have e1 : (L.drop i).take (4096 - k) = (L.drop i).take ((L.drop i).take (4096 - k)).length := by
        rw [ht, ← List.take_take]
        congr 1
        rw [List.take_of_length_le (by simp)]
      rw [List.take_add, List.drop_drop, show i - k + k = i by omega]
      exact congrArg (fun z => (L.drop (i - k)).take k ++ z) e1
    generalize ((L.drop i).take (4096 - k)).length = t at *
    have hD' := h6.kept hkk (fun h => h.elim (fun h => b3 h.symm) (fun h => h.elim (fun h => b5 h.symm) (fun h => b6 h.symm)))
    refine ⟨0, 4096, vs, rfl, by omega, hU', ?_, ⟨i + t, 0, k + t, ⟨⟨lb', lr', hB'⟩, ⟨-1, by simpa using hY'⟩, ⟨vs, hvl, hU', ?_⟩, ⟨rest, hD'⟩, by omega, by omega, by omega, by omega, a5, a6, b1, b2, b3, b4, b5, b6⟩, by omega⟩, hkk⟩
    · have := congrArg (List.take n) hvt2
      simpa [List.take_take, Nat.min_eq_left (show n ≤ k + t by omega)] using this
    · rw [Nat.sub_zero, show i + t - (k + t) = i - k by omega, List.drop_zero]
      exact hvt2
end Go.Proofs.YbulkbgsmFmt
