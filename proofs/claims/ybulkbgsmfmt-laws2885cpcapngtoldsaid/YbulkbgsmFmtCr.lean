import Derived.Test.YbulkbgsmFmtRf
import Derived.Test.YbulkbgsmFmtNb
import Derived.Deep.OwnRows
namespace Go.Proofs.YbulkbgsmFmt
open Go.RowKit

/-- The capture reader's cells. -/
def crc (B : Nat) (pn : Bool) (ord : Value) (fr offs : Int) (bv : Value) (lk : Int) (ifs : Value) (at' : Int) : List Value := [.pointer (some ⟨B, 0, none⟩), .bool pn, ord, .int .i64 fr, .int .i64 offs, bv, .int .i64 lk, ifs, .int .i64 at']

/-- The capture reader's own room. -/
def Room (w : World) (M X Q B Y U : Nat) (bv : Value) : Prop := bv = .slice none 0 0 ∨ ∃ (P cp : Nat) (qs : List Int), bv = .slice (some ⟨P, 0, none⟩) cp cp ∧ qs.length = cp ∧ Row w P 5 (by8 qs) ∧ M ≤ P ∧ P ≠ Q ∧ P ≠ B ∧ P ≠ Y ∧ P ≠ U ∧ cp ≤ 100000000 ∧ P ≠ X

/-- A capture reader Q over the stream at octet p; blocks from M on are its own. -/
structure Cr (w : World) (M X Q B Y U D cap : Nat) (L : List Int) (p : Nat) (pn : Bool) (ord : Value) (fr : Int) (lk : Int) (ifs : Value) : Prop where
  row : ∃ (offs at' : Int) (bv : Value), Row w Q 65 (crc B pn ord fr offs bv lk ifs at') ∧ Room w M X Q B Y U bv
  sp : Sp w B Y U D cap L p
  mQ : M ≤ Q
  mB : M ≤ B
  mY : M ≤ Y
  mU : M ≤ U
  mD : D < M
  m10 : 10 ≤ M
  nB : Q ≠ B
  nY : Q ≠ Y
  nU : Q ≠ U
  xQ : Q ≠ X
  xB : B ≠ X
  xY : Y ≠ X
  xU : U ≠ X
  xl : X < w.heap.size

/-- The blocks from M on, but X. -/
abbrev Kp (M X : Nat) : Nat → Prop := fun k => M ≤ k ∧ k ≠ X

/-- What read answers. -/
def Rn (M X Q B Y U D cap : Nat) (L : List Int) (p n : Nat) (pn : Bool) (ord : Value) (fr : Int) (lk : Int) (ifs : Value) (ae au : Addr) (x y : Value) (w w' : World) : Prop :=
  Kept (Kp M X) w w' ∧
  ((p + n ≤ L.length ∧ y = .nilIface ∧ (∃ (P cp : Nat) (qs : List Int), x = .slice (some ⟨P, 0, none⟩) n cp ∧ n ≤ cp ∧ qs.length = cp ∧ Row w' P 5 (by8 qs) ∧ qs.take n = (L.drop p).take n ∧ M ≤ P ∧ P ≠ Q ∧ P ≠ X ∧ ∃ offs at' : Int, Row w' Q 65 (crc B pn ord fr offs (.slice (some ⟨P, 0, none⟩) cp cp) lk ifs at')) ∧ Cr w' M X Q B Y U D cap L (p + n) pn ord fr lk ifs) ∨
   (L.length < p + n ∧ x = .slice none 0 0 ∧ y = (if p = L.length then .iface 96 (.pointer (some ae)) else .iface 96 (.pointer (some au))) ∧ Cr w' M X Q B Y U D cap L L.length pn ord fr lk ifs))

theorem splice_take0 {qs xs : List Int} {n : Nat} (h : xs.length = n) : (splice qs 0 xs).take n = xs := by
  simp [splice, ← h]

theorem Sp.setOther {w : World} {B Y U D cap : Nat} {L : List Int} {q : Nat} (h : Sp w B Y U D cap L q) (Q j : Nat) (u : Value) (nQB : Q ≠ B) (nQY : Q ≠ Y) (nQU : Q ≠ U) (nDQ : D ≠ Q) : Sp (w.setCell ⟨Q, j, none⟩ u) B Y U D cap L q :=
  h.kept (p := fun k => k = Q) ((Kept.refl (fun k => k = Q) w).setCell (g := Q) (j := j) (fun _ => rfl) u) (fun h => nQB h.symm) (fun h => nQY h.symm) (fun h => nQU h.symm) nDQ
theorem Sp.alloc {w : World} {B Y U D cap : Nat} {L : List Int} {q : Nat} (h : Sp w B Y U D cap L q) (o : Obj) : Sp (w.alloc o) B Y U D cap L q :=
  h.kept (p := fun _ => False) ((Kept.refl (fun _ => False) w).alloc o) (fun h => h) (fun h => h) (fun h => h) (fun h => h)

/-- What read answers over the room P. -/
def Ra (Q B Y U D cap : Nat) (L : List Int) (p n : Nat) (pn : Bool) (ord : Value) (fr lk at' : Int) (ifs : Value) (ae au : Addr) (P cp : Nat) (qs : List Int) (x y : Value) (w w' : World) : Prop :=
  (∃ offs' : Int, Row w' Q 65 (crc B pn ord fr offs' (.slice (some ⟨P, 0, none⟩) cp cp) lk ifs at')) ∧ Kept (fun k => k = Q ∨ k = B ∨ k = Y ∨ k = U ∨ k = P) w w' ∧
      ((p + n ≤ L.length ∧ y = .nilIface ∧ x = .slice (some ⟨P, 0, none⟩) n cp ∧ Sp w' B Y U D cap L (p + n) ∧ Row w' P 5 (by8 (splice qs 0 ((L.drop p).take n)))) ∨
       (L.length < p + n ∧ x = .slice none 0 0 ∧ y = (if p = L.length then .iface 96 (.pointer (some ae)) else .iface 96 (.pointer (some au))) ∧ Sp w' B Y U D cap L L.length ∧ ∃ qs' : List Int, qs'.length = cp ∧ Row w' P 5 (by8 qs')))

set_option maxHeartbeats 1000000 in
set_option maxRecDepth 100000 in
/-- (*Reader).read where the room is great enough. -/
theorem read_a (Q B Y U D cap : Nat) (L : List Int) (p n : Nat) (pn : Bool) (ord : Value) (fr lk offs at' : Int) (ifs : Value) (ae au : Addr) (P cp : Nat) (qs : List Int) (w : World)
    (hQ : Row w Q 65 (crc B pn ord fr offs (.slice (some ⟨P, 0, none⟩) cp cp) lk ifs at')) (hql : qs.length = cp) (hP : Row w P 5 (by8 qs)) (hn : n ≤ cp) (hcp : cp ≤ 100000000) (h : Sp w B Y U D cap L p)
    (nQB : Q ≠ B) (nQY : Q ≠ Y) (nQU : Q ≠ U) (nQP : Q ≠ P) (nB : B ≠ P) (nY : Y ≠ P) (nU : U ≠ P) (nD : D ≠ P) (nDQ : D ≠ Q) (hE : w.cell? ⟨0, 0, none⟩ = some (.iface 96 (.pointer (some ae)))) (hX : w.cell? ⟨8, 0, none⟩ = some (.iface 96 (.pointer (some au)))) (hB0 : 10 ≤ B) (hY0 : 10 ≤ Y) (hU0 : 10 ≤ U) (hP0 : 10 ≤ P) :
    Calls Ybaf.prog 31 #[.pointer (some ⟨Q, 0, none⟩), .int .i64 (n : Int)] w fun e w' => ∃ x y : Value, e = .returned (.tuple #[x, y]) ∧ Ra Q B Y U D cap L p n pn ord fr lk at' ifs ae au P cp qs x y w w' := by
  have HC : Hid _ := rf_walk B Y U D cap L p P 0 n cp qs ae au w h hP (by omega) hn (by omega) nB nY nU nD hE hX hB0 hY0 hU0 hP0
  clear h hP hE hX
  go_enter Ybaf.func31, Ybaf.ntmps31
  have c0 : w.cell? ⟨Q, 0, none⟩ = some (.pointer (some ⟨B, 0, none⟩)) := hQ.cell 0
  have c5 : w.cell? ⟨Q, 5, none⟩ = some (.slice (some ⟨P, 0, none⟩) cp cp) := hQ.cell 5
  have hn1 : ¬ (cp : Int) < (n : Int) := by omega
  have hn2 : (n : Int) ≤ (cp : Int) := by omega
  have hn3 : (0 : Int) ≤ (n : Int) := by omega
  go_wp2_with fail
  refine Calls.mono HC.out ?_
  rintro _ w2 ⟨x, y, rfl, hk, hc⟩
  have hQ2 := hQ.kept hk (fun h => by rcases h with h | h | h | h; exact nQB h; exact nQY h; exact nQU h; exact nQP h)
  have hk5 : Kept (fun k => k = Q ∨ k = B ∨ k = Y ∨ k = U ∨ k = P) w w2 := hk.mono (fun _ _ h => .inr h)
  clear hQ c0 c5 hk
  have c4 : w2.cell? ⟨Q, 4, none⟩ = some (.int .i64 offs) := hQ2.cell 4
  have f4 := hQ2.frozen 4
  rcases hc with ⟨h1, rfl, rfl, h4, h5⟩ | ⟨h1, rfl, rfl, h4, qs', h5, h6⟩
  · have HH : Hid (p + n ≤ L.length ∧ Sp w2 B Y U D cap L (p + n) ∧ Row w2 P 5 (by8 (splice qs 0 ((L.drop p).take n)))) := ⟨h1, h4, h5⟩
    clear h1 h4 h5
    go_wp2_with fail
    go_ret2
    refine ⟨.slice (some ⟨P, 0, none⟩) n cp, .nilIface, rfl, ?_⟩
    unfold Ra
    refine ⟨⟨_, hQ2.set 4 _⟩, hk5.setCell (g := Q) (j := 4) (fun _ => .inl rfl) _, .inl ⟨HH.out.1, rfl, rfl, ?_, HH.out.2.2.other Q 4 _ (fun h => nQP h.symm)⟩⟩
    exact HH.out.2.1.setOther Q 4 _ nQB nQY nQU nDQ
  · have HH : Hid (L.length < p + n ∧ Sp w2 B Y U D cap L L.length ∧ qs'.length = cp ∧ Row w2 P 5 (by8 qs')) := ⟨h1, h4, h5.trans hql, h6⟩
    clear h1 h4 h5 h6
    have hfin : ∀ y, Row (w2.setCell ⟨Q, 4, none⟩ y) P 5 (by8 qs') ∧ Sp (w2.setCell ⟨Q, 4, none⟩ y) B Y U D cap L L.length := fun y => ⟨HH.out.2.2.2.other Q 4 _ (fun h => nQP h.symm), HH.out.2.1.setOther Q 4 _ nQB nQY nQU nDQ⟩
    have HF : Hid _ := hfin
    clear hfin
    by_cases hp : p = L.length
    · rw [if_pos hp]
      have HP : Hid (p = L.length) := hp
      clear hp
      go_wp2_with fail
      go_ret2
      refine ⟨.slice none 0 0, .iface 96 (.pointer (some ae)), rfl, ?_⟩
      unfold Ra
      exact ⟨⟨_, hQ2.set 4 _⟩, hk5.setCell (g := Q) (j := 4) (fun _ => .inl rfl) _, .inr ⟨HH.out.1, rfl, by rw [if_pos HP.out], (HF.out _).2, qs', HH.out.2.2.1, (HF.out _).1⟩⟩
    · rw [if_neg hp]
      have HP : Hid (¬ p = L.length) := hp
      clear hp
      go_wp2_with fail
      go_ret2
      refine ⟨.slice none 0 0, .iface 96 (.pointer (some au)), rfl, ?_⟩
      unfold Ra
      exact ⟨⟨_, hQ2.set 4 _⟩, hk5.setCell (g := Q) (j := 4) (fun _ => .inl rfl) _, .inr ⟨HH.out.1, rfl, by rw [if_neg HP.out], (HF.out _).2, qs', HH.out.2.2.1, (HF.out _).1⟩⟩

set_option maxHeartbeats 1000000 in
set_option maxRecDepth 100000 in
/-- (*Reader).read where room is made. -/
theorem read_b (Q B Y U D cap : Nat) (L : List Int) (p n : Nat) (pn : Bool) (ord : Value) (fr lk offs at' : Int) (ifs : Value) (ae au : Addr) (a0 : Option Addr) (c0 : Nat) (w : World)
    (hQ : Row w Q 65 (crc B pn ord fr offs (.slice a0 c0 c0) lk ifs at')) (hn : c0 < n) (hcp : n ≤ 100000000) (h : Sp w B Y U D cap L p)
    (nQB : Q ≠ B) (nQY : Q ≠ Y) (nQU : Q ≠ U) (nDQ : D ≠ Q) (hBl : B < w.heap.size) (hYl : Y < w.heap.size) (hUl : U < w.heap.size) (hDl : D < w.heap.size) (hE : w.cell? ⟨0, 0, none⟩ = some (.iface 96 (.pointer (some ae)))) (hX : w.cell? ⟨8, 0, none⟩ = some (.iface 96 (.pointer (some au)))) (hB0 : 10 ≤ B) (hY0 : 10 ≤ Y) (hU0 : 10 ≤ U) (hQ0 : 10 ≤ Q) :
    Calls Ybaf.prog 31 #[.pointer (some ⟨Q, 0, none⟩), .int .i64 (n : Int)] w fun e w' => ∃ x y : Value, e = .returned (.tuple #[x, y]) ∧ Ra Q B Y U D cap L p n pn ord fr lk at' ifs ae au w.heap.size n (List.replicate n 0) x y w w' := by
  have hmk := fun W : World => run_make_row' (P := Ybaf.prog) 24 5 (.int .u8 0) 1 Ybaf.underlying24 (by kernel_rfl) rfl .i64 .i64 n (by omega) (by omega) W
  have hQl := hQ.lt
  have nQP : Q ≠ w.heap.size := by omega
  have hMd : Row ((w.setCell ⟨Q, 5, none⟩ (.slice (some ⟨w.heap.size, 0, none⟩) n n)).alloc (.cells (madeCells #[.int .u8 0] n) 5)) w.heap.size 5 (by8 (List.replicate n 0)) := by
    have h1 := row_made8 (w.setCell ⟨Q, 5, none⟩ (.slice (some ⟨w.heap.size, 0, none⟩) n n)) n
    rw [show (w.setCell ⟨Q, 5, none⟩ (.slice (some ⟨w.heap.size, 0, none⟩) n n)).heap.size = w.heap.size by simp] at h1
    exact h1
  have hk1 : Kept (fun k => k = Q ∨ k = B ∨ k = Y ∨ k = U ∨ k = w.heap.size) w ((w.setCell ⟨Q, 5, none⟩ (.slice (some ⟨w.heap.size, 0, none⟩) n n)).alloc (.cells (madeCells #[.int .u8 0] n) 5)) := ((Kept.refl _ w).setCell (g := Q) (j := 5) (fun _ => .inl rfl) _).alloc _
  have HC : Hid _ := rf_walk B Y U D cap L p w.heap.size 0 n n (List.replicate n 0) ae au ((w.setCell ⟨Q, 5, none⟩ (.slice (some ⟨w.heap.size, 0, none⟩) n n)).alloc (.cells (madeCells #[.int .u8 0] n) 5)) ((h.setOther Q 5 _ nQB nQY nQU nDQ).alloc _) hMd (by simp) (Nat.le_refl _) (by omega) (by omega) (by omega) (by omega) (by omega) (hk1.cell hE (by omega)) (hk1.cell hX (by omega)) hB0 hY0 hU0 (by omega)
  have hQ1 : Row ((w.setCell ⟨Q, 5, none⟩ (.slice (some ⟨w.heap.size, 0, none⟩) n n)).alloc (.cells (madeCells #[.int .u8 0] n) 5)) Q 65 (crc B pn ord fr offs (.slice (some ⟨w.heap.size, 0, none⟩) n n) lk ifs at') := (hQ.set 5 _).alloc _
  have HQ : Hid (Row ((w.setCell ⟨Q, 5, none⟩ (.slice (some ⟨w.heap.size, 0, none⟩) n n)).alloc (.cells (madeCells #[.int .u8 0] n) 5)) Q 65 (crc B pn ord fr offs (.slice (some ⟨w.heap.size, 0, none⟩) n n) lk ifs at')) := hQ1
  have HK : Hid (Kept (fun k => k = Q ∨ k = B ∨ k = Y ∨ k = U ∨ k = w.heap.size) w ((w.setCell ⟨Q, 5, none⟩ (.slice (some ⟨w.heap.size, 0, none⟩) n n)).alloc (.cells (madeCells #[.int .u8 0] n) 5))) := hk1
  clear h hE hX hMd hk1 hQ1
  go_enter Ybaf.func31, Ybaf.ntmps31
  have c0' : w.cell? ⟨Q, 0, none⟩ = some (.pointer (some ⟨B, 0, none⟩)) := hQ.cell 0
  have c5 : w.cell? ⟨Q, 5, none⟩ = some (.slice a0 c0 c0) := hQ.cell 5
  have f5 := hQ.frozen 5
  have hn1 : (c0 : Int) < (n : Int) := by omega
  have hn3 : (0 : Int) ≤ (n : Int) := by omega
  go_wp2_with fail
  refine Calls.mono HC.out ?_
  rintro _ w2 ⟨x, y, rfl, hk, hc⟩
  have hQ2 := HQ.out.kept hk (fun h => by rcases h with h | h | h | h; exact nQB h; exact nQY h; exact nQU h; exact nQP h)
  have hk5 : Kept (fun k => k = Q ∨ k = B ∨ k = Y ∨ k = U ∨ k = w.heap.size) w w2 := HK.out.trans (hk.mono (fun _ _ h => .inr h))
  clear hQ c0' c5 f5 hk hmk HQ HK
  have c4 : w2.cell? ⟨Q, 4, none⟩ = some (.int .i64 offs) := hQ2.cell 4
  have f4 := hQ2.frozen 4
  rcases hc with ⟨h1, rfl, rfl, h4, h5⟩ | ⟨h1, rfl, rfl, h4, qs', h5, h6⟩
  · have HH : Hid (p + n ≤ L.length ∧ Sp w2 B Y U D cap L (p + n) ∧ Row w2 w.heap.size 5 (by8 (splice (List.replicate n 0) 0 ((L.drop p).take n)))) := ⟨h1, h4, h5⟩
    clear h1 h4 h5
    go_wp2_with fail
    go_ret2
    refine ⟨.slice (some ⟨w.heap.size, 0, none⟩) n n, .nilIface, rfl, ?_⟩
    unfold Ra
    refine ⟨⟨_, hQ2.set 4 _⟩, hk5.setCell (g := Q) (j := 4) (fun _ => .inl rfl) _, .inl ⟨HH.out.1, rfl, rfl, ?_, HH.out.2.2.other Q 4 _ (fun h => nQP h.symm)⟩⟩
    exact HH.out.2.1.setOther Q 4 _ nQB nQY nQU nDQ
  · have HH : Hid (L.length < p + n ∧ Sp w2 B Y U D cap L L.length ∧ qs'.length = n ∧ Row w2 w.heap.size 5 (by8 qs')) := ⟨h1, h4, h5.trans (by simp), h6⟩
    clear h1 h4 h5 h6
    have hfin : ∀ y, Row (w2.setCell ⟨Q, 4, none⟩ y) w.heap.size 5 (by8 qs') ∧ Sp (w2.setCell ⟨Q, 4, none⟩ y) B Y U D cap L L.length := fun y => ⟨HH.out.2.2.2.other Q 4 _ (fun h => nQP h.symm), HH.out.2.1.setOther Q 4 _ nQB nQY nQU nDQ⟩
    have HF : Hid _ := hfin
    clear hfin
    by_cases hp : p = L.length
    · rw [if_pos hp]
      have HP : Hid (p = L.length) := hp
      clear hp
      go_wp2_with fail
      go_ret2
      refine ⟨.slice none 0 0, .iface 96 (.pointer (some ae)), rfl, ?_⟩
      unfold Ra
      exact ⟨⟨_, hQ2.set 4 _⟩, hk5.setCell (g := Q) (j := 4) (fun _ => .inl rfl) _, .inr ⟨HH.out.1, rfl, by rw [if_pos HP.out], (HF.out _).2, qs', HH.out.2.2.1, (HF.out _).1⟩⟩
    · rw [if_neg hp]
      have HP : Hid (¬ p = L.length) := hp
      clear hp
      go_wp2_with fail
      go_ret2
      refine ⟨.slice none 0 0, .iface 96 (.pointer (some au)), rfl, ?_⟩
      unfold Ra
      exact ⟨⟨_, hQ2.set 4 _⟩, hk5.setCell (g := Q) (j := 4) (fun _ => .inl rfl) _, .inr ⟨HH.out.1, rfl, by rw [if_neg HP.out], (HF.out _).2, qs', HH.out.2.2.1, (HF.out _).1⟩⟩

theorem ra_rn {M X Q B Y U D cap : Nat} {L : List Int} {p n : Nat} {pn : Bool} {ord : Value} {fr lk at' : Int} {ifs : Value} {ae au : Addr} {P cp : Nat} {qs : List Int} {x y : Value} {w w' : World} (h : Ra Q B Y U D cap L p n pn ord fr lk at' ifs ae au P cp qs x y w w') (hql : qs.length = cp) (hn : n ≤ cp) (hcp : cp ≤ 100000000)
    (mQ : M ≤ Q) (mB : M ≤ B) (mY : M ≤ Y) (mU : M ≤ U) (mP : M ≤ P) (mD : D < M) (m10 : 10 ≤ M) (nB : Q ≠ B) (nY : Q ≠ Y) (nU : Q ≠ U) (nPQ : P ≠ Q) (nPB : P ≠ B) (nPY : P ≠ Y) (nPU : P ≠ U) (xQ : Q ≠ X) (xB : B ≠ X) (xY : Y ≠ X) (xU : U ≠ X) (xP : P ≠ X) (xl : X < w.heap.size) :
    Rn M X Q B Y U D cap L p n pn ord fr lk ifs ae au x y w w' := by
  obtain ⟨⟨offs', hQ⟩, hk, hc⟩ := h
  have hk' : Kept (Kp M X) w w' := hk.mono (fun k _ h => by rcases h with h | h | h | h | h <;> exact ⟨by omega, by omega⟩)
  have xl' : X < w'.heap.size := Nat.lt_of_lt_of_le xl hk.size
  refine ⟨hk', ?_⟩
  rcases hc with ⟨h1, rfl, rfl, h4, h5⟩ | ⟨h1, rfl, rfl, h4, qs', h5, h6⟩
  · have hl : ((L.drop p).take n).length = n := by simp; omega
    have hs : (splice qs 0 ((L.drop p).take n)).length = cp := by rw [length_splice _ _ _ (by omega)]; exact hql
    exact .inl ⟨h1, rfl, ⟨P, cp, _, rfl, hn, hs, h5, splice_take0 hl, mP, nPQ, xP, offs', at', hQ⟩, ⟨⟨offs', at', _, hQ, .inr ⟨P, cp, _, rfl, hs, h5, mP, nPQ, nPB, nPY, nPU, hcp, xP⟩⟩, h4, mQ, mB, mY, mU, mD, m10, nB, nY, nU, xQ, xB, xY, xU, xl'⟩⟩
  · exact .inr ⟨h1, rfl, rfl, ⟨⟨offs', at', _, hQ, .inr ⟨P, cp, qs', rfl, h5, h6, mP, nPQ, nPB, nPY, nPU, hcp, xP⟩⟩, h4, mQ, mB, mY, mU, mD, m10, nB, nY, nU, xQ, xB, xY, xU, xl'⟩⟩

/-- (*Reader).read. -/
theorem read_walk (M X Q B Y U D cap : Nat) (L : List Int) (p n : Nat) (pn : Bool) (ord : Value) (fr lk : Int) (ifs : Value) (ae au : Addr) (w : World) (h : Cr w M X Q B Y U D cap L p pn ord fr lk ifs) (hn : n ≤ 100000000)
    (hroom : n = 0 → ∃ (offs at' : Int) (P cp : Nat), Row w Q 65 (crc B pn ord fr offs (.slice (some ⟨P, 0, none⟩) cp cp) lk ifs at'))
    (hE : w.cell? ⟨0, 0, none⟩ = some (.iface 96 (.pointer (some ae)))) (hX : w.cell? ⟨8, 0, none⟩ = some (.iface 96 (.pointer (some au)))) :
    Calls Ybaf.prog 31 #[.pointer (some ⟨Q, 0, none⟩), .int .i64 (n : Int)] w fun e w' => ∃ x y : Value, e = .returned (.tuple #[x, y]) ∧ Rn M X Q B Y U D cap L p n pn ord fr lk ifs ae au x y w w' := by
  obtain ⟨⟨offs, at', bv, hQ, hroom'⟩, hsp, mQ, mB, mY, mU, mD, m10, nB, nY, nU, xQ, xB, xY, xU, xl⟩ := h
  have lts : B < w.heap.size ∧ Y < w.heap.size ∧ U < w.heap.size ∧ D < w.heap.size := by
    obtain ⟨i, r, v, hs, _⟩ := hsp
    obtain ⟨⟨_, _, h1⟩, ⟨_, h2⟩, ⟨_, _, h3, _⟩, ⟨_, h4⟩, _⟩ := hs
    exact ⟨h1.lt, h2.lt, h3.lt, h4.lt⟩
  have hQl := hQ.lt
  have mk : ∀ (a0 : Option Addr) (c0 : Nat), bv = .slice a0 c0 c0 → c0 < n → Calls Ybaf.prog 31 #[.pointer (some ⟨Q, 0, none⟩), .int .i64 (n : Int)] w fun e w' => ∃ x y : Value, e = .returned (.tuple #[x, y]) ∧ Rn M X Q B Y U D cap L p n pn ord fr lk ifs ae au x y w w' := by
    intro a0 c0 hbv hc
    subst hbv
    refine (read_b Q B Y U D cap L p n pn ord fr lk offs at' ifs ae au a0 c0 w hQ hc hn hsp nB nY nU (by omega) lts.1 lts.2.1 lts.2.2.1 lts.2.2.2 hE hX (by omega) (by omega) (by omega) (by omega)).mono ?_
    rintro e w' ⟨x, y, rfl, hR⟩
    exact ⟨x, y, rfl, ra_rn hR (by simp) (Nat.le_refl _) hn mQ mB mY mU (by omega) mD m10 nB nY nU (by omega) (by omega) (by omega) (by omega) xQ xB xY xU (by omega) xl⟩
  rcases hroom' with rfl | ⟨P, cp, qs, rfl, hql, hP, mP, nPQ, nPB, nPY, nPU, hcp, xP⟩
  · by_cases h0 : n = 0
    · obtain ⟨o, a, P, cp, h9⟩ := hroom h0
      have e := (hQ.cell 5).symm.trans (h9.cell 5)
      simp [crc] at e
    · exact mk none 0 rfl (by omega)
  · by_cases hc : cp < n
    · exact mk (some ⟨P, 0, none⟩) cp rfl hc
    · refine (read_a Q B Y U D cap L p n pn ord fr lk offs at' ifs ae au P cp qs w hQ hql hP (by omega) hcp hsp nB nY nU (fun h => nPQ h.symm) (fun h => nPB h.symm) (fun h => nPY h.symm) (fun h => nPU h.symm) (by omega) (by omega) hE hX (by omega) (by omega) (by omega) (by omega)).mono ?_
      rintro e w' ⟨x, y, rfl, hR⟩
      exact ⟨x, y, rfl, ra_rn hR hql (by omega) hcp mQ mB mY mU mP mD m10 nB nY nU nPQ nPB nPY nPU xQ xB xY xU xP xl⟩
end Go.Proofs.YbulkbgsmFmt
