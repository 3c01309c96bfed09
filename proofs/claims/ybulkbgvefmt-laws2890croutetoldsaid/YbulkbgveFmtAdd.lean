import Derived.Test.YbulkbgveFmtUvar
import Derived.BigRegion
import Derived.BigQuiet
import Derived.StillTailTactics
import Derived.Deep.RegionWith
import Derived.Deep.RegionLaw
import Derived.Deep.RegionLawGrows
import Derived.Laws.Closers25b
import Derived.Deep.QuietTactic
namespace Go.Proofs.YbulkbgveFmt
open Go.RowKit

def Ru (x : Int) : Prop := 0 ≤ x ∧ x ≤ 18446744073709551615
def Ri (x : Int) : Prop := -9223372036854775808 ≤ x ∧ x ≤ 9223372036854775807
theorem ru_bits (op : BinOp) (a b : Int) : Ru (bits op .u64 a b) := ⟨bits_lo_u64 op a b, bits_hi_u64 op a b⟩
theorem ru_wrap (a : Int) : Ru (IntKind.u64.wrap a) := by
  rw [IntKind.wrap_u64]
  unfold Ru
  omega
theorem ri_wrap (a : Int) : Ri (wrap64 a) := by
  unfold Ri wrap64
  omega

theorem uvarI (B K n : Nat) (x : Int) (hx : Ru x) (w : World) (hown : Buf w B K n) (hlim : n + 10 ≤ 4096) :
    Calls Ybaf.prog 7 #[.slice (some ⟨K, 0, none⟩) n 4096, .int .u64 x] w fun e w' => ∃ n' : Nat, e = .returned (.slice (some ⟨K, 0, none⟩) n' 4096) ∧ n' ≤ n + 10 ∧ Buf w' B K n' ∧ Kept (· = K) w w' := by
  have h0 : (0 : Int) ≤ x := hx.1
  have h1 : x ≤ 18446744073709551615 := hx.2
  obtain ⟨y, rfl⟩ := Int.eq_ofNat_of_zero_le h0
  exact uvar B K n y (by omega) w hown hlim
theorem varI (B K n : Nat) (x : Int) (hx : Ri x) (w : World) (hown : Buf w B K n) (hlim : n + 10 ≤ 4096) :
    Calls Ybaf.prog 8 #[.slice (some ⟨K, 0, none⟩) n 4096, .int .i64 x] w fun e w' => ∃ n' : Nat, e = .returned (.slice (some ⟨K, 0, none⟩) n' 4096) ∧ n' ≤ n + 10 ∧ Buf w' B K n' ∧ Kept (· = K) w w' :=
  var B K n x hx.1 hx.2 w hown hlim

/-- What stands while a line is being kept: the reader, the chunks, the line's box, the buffer. -/
structure At (p : Nat → Prop) (W0 : World) (B R C K b : Nat) (xs ys : List Value) (l c i d : Int) (n : Nat) (w : World) : Prop where
  row : Row w R 43 xs
  chunks : Row w C 40 ys
  line : Row w b 31 [.int .i64 l, .int .i64 c, .int .i64 i, .int .i64 d]
  buf : Buf w B K n
  kept : Kept p W0 w

theorem At.step {p : Nat → Prop} {W0 : World} {B R C K b : Nat} {xs ys : List Value} {l c i d : Int} {n n' : Nat} {w w1 : World} (h : At p W0 B R C K b xs ys l c i d n w) (hk : Kept (· = K) w w1) (hb : Buf w1 B K n')
    (hR : R ≠ K) (hC : C ≠ K) (hl : b ≠ K) (hp : K < W0.heap.size → p K) : At p W0 B R C K b xs ys l c i d n' w1 :=
  ⟨h.row.kept hk hR, h.chunks.kept hk hC, h.line.kept hk hl, hb, ⟨hk.os.trans h.kept.os, hk.tape.trans h.kept.tape, hk.output.trans h.kept.output, Nat.le_trans h.kept.size hk.size, fun k hk' hn => (hk.block k (Nat.lt_of_lt_of_le hk' h.kept.size) (fun e => hn (e ▸ hp (e ▸ hk')))).trans (h.kept.block k hk' hn)⟩⟩
theorem At.drewN {p : Nat → Prop} {W0 : World} {B R C K b : Nat} {xs ys : List Value} {l c i d : Int} {n : Nat} {w : World} (h : At p W0 B R C K b xs ys l c i d n w) (m : Nat) : At p W0 B R C K b xs ys l c i d n (w.drewN m) :=
  ⟨h.row, h.chunks, h.line, h.buf, h.kept.drewN m⟩

theorem mixed : Ybaf.prog.follows .mixedOrders = true := by kernel_rfl
theorem still_tail {P : Program} {id : Nat} {Q : Exit → Act → World → Prop} {a : Act} {w : World} {l : List Oper} (n : Nat) (hm : P.follows .mixedOrders = true) (hB : Region.lexTailB .any l.toArray n = true)
    (h : wpStill P l.toArray w.drew (fun a' => wpList P l.toArray Q (l.drop n) a' w.drew) (l.take n) a) : (Code.region id l.toArray true).wp P Q a w := wp_region_still_tail n hm hB h
theorem At.drew {p : Nat → Prop} {W0 : World} {B R C K b : Nat} {xs ys : List Value} {l c i d : Int} {n : Nat} {w : World} (h : At p W0 B R C K b xs ys l c i d n w) : At p W0 B R C K b xs ys l c i d n w.drew :=
  ⟨h.row, h.chunks, h.line, h.buf, h.kept.drew⟩

set_option maxHeartbeats 8000000 in
set_option maxRecDepth 100000 in
theorem add_more (B R C K n cc : Nat) (l c i d f p p2 p3 q : Int) (W : World) (xs ys : List Value) (hR : Row W R 43 xs)
    (h21 : xs[21]? = some (.slice (some ⟨C, 0, none⟩) 1 cc)) (h22 : xs[22]? = some (.int .i64 1)) (h23 : xs[23]? = some (.int .i64 f)) (hf : f ≠ 0)
    (h27 : xs[27]? = some (.int .i64 p)) (h28 : xs[28]? = some (.int .i64 p2)) (h29 : xs[29]? = some (.int .i64 p3)) (h30 : xs[30]? = some (.int .i64 q)) (hC : Row W C 40 ys) (hC0 : ys[0]? = some (.slice (some ⟨K, 0, none⟩) n 4096)) (hb : Buf W B K n) (hn : n ≤ 50) (hRK : R ≠ K) (hCK : C ≠ K) (hRC : R ≠ C) :
    Calls Ybaf.prog 4 #[.pointer (some ⟨R, 21, none⟩), .agg #[.int .i64 l, .int .i64 c, .int .i64 i, .int .i64 d]] W fun e w' => e = .returned (.tuple #[]) ∧
      Row w' R 43 ((((xs.set 27 (.int .i64 l)).set 28 (.int .i64 c)).set 29 (.int .i64 i)).set 30 (.int .i64 d)) ∧ Kept (fun k => k = R ∨ k = C ∨ k = K) W w' := by
  go_enter Ybaf.func4, Ybaf.ntmps4
  have hK := hb.lt
  have hbK : W.heap.size ≠ K := by omega
  have hbC : W.heap.size ≠ C := by have := hC.lt; omega
  have hbR : W.heap.size ≠ R := by have := hR.lt; omega
  have h0 : At (fun k => k = R ∨ k = C ∨ k = K) W B R C K W.heap.size xs ys l c i d n (W.alloc (.cells #[.int .i64 l, .int .i64 c, .int .i64 i, .int .i64 d] 31)) :=
    ⟨hR.alloc _, hC.alloc _, Row.new W 31 _, hb.kept ((Kept.refl (fun _ => False) W).alloc _) (fun h => h), (Kept.refl _ W).alloc _⟩
  clear hb hR hC
  have hw0 : IntKind.i64.wrap 0 = 0 := by decide
  have hwn : IntKind.i64.wrap (4096 - (n : Int)) = 4096 - n := by simp [IntKind.wrap, IntKind.signed, IntKind.bits]; omega
  have hlt : ¬ ((4096 : Int) - n < 40) := by omega
  have c21 := (h0.row.cell 21).trans h21
  have c22 := (h0.row.cell 22).trans h22
  have c27 := (h0.row.cell 27).trans h27
  have cC := (h0.chunks.cell 0).trans hC0
  go_wp2_with fail
  go_quiet (fail)
  go_wp2_with fail
  go_quiet (fail)
  go_wp2_with fail
  clear hwn hlt
  go_quiet (fail)
  go_wp2_with fail
  rotate_left
  · refine (uvarI B K n _ (ru_bits _ _ _) _ (h0.drewN _).buf (by omega)).mono ?_
    rintro _ w1 ⟨n1, rfl, hn1, hb1, hk1⟩
    have h1 := (h0.drewN _).step hk1 hb1 hRK hCK hbK (fun _ => .inr (.inr rfl))
    clear h0 hk1 hb1 c21 c22 c27 cC
    go_wp2_with fail
    refine (uvarI B K n1 _ (ru_wrap _) _ h1.buf (by omega)).mono ?_
    rintro _ w2 ⟨n2, rfl, hn2, hb2, hk2⟩
    have h2 := h1.step hk2 hb2 hRK hCK hbK (fun _ => .inr (.inr rfl))
    have hn2' : n2 ≤ n + 20 := by omega
    clear h1 hk2 hb2 hn1 hn2
    have b2 : w2.cell? ⟨W.heap.size, 2, none⟩ = some (.int .i64 i) := h2.line.cell 2
    go_wp2_with fail
    refine (uvarI B K n2 _ (ru_wrap _) _ h2.buf (by omega)).mono ?_
    rintro _ w3 ⟨n3, rfl, hn3, hb3, hk3⟩
    have h3 := h2.step hk3 hb3 hRK hCK hbK (fun _ => .inr (.inr rfl))
    clear h2 hk3 hb3 b2
    have b3 : w3.cell? ⟨W.heap.size, 3, none⟩ = some (.int .i64 d) := h3.line.cell 3
    have c30 := (h3.row.cell 30).trans h30
    go_wp2_with fail
    refine still_tail 9 mixed (by kernel_rfl) ?_
    simp only [List.take_succ_cons, List.take_zero, List.drop_succ_cons, List.drop_zero]
    repeat still_step
    try refine wpStill_nil ?_
    go_wp2_with fail
    refine (varI B K n3 _ (ri_wrap _) _ h3.drew.buf (by omega)).mono ?_
    rintro _ w4 ⟨n4, rfl, hn4, hb4, hk4⟩
    have h4 := h3.drew.step hk4 hb4 hRK hCK hbK (fun _ => .inr (.inr rfl))
    clear h3 hk4 hb4 b3 c30
    have c21 := (h4.row.cell 21).trans h21
    have c22 := (h4.row.cell 22).trans h22
    have c23 := (h4.row.cell 23).trans h23
    have cC := (h4.chunks.cell 0).trans hC0
    have fC := h4.chunks.frozen 0
    have b0 : w4.cell? ⟨W.heap.size, 0, none⟩ = some (.int .i64 l) := h4.line.cell 0
    have b1 : w4.cell? ⟨W.heap.size, 1, none⟩ = some (.int .i64 c) := h4.line.cell 1
    have b2 : w4.cell? ⟨W.heap.size, 2, none⟩ = some (.int .i64 i) := h4.line.cell 2
    have b3 : w4.cell? ⟨W.heap.size, 3, none⟩ = some (.int .i64 d) := h4.line.cell 3
    have c27 := (h4.row.cell 27).trans h27
    have c28 := (h4.row.cell 28).trans h28
    have c29 := (h4.row.cell 29).trans h29
    have c30 := (h4.row.cell 30).trans h30
    have f27 := h4.row.frozen 27
    have f28 := h4.row.frozen 28
    have f29 := h4.row.frozen 29
    have f30 := h4.row.frozen 30
    go_wp2_with fail
    refine still_tail 11 mixed (by kernel_rfl) ?_
    simp only [List.take_succ_cons, List.take_zero, List.drop_succ_cons, List.drop_zero]
    repeat still_step
    try refine wpStill_nil ?_
    go_wp2_with fail
    go_end0
    refine ⟨rfl, ?_, ?_⟩
    · exact Row.drew (((((h4.row.other C 0 _ hRC).set 27 _).set 28 _).set 29 _).set 30 _)
    · refine Kept.drew ?_
      exact ((((h4.kept.setCell (fun _ => .inr (.inl rfl)) _).setCell (fun _ => .inl rfl) _).setCell (fun _ => .inl rfl) _).setCell (fun _ => .inl rfl) _).setCell (fun _ => .inl rfl) _
  · refine (uvarI B K n _ (ru_wrap _) _ (h0.drewN _).buf (by omega)).mono ?_
    rintro _ w2 ⟨n2, rfl, hn2, hb2, hk2⟩
    have h2 := (h0.drewN _).step hk2 hb2 hRK hCK hbK (fun _ => .inr (.inr rfl))
    have hn2' : n2 ≤ n + 20 := by omega
    clear h0 hk2 hb2 hn2 c21 c22 c27 cC
    have b2 : w2.cell? ⟨W.heap.size, 2, none⟩ = some (.int .i64 i) := h2.line.cell 2
    go_wp2_with fail
    refine (uvarI B K n2 _ (ru_wrap _) _ h2.buf (by omega)).mono ?_
    rintro _ w3 ⟨n3, rfl, hn3, hb3, hk3⟩
    have h3 := h2.step hk3 hb3 hRK hCK hbK (fun _ => .inr (.inr rfl))
    clear h2 hk3 hb3 b2
    have b3 : w3.cell? ⟨W.heap.size, 3, none⟩ = some (.int .i64 d) := h3.line.cell 3
    have c30 := (h3.row.cell 30).trans h30
    go_wp2_with fail
    refine still_tail 9 mixed (by kernel_rfl) ?_
    simp only [List.take_succ_cons, List.take_zero, List.drop_succ_cons, List.drop_zero]
    repeat still_step
    try refine wpStill_nil ?_
    go_wp2_with fail
    refine (varI B K n3 _ (ri_wrap _) _ h3.drew.buf (by omega)).mono ?_
    rintro _ w4 ⟨n4, rfl, hn4, hb4, hk4⟩
    have h4 := h3.drew.step hk4 hb4 hRK hCK hbK (fun _ => .inr (.inr rfl))
    clear h3 hk4 hb4 b3 c30
    have c21 := (h4.row.cell 21).trans h21
    have c22 := (h4.row.cell 22).trans h22
    have c23 := (h4.row.cell 23).trans h23
    have cC := (h4.chunks.cell 0).trans hC0
    have fC := h4.chunks.frozen 0
    have b0 : w4.cell? ⟨W.heap.size, 0, none⟩ = some (.int .i64 l) := h4.line.cell 0
    have b1 : w4.cell? ⟨W.heap.size, 1, none⟩ = some (.int .i64 c) := h4.line.cell 1
    have b2 : w4.cell? ⟨W.heap.size, 2, none⟩ = some (.int .i64 i) := h4.line.cell 2
    have b3 : w4.cell? ⟨W.heap.size, 3, none⟩ = some (.int .i64 d) := h4.line.cell 3
    have c27 := (h4.row.cell 27).trans h27
    have c28 := (h4.row.cell 28).trans h28
    have c29 := (h4.row.cell 29).trans h29
    have c30 := (h4.row.cell 30).trans h30
    have f27 := h4.row.frozen 27
    have f28 := h4.row.frozen 28
    have f29 := h4.row.frozen 29
    have f30 := h4.row.frozen 30
    go_wp2_with fail
    refine still_tail 11 mixed (by kernel_rfl) ?_
    simp only [List.take_succ_cons, List.take_zero, List.drop_succ_cons, List.drop_zero]
    repeat still_step
    try refine wpStill_nil ?_
    go_wp2_with fail
    go_end0
    refine ⟨rfl, ?_, ?_⟩
    · exact Row.drew (((((h4.row.other C 0 _ hRC).set 27 _).set 28 _).set 29 _).set 30 _)
    · refine Kept.drew ?_
      exact ((((h4.kept.setCell (fun _ => .inr (.inl rfl)) _).setCell (fun _ => .inl rfl) _).setCell (fun _ => .inl rfl) _).setCell (fun _ => .inl rfl) _).setCell (fun _ => .inl rfl) _
end Go.Proofs.YbulkbgveFmt
