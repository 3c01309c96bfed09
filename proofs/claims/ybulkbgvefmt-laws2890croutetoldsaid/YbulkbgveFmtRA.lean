import Derived.Test.YbulkbgveFmtEndC
import Derived.Test.YbulkbgveFmtEndF
import Derived.Test.YbulkbgveFmtEndM
import Derived.Deep.CutBlock
import Derived.Deep.OwnRows
namespace Go.Proofs.YbulkbgveFmt
open Go.RowKit Go.Extern.Stop Go.Stop Go.Extern

structure BI (w : World) (a : Option Addr) (m : Nat) : Prop where
  more : 0 < m → ∃ bb off, a = some ⟨bb, off, none⟩ ∧ bb < w.heap.size ∧ ∀ j, j < m → ∃ x, w.cell? ⟨bb, off + j, none⟩ = some (.int .i64 x)

theorem depth_rem (dv : Int) (n : Nat) (hdv : 0 ≤ dv ∧ dv ≤ 255) (hn : dv % 8 = n) : dv.tmod 8 = n := by
  rw [Int.tmod_eq_emod_of_nonneg hdv.1]; exact hn

theorem row_made (W : World) (n : Nat) : Row (W.alloc (.cells (madeCells #[.int .i64 0] n) 3)) W.heap.size 3 ((List.replicate n (0 : Int)).map (.int .i64)) := by
  have h := Row.new W 3 (madeCells #[.int .i64 0] n)
  have e : (madeCells #[Value.int .i64 0] n).toList = (List.replicate n (0 : Int)).map (.int .i64) := by
    unfold madeCells
    apply List.ext_getElem?
    intro j
    by_cases hj : j < n
    · simp [hj, Nat.mod_one]
    · simp [hj]
  rw [e] at h
  exact h
theorem row_put {w : World} {g : Nat} {zs : List Int} (h : Row w g 3 (zs.map (.int .i64))) (k : Nat) (x : Int) : Row (w.setCell ⟨g, k, none⟩ (.int .i64 x)) g 3 ((zs.set k x).map (.int .i64)) := by
  rw [List.map_set]
  exact h.set k _

/-- The reader's cells, nothing waiting. -/
def rd (b I n : Nat) (l c i d : Int) : List Value := [.string ⟨#[]⟩, .int .i64 0, .int .i64 0, .int .i64 0, .pointer none, .pointer (some ⟨b, 0, none⟩), .slice none 0 0, .int .i64 0, .int .i64 0, .int .i64 l, .int .i64 c, .int .i64 i, .int .i64 d, .slice none 0 0, .int .i64 0, .int .i64 0, .int .i64 0, .int .i64 0, .int .i64 0, .int .i64 0, .string ⟨#[]⟩, .slice none 0 0, .int .i64 0, .int .i64 0, .int .i64 0, .int .i64 0, .int .i64 0, .int .i64 0, .int .i64 0, .int .i64 0, .int .i64 0, .slice (some ⟨I, 0, none⟩) n n, .slice none 0 0, .map none]

structure St (W : World) (R b : Nat) (zs : List Int) (xs : List Value) (w : World) : Prop where
  row : Row w R 43 xs
  br : Row w b 28 [.pointer none, .slice none 0 0]
  ind : Row w W.heap.size 3 (zs.map (.int .i64))
  bel : Below W.heap.size W w
  lb : W.heap.size < b
  lR : W.heap.size < R
  ne : b ≠ R

theorem St.alloc {W : World} {R b : Nat} {zs : List Int} {xs : List Value} {w : World} (h : St W R b zs xs w) (o : Obj) : St W R b zs xs (w.alloc o) :=
  ⟨h.row.alloc o, h.br.alloc o, h.ind.alloc o, h.bel.alloc h.bel.size o, h.lb, h.lR, h.ne⟩
theorem St.setR {W : World} {R b : Nat} {zs : List Int} {xs : List Value} {w : World} (h : St W R b zs xs w) (j : Nat) (u : Value) : St W R b zs (xs.set j u) (w.setCell ⟨R, j, none⟩ u) :=
  ⟨h.row.set j u, h.br.other _ _ _ h.ne, h.ind.other _ _ _ (Nat.ne_of_lt h.lR), h.bel.setCell (p := ⟨R, j, none⟩) (Nat.le_of_lt h.lR) u, h.lb, h.lR, h.ne⟩
theorem St.cur {W : World} {R b I n : Nat} {zs : List Int} {w : World} (h : St W R b zs (rd b I n 0 0 0 0) w) (l c i d : Int) : St W R b zs (rd b I n l c i d) ((((w.setCell ⟨R, 9, none⟩ (.int .i64 l)).setCell ⟨R, 10, none⟩ (.int .i64 c)).setCell ⟨R, 11, none⟩ (.int .i64 i)).setCell ⟨R, 12, none⟩ (.int .i64 d)) :=
  (((h.setR 9 _).setR 10 _).setR 11 _).setR 12 _
theorem St.new {W wc : World} {zs : List Int} (hI : Row wc W.heap.size 3 (zs.map (.int .i64))) (hbel : Below W.heap.size W wc) (n : Nat) :
    St W (wc.heap.size + 1) wc.heap.size zs (rd wc.heap.size W.heap.size n 0 0 0 0) ((wc.alloc (.cells #[.pointer none, .slice none 0 0] 28)).alloc (.cells (rd wc.heap.size W.heap.size n 0 0 0 0).toArray 43)) := by
  have e : (wc.alloc (.cells #[.pointer none, .slice none 0 0] 28)).heap.size = wc.heap.size + 1 := by simp
  have h1 := Row.new (wc.alloc (.cells #[.pointer none, .slice none 0 0] 28)) 43 (rd wc.heap.size W.heap.size n 0 0 0 0).toArray
  rw [e] at h1
  have hlt := hI.lt
  exact ⟨h1, (Row.new wc 28 #[.pointer none, .slice none 0 0]).alloc _, (hI.alloc _).alloc _, (hbel.alloc hbel.size _).alloc (by rw [e]; omega) _, hlt, by omega, by omega⟩
theorem St.of_kept {W : World} {R b : Nat} {zs : List Int} {xs ys : List Value} {w w' : World} (h : St W R b zs xs w) (hR : Row w' R 43 ys) (hk : Kept (fun k => k = R) w w') : St W R b zs ys w' :=
  ⟨hR, h.br.kept hk h.ne, h.ind.kept hk (Nat.ne_of_lt h.lR), h.bel.trans (hk.below h.bel.size (fun k hk => by subst hk; exact Nat.le_of_lt h.lR)), h.lb, h.lR, h.ne⟩

theorem setup1 {W wc : World} {R b I n : Nat} {zs : List Int} (hS : St W R b zs (rd b I n 0 0 0 0) wc) (l c i d : Int) :
    St W R b zs (rd b I n l c i d) (((((wc.setCell ⟨R, 9, none⟩ (.int .i64 l)).setCell ⟨R, 10, none⟩ (.int .i64 c)).setCell ⟨R, 11, none⟩ (.int .i64 i)).setCell ⟨R, 12, none⟩ (.int .i64 d)).alloc (.cells #[.int .i64 l, .int .i64 c, .int .i64 i, .int .i64 d] 31)) ∧ Row (((((wc.setCell ⟨R, 9, none⟩ (.int .i64 l)).setCell ⟨R, 10, none⟩ (.int .i64 c)).setCell ⟨R, 11, none⟩ (.int .i64 i)).setCell ⟨R, 12, none⟩ (.int .i64 d)).alloc (.cells #[.int .i64 l, .int .i64 c, .int .i64 i, .int .i64 d] 31)) wc.heap.size 31 [.int .i64 l, .int .i64 c, .int .i64 i, .int .i64 d] ∧ wc.heap.size ≠ R := by
  have e : ((((wc.setCell ⟨R, 9, none⟩ (.int .i64 l)).setCell ⟨R, 10, none⟩ (.int .i64 c)).setCell ⟨R, 11, none⟩ (.int .i64 i)).setCell ⟨R, 12, none⟩ (.int .i64 d)).heap.size = wc.heap.size := by simp
  have h := Row.new ((((wc.setCell ⟨R, 9, none⟩ (.int .i64 l)).setCell ⟨R, 10, none⟩ (.int .i64 c)).setCell ⟨R, 11, none⟩ (.int .i64 i)).setCell ⟨R, 12, none⟩ (.int .i64 d)) 31 #[.int .i64 l, .int .i64 c, .int .i64 i, .int .i64 d]
  rw [e] at h
  exact ⟨(hS.cur l c i d).alloc _, h, Nat.ne_of_gt hS.row.lt⟩

theorem setup2 {W w : World} {R b : Nat} {zs : List Int} {xs : List Value} {E : Nat} {ys : List Value} (hS : St W R b zs xs w) (hE : Row w E 31 ys) (u v : Array Value) :
    St W R b zs xs ((w.alloc (.cells u 31)).alloc (.cells v 31)) ∧ Row ((w.alloc (.cells u 31)).alloc (.cells v 31)) E 31 ys ∧ Row ((w.alloc (.cells u 31)).alloc (.cells v 31)) w.heap.size 31 u.toList ∧ Row ((w.alloc (.cells u 31)).alloc (.cells v 31)) (w.heap.size + 1) 31 v.toList ∧ w.heap.size ≠ R ∧ w.heap.size + 1 ≠ R := by
  have e : (w.alloc (.cells u 31)).heap.size = w.heap.size + 1 := by simp
  have h := Row.new (w.alloc (.cells u 31)) 31 v
  rw [e] at h
  exact ⟨(hS.alloc _).alloc _, (hE.alloc _).alloc _, (Row.new w 31 u).alloc _, h, Nat.ne_of_gt hS.row.lt, by have := hS.row.lt; omega⟩

theorem below_drewN {B : Nat} {w w' : World} (h : Below B w w') (n : Nat) : Below B w (w'.drewN n) := { h with }

theorem setup3 {W w : World} {R b : Nat} {zs : List Int} {xs : List Value} {E : Nat} {ys : List Value} (hS : St W R b zs xs w) (hE : Row w E 31 ys) (u : Array Value) :
    St W R b zs xs (w.alloc (.cells u 31)) ∧ Row (w.alloc (.cells u 31)) E 31 ys ∧ Row (w.alloc (.cells u 31)) w.heap.size 31 u.toList :=
  ⟨hS.alloc _, hE.alloc _, Row.new w 31 u⟩

/-- The reader's cells, lines waiting. -/
def rg (b I n : Nat) (l c i d : Int) (v21 : Value) (u f0 f1 f2 f3 g0 g1 g2 g3 : Int) : List Value := [.string ⟨#[]⟩, .int .i64 0, .int .i64 0, .int .i64 0, .pointer none, .pointer (some ⟨b, 0, none⟩), .slice none 0 0, .int .i64 0, .int .i64 0, .int .i64 l, .int .i64 c, .int .i64 i, .int .i64 d, .slice none 0 0, .int .i64 0, .int .i64 0, .int .i64 0, .int .i64 0, .int .i64 0, .int .i64 0, .string ⟨#[]⟩, v21, .int .i64 u, .int .i64 f0, .int .i64 f1, .int .i64 f2, .int .i64 f3, .int .i64 g0, .int .i64 g1, .int .i64 g2, .int .i64 g3, .slice (some ⟨I, 0, none⟩) n n, .slice none 0 0, .map none]
/-- .. with a mistake told. -/
def rb (b I n : Nat) (v6 v13 : Value) (x : Int) (m : ByteArray) : List Value := [.string ⟨#[]⟩, .int .i64 0, .int .i64 0, .int .i64 0, .pointer none, .pointer (some ⟨b, 0, none⟩), v6, .int .i64 0, .int .i64 1, .int .i64 0, .int .i64 0, .int .i64 0, .int .i64 0, v13, .int .i64 1, .int .i64 x, .int .i64 0, .int .i64 0, .int .i64 0, .int .i64 0, .string m, .slice none 0 0, .int .i64 0, .int .i64 0, .int .i64 0, .int .i64 0, .int .i64 0, .int .i64 0, .int .i64 0, .int .i64 0, .int .i64 0, .slice (some ⟨I, 0, none⟩) n n, .slice none 0 0, .map none]
/-- .. with a frame. -/
def rf (b I n : Nat) (v13 : Value) : List Value := [.string ⟨#[]⟩, .int .i64 0, .int .i64 0, .int .i64 0, .pointer none, .pointer (some ⟨b, 0, none⟩), .slice none 0 0, .int .i64 0, .int .i64 0, .int .i64 0, .int .i64 0, .int .i64 0, .int .i64 0, v13, .int .i64 0, .int .i64 0, .int .i64 0, .int .i64 0, .int .i64 0, .int .i64 0, .string ⟨#[]⟩, .slice none 0 0, .int .i64 0, .int .i64 0, .int .i64 0, .int .i64 0, .int .i64 0, .int .i64 0, .int .i64 0, .int .i64 0, .int .i64 0, .slice (some ⟨I, 0, none⟩) n n, .slice none 0 0, .map none]

theorem rg_first (b I n : Nat) (l c i d : Int) (v : Value) : cur0 (((((((((((rd b I n l c i d).set 21 (v)).set 22 (.int .i64 1)).set 23 (.int .i64 l)).set 24 (.int .i64 c)).set 25 (.int .i64 i)).set 26 (.int .i64 d)).set 27 (.int .i64 l)).set 28 (.int .i64 c)).set 29 (.int .i64 i)).set 30 (.int .i64 d)) = rg b I n 0 0 0 0 v 1 l c i d l c i d := by
  simp only [cur0, rd, rg, List.set_cons_succ, List.set_cons_zero]
theorem rg_add (b I n : Nat) (l c i d : Int) (v : Value) : (((((((((((rd b I n 0 0 0 0).set 21 (v)).set 22 (.int .i64 1)).set 23 (.int .i64 l)).set 24 (.int .i64 c)).set 25 (.int .i64 i)).set 26 (.int .i64 d)).set 27 (.int .i64 l)).set 28 (.int .i64 c)).set 29 (.int .i64 i)).set 30 (.int .i64 d)) = rg b I n 0 0 0 0 v 1 l c i d l c i d := by
  simp only [rd, rg, List.set_cons_succ, List.set_cons_zero]
theorem rg_more (b I n : Nat) (l c i d : Int) (v : Value) (u f0 f1 f2 f3 g0 g1 g2 g3 k0 k1 k2 k3 : Int) : cur0 (((((rg b I n l c i d v u f0 f1 f2 f3 g0 g1 g2 g3).set 27 (.int .i64 k0)).set 28 (.int .i64 k1)).set 29 (.int .i64 k2)).set 30 (.int .i64 k3)) = rg b I n 0 0 0 0 v u f0 f1 f2 f3 k0 k1 k2 k3 := by
  simp only [cur0, rg, List.set_cons_succ, List.set_cons_zero]
theorem rg_zero (b I n : Nat) (l c i d : Int) (v : Value) (u f0 f1 f2 f3 g0 g1 g2 g3 : Int) : cur0 (rg b I n l c i d v u f0 f1 f2 f3 g0 g1 g2 g3) = rg b I n 0 0 0 0 v u f0 f1 f2 f3 g0 g1 g2 g3 := by
  simp only [cur0, rg, List.set_cons_succ, List.set_cons_zero]
theorem rd_zero (b I n : Nat) (l c i d : Int) : cur0 (rd b I n l c i d) = rd b I n 0 0 0 0 := by
  simp only [cur0, rd, List.set_cons_succ, List.set_cons_zero]
theorem rd_ok (b I n : Nat) (l c i d : Int) (v : Value) : cur0 ((rd b I n l c i d).set 13 v) = rf b I n v := by
  simp only [cur0, rd, rf, List.set_cons_succ, List.set_cons_zero]
theorem rd_bad (b I n : Nat) (l c i d x : Int) (v6 v13 : Value) (m : ByteArray) : cur0 (((((((((((rd b I n l c i d).set 13 (v13)).set 14 (.int .i64 1)).set 15 (.int .i64 x)).set 16 (.int .i64 0)).set 17 (.int .i64 0)).set 18 (.int .i64 0)).set 19 (.int .i64 0)).set 20 (.string m)).set 6 (v6)).set 8 (.int .i64 1)) = rb b I n v6 v13 x m := by
  simp only [cur0, rd, rb, List.set_cons_succ, List.set_cons_zero]
theorem St.curg {W : World} {R b I n : Nat} {zs : List Int} {w : World} {v : Value} {u f0 f1 f2 f3 g0 g1 g2 g3 : Int} (h : St W R b zs (rg b I n 0 0 0 0 v u f0 f1 f2 f3 g0 g1 g2 g3) w) (l c i d : Int) : St W R b zs (rg b I n l c i d v u f0 f1 f2 f3 g0 g1 g2 g3) ((((w.setCell ⟨R, 9, none⟩ (.int .i64 l)).setCell ⟨R, 10, none⟩ (.int .i64 c)).setCell ⟨R, 11, none⟩ (.int .i64 i)).setCell ⟨R, 12, none⟩ (.int .i64 d)) := by
  have h1 := (((h.setR 9 (.int .i64 l)).setR 10 (.int .i64 c)).setR 11 (.int .i64 i)).setR 12 (.int .i64 d)
  simp only [rg, List.set_cons_succ, List.set_cons_zero] at h1
  exact h1

end Go.Proofs.YbulkbgveFmt
