/-
  BOrder: the law, the worlds of its second loop. Own work of this seat.
-/
import Derived.Test.YbulkaasoFiles
namespace Go.Proofs.Ybulkaaso
open Go.ChangeShapes Go.WideShapes Go.ChangeAt Go.RowKit Go.Sort Go.Maps

/-- the three rows and the error records; B: the heap's size ahead of them -/
structure Lst (w : World) (B n : Nat) (Pt : Nat → ByteArray) (R L C : Nat → Int) (k r i : Nat) (wr : World) : Prop where
  since : w.Since B wr
  size : wr.heap.size = B + 3 + k
  errs : wr.rowIs B 38 n (fun j => if j < k then .pointer (some ⟨B + 3 + j, 0, none⟩) else .pointer none)
  rks : wr.rowIs (B + 1) 3 n (fun j => if j < r then .int .i64 (R j) else .int .i64 0)
  idx : wr.rowIs (B + 2) 3 n (fun j => if j < i then .int .i64 j else .int .i64 0)
  path : ∀ j, j < k → wr.cell? ⟨B + 3 + j, 0, none⟩ = some (.string (Pt j))
  line : ∀ j, j < k → wr.cell? ⟨B + 3 + j, 1, none⟩ = some (.int .i64 (L j))
  col : ∀ j, j < k → wr.cell? ⟨B + 3 + j, 2, none⟩ = some (.int .i64 (C j))

theorem Lst.start (w : World) (n : Nat) (Pt : Nat → ByteArray) (R L C : Nat → Int) :
    Lst w w.heap.size n Pt R L C 0 0 0 (((w.alloc (.cells (madeCells #[.pointer none] n) 38)).alloc (.cells (madeCells #[.int .i64 0] n) 3)).alloc (.cells (madeCells #[.int .i64 0] n) 3)) where
  since := (((World.Since.refl _ _).alloc (Nat.le_refl _) _).alloc (by simp) _).alloc (by simp; omega) _
  size := by simp
  errs := (((World.rowIs_made w (.pointer none) n 38).alloc _).alloc _).congr (fun i hi => by simp)
  rks := by
    have h := (World.rowIs_made (w.alloc (.cells (madeCells #[.pointer none] n) 38)) (.int .i64 0) n 3).alloc (.cells (madeCells #[.int .i64 0] n) 3)
    have e : (w.alloc (.cells (madeCells #[.pointer none] n) 38)).heap.size = w.heap.size + 1 := by simp
    rw [e] at h
    exact h.congr (fun i hi => by simp)
  idx := by
    have h := World.rowIs_made ((w.alloc (.cells (madeCells #[.pointer none] n) 38)).alloc (.cells (madeCells #[.int .i64 0] n) 3)) (.int .i64 0) n 3
    have e : ((w.alloc (.cells (madeCells #[.pointer none] n) 38)).alloc (.cells (madeCells #[.int .i64 0] n) 3)).heap.size = w.heap.size + 2 := by simp
    rw [e] at h
    exact h.congr (fun i hi => by simp)
  path := fun j hj => by omega
  line := fun j hj => by omega
  col := fun j hj => by omega

theorem row_next {w : World} {b : Nat} {t : TypeId} {n k : Nat} {f g : Nat → Value} (h : w.rowIs b t n (fun j => if j < k then f j else g j)) : (w.setCell ⟨b, k, none⟩ (f k)).rowIs b t n (fun j => if j < k + 1 then f j else g j) :=
  (h.set k (f k)).congr (fun j hj => by
    by_cases e : j = k
    · subst e; simp
    · by_cases e2 : j < k
      · simp [e, e2, show j < k + 1 by omega]
      · simp [e, e2, show ¬ j < k + 1 by omega])

theorem cell_setOther {w : World} {a : Addr} {b o : Nat} (v : Value) (h : b ≠ a.block) : (w.setCell a v).cell? ⟨b, o, none⟩ = w.cell? ⟨b, o, none⟩ :=
  World.cell?_of_block (w := w) (a := ⟨b, o, none⟩) (Deep.blk_setCell_other _ _ _ _ h)
theorem cell_allocOld {w : World} {b o : Nat} (ob : Obj) (h : b < w.heap.size) : (w.alloc ob).cell? ⟨b, o, none⟩ = w.cell? ⟨b, o, none⟩ :=
  World.cell?_of_block (w := w) (a := ⟨b, o, none⟩) (Deep.blk_alloc_lt _ _ _ h)
theorem cell_allocNew {w : World} {o : Nat} (c : Array Value) (t : TypeId) : (w.alloc (.cells c t)).cell? ⟨w.heap.size, o, none⟩ = c[o]? := by
  have e : (w.alloc (.cells c t)).heap[w.heap.size]? = some (.cells c t (0, 0)) := Deep.blk_alloc_new _ _
  simp only [World.cell?, e]; rfl

theorem Lst.err {w : World} {B n : Nat} {Pt : Nat → ByteArray} {R L C : Nat → Int} {k r i : Nat} {wr : World} (h : Lst w B n Pt R L C k r i wr) (c : Array Value) (c0 : c[0]? = some (.string (Pt k))) (c1 : c[1]? = some (.int .i64 (L k))) (c2 : c[2]? = some (.int .i64 (C k))) :
    Lst w B n Pt R L C (k + 1) r i ((wr.setCell ⟨B, k, none⟩ (.pointer (some ⟨wr.heap.size, 0, none⟩))).alloc (.cells c 42)) := by
  have hs := h.size
  have hz : (wr.setCell ⟨B, k, none⟩ (.pointer (some ⟨wr.heap.size, 0, none⟩))).heap.size = wr.heap.size := Deep.nblk_setCell _ _ _
  have e3 : ∀ o, ((wr.setCell ⟨B, k, none⟩ (.pointer (some ⟨wr.heap.size, 0, none⟩))).alloc (.cells c 42)).cell? ⟨B + 3 + k, o, none⟩ = c[o]? := fun o => by
    rw [show B + 3 + k = (wr.setCell ⟨B, k, none⟩ (.pointer (some ⟨wr.heap.size, 0, none⟩))).heap.size from by omega]; exact cell_allocNew _ _
  have old : ∀ j o, j < k → ((wr.setCell ⟨B, k, none⟩ (.pointer (some ⟨wr.heap.size, 0, none⟩))).alloc (.cells c 42)).cell? ⟨B + 3 + j, o, none⟩ = wr.cell? ⟨B + 3 + j, o, none⟩ := fun j o hj => by
    rw [cell_allocOld _ (by omega), cell_setOther _ (by show B + 3 + j ≠ B; omega)]
  refine ⟨(h.since.setCell (Nat.le_refl _) _).alloc (by omega) _, by simp; omega, ?_, (h.rks.setOther (by show B + 1 ≠ B; omega) _).alloc _, (h.idx.setOther (by show B + 2 ≠ B; omega) _).alloc _, ?_, ?_, ?_⟩
  · have := row_next h.errs
    rw [show B + 3 + k = wr.heap.size from by omega] at this
    exact this.alloc _
  · intro j hj
    by_cases e : j = k
    · subst e; rw [e3, c0]
    · rw [old j 0 (by omega)]; exact h.path j (by omega)
  · intro j hj
    by_cases e : j = k
    · subst e; rw [e3, c1]
    · rw [old j 1 (by omega)]; exact h.line j (by omega)
  · intro j hj
    by_cases e : j = k
    · subst e; rw [e3, c2]
    · rw [old j 2 (by omega)]; exact h.col j (by omega)

theorem Lst.rank {w : World} {B n : Nat} {Pt : Nat → ByteArray} {R L C : Nat → Int} {k r i : Nat} {wr : World} (h : Lst w B n Pt R L C k r i wr) : Lst w B n Pt R L C k (r + 1) i (wr.setCell ⟨B + 1, r, none⟩ (.int .i64 (R r))) where
  since := h.since.setCell (by show B ≤ B + 1; omega) _
  size := (Deep.nblk_setCell _ _ _).trans h.size
  errs := h.errs.setOther (by show B ≠ B + 1; omega) _
  rks := row_next h.rks
  idx := h.idx.setOther (by show B + 2 ≠ B + 1; omega) _
  path := fun j hj => (cell_setOther _ (by show B + 3 + j ≠ B + 1; omega)).trans (h.path j hj)
  line := fun j hj => (cell_setOther _ (by show B + 3 + j ≠ B + 1; omega)).trans (h.line j hj)
  col := fun j hj => (cell_setOther _ (by show B + 3 + j ≠ B + 1; omega)).trans (h.col j hj)

theorem Lst.index {w : World} {B n : Nat} {Pt : Nat → ByteArray} {R L C : Nat → Int} {k r i : Nat} {wr : World} (h : Lst w B n Pt R L C k r i wr) : Lst w B n Pt R L C k r (i + 1) (wr.setCell ⟨B + 2, i, none⟩ (.int .i64 (i : Int))) where
  since := h.since.setCell (by show B ≤ B + 2; omega) _
  size := (Deep.nblk_setCell _ _ _).trans h.size
  errs := h.errs.setOther (by show B ≠ B + 2; omega) _
  rks := h.rks.setOther (by show B + 1 ≠ B + 2; omega) _
  idx := row_next (f := fun j => .int .i64 j) h.idx
  path := fun j hj => (cell_setOther _ (by show B + 3 + j ≠ B + 2; omega)).trans (h.path j hj)
  line := fun j hj => (cell_setOther _ (by show B + 3 + j ≠ B + 2; omega)).trans (h.line j hj)
  col := fun j hj => (cell_setOther _ (by show B + 3 + j ≠ B + 2; omega)).trans (h.col j hj)

theorem Lst.drew {w : World} {B n : Nat} {Pt : Nat → ByteArray} {R L C : Nat → Int} {k r i : Nat} {wr : World} (h : Lst w B n Pt R L C k r i wr) : Lst w B n Pt R L C k r i wr.drew :=
  ⟨h.since.drew, h.size, h.errs, h.rks, h.idx, h.path, h.line, h.col⟩
end Go.Proofs.Ybulkaaso
