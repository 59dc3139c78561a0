/-
  BOrder: the law, its worlds ahead of the sort. Own work of this seat.
-/
import Derived.Test.YbulkaasoLists
import Derived.Laws.CopyRow
namespace Go.Proofs.Ybulkaaso
open Go.ChangeShapes Go.WideShapes Go.ChangeAt Go.RowKit Go.Sort Go.Maps

/-- all that the law has laid, ahead of the sort: errs, rk, idx (d), want (e) -/
structure Full (w1 : World) (B n : Nat) (Pt : Nat → ByteArray) (R L C : Nat → Int) (d e : Nat → Nat) (wr : World) : Prop where
  since : w1.Since B wr
  errs : wr.rowIs B 38 n (fun j => .pointer (some ⟨B + 3 + j, 0, none⟩))
  rks : wr.rowIs (B + 1) 3 n (fun j => .int .i64 (R j))
  idx : wr.rowIs (B + 2) 3 n (fun j => .int .i64 (d j))
  want : wr.rowIs (B + 3 + n) 38 n (fun j => .pointer (some ⟨B + 3 + e j, 0, none⟩))
  path : ∀ j, j < n → wr.cell? ⟨B + 3 + j, 0, none⟩ = some (.string (Pt j))
  line : ∀ j, j < n → wr.cell? ⟨B + 3 + j, 1, none⟩ = some (.int .i64 (L j))
  col : ∀ j, j < n → wr.cell? ⟨B + 3 + j, 2, none⟩ = some (.int .i64 (C j))

theorem addr_add (b o j : Nat) : (⟨b, o, none⟩ : Addr).add j = ⟨b, o + j, none⟩ := by unfold Addr.add; split <;> simp_all
theorem size38 : (Yba.prog.info? 38).map (·.size) = some 1 := by kernel_rfl
def ptrRow (B n : Nat) : List Value := (List.range n).map (fun j => Value.pointer (some ⟨B + 3 + j, 0, none⟩))
theorem ptrRow_length (B n : Nat) : (ptrRow B n).length = n := by simp [ptrRow]
theorem ptrRow_get {B n j : Nat} {v : Value} (h : (ptrRow B n)[j]? = some v) : j < n ∧ v = .pointer (some ⟨B + 3 + j, 0, none⟩) := by
  unfold ptrRow at h
  obtain ⟨hj, he⟩ := List.getElem?_eq_some_iff.1 h
  simp at hj he
  exact ⟨hj, he.symm⟩
theorem ptrRow_at {B n j : Nat} (h : j < n) : (ptrRow B n)[j]? = some (.pointer (some ⟨B + 3 + j, 0, none⟩)) := by simp [ptrRow, h]

theorem Lst.copied {w1 : World} {B n : Nat} {Pt : Nat → ByteArray} {R L C : Nat → Int} {wr : World} (h : Lst w1 B n Pt R L C n n n wr) :
    ∃ w4, (Builtin.copy_ #[33, 33] 3 #[.slice (some ⟨wr.heap.size, 0, none⟩) n n, .slice (some ⟨B, 0, none⟩) n n]).run Yba.prog (wr.alloc (.cells (madeCells #[.pointer none] n) 38)) = .ok (.int .i64 n) w4 ∧
      Hid (Full w1 B n Pt R L C (fun j => j) (fun j => j) w4) := by
  have hs := h.size
  have hal : wr.Since wr.heap.size (wr.alloc (.cells (madeCells #[.pointer none] n) 38)) := (World.Since.refl _ _).alloc (Nat.le_refl _) _
  have hg : (wr.alloc (.cells (madeCells #[.pointer none] n) 38)).heap[wr.heap.size]? = some (.cells (madeCells #[.pointer none] n) 38 (0, 0)) := Deep.blk_alloc_new _ _
  have hml : (madeCells #[Value.pointer none] n).size = n := size_madeCells _ _
  have h1c : ∀ v ∈ ptrRow B n, v.oneCell' = true := fun v hv => by
    obtain ⟨j, hj, rfl⟩ := List.mem_iff_getElem.1 hv
    obtain ⟨_, e⟩ := ptrRow_get (List.getElem?_eq_getElem hj)
    rw [e]; rfl
  have hr := run_copy_row (P := Yba.prog) (wr.alloc (.cells (madeCells #[.pointer none] n) 38)) 33 33 3 38 wr.heap.size 0 n n ⟨B, 0, none⟩ n n _ 38 (ptrRow B n) Yba.underlying33 size38 hg (by rw [ptrRow_length]; exact (Nat.min_self _).symm) (fun j v hv => by
    obtain ⟨hj, rfl⟩ := ptrRow_get hv
    rw [addr_add, Nat.zero_add, cell_allocOld _ (by omega)]
    exact (h.errs.cell hj).trans (by simp [hj])) (by rw [hml, ptrRow_length]; omega) h1c
  rw [ptrRow_length] at hr
  have hd : (madeCells #[Value.pointer none] n).toList.drop (0 + n) = [] := List.drop_eq_nil_of_le (by rw [Array.length_toList, hml]; omega)
  rw [hd] at hr
  refine ⟨_, hr, ?_⟩
  generalize hw4 : (wr.alloc (.cells (madeCells #[.pointer none] n) 38)).setRow wr.heap.size (List.take 0 (madeCells #[Value.pointer none] n).toList ++ ptrRow B n ++ []).toArray = w4
  have hb : ∀ b, b < wr.heap.size → w4.heap[b]? = wr.heap[b]? := fun b hb => by
    rw [← hw4, setRow_other _ _ _ _ (by omega), Deep.blk_alloc_lt _ _ _ hb]
  have hc : ∀ b o, b < wr.heap.size → w4.cell? ⟨b, o, none⟩ = wr.cell? ⟨b, o, none⟩ := fun b o h => World.cell?_of_block (w := wr) (a := ⟨b, o, none⟩) (hb b h)
  refine ⟨h.since.trans ⟨by rw [← hw4]; rfl, by rw [← hw4]; rfl, by rw [← hw4]; rfl, by rw [← hw4]; simp [World.setRow], fun b hb' => hb b (by omega)⟩, (h.errs.of_block (hb _ (by omega))).congr (fun j hj => by simp [hj]), (h.rks.of_block (hb _ (by omega))).congr (fun j hj => by simp [hj]), (h.idx.of_block (hb _ (by omega))).congr (fun j hj => by simp [hj]), ?_,
    fun j hj => (hc _ _ (by omega)).trans (h.path j hj), fun j hj => (hc _ _ (by omega)).trans (h.line j hj), fun j hj => (hc _ _ (by omega)).trans (h.col j hj)⟩
  refine ⟨(List.take 0 (madeCells #[Value.pointer none] n).toList ++ ptrRow B n ++ []).toArray, ?_, by simp [ptrRow_length], fun j hj => ?_⟩
  · rw [← hw4, show B + 3 + n = wr.heap.size from by omega]; exact setRow_heap _ _ _ _ _ _ hg
  · simp only [List.take_zero, List.nil_append, List.append_nil, List.getElem?_toArray]
    exact ptrRow_at hj

theorem Full.drewN {w1 : World} {B n : Nat} {Pt : Nat → ByteArray} {R L C : Nat → Int} {d e : Nat → Nat} {wr : World} (h : Full w1 B n Pt R L C d e wr) (m : Nat) : Full w1 B n Pt R L C d e (wr.drewN m) :=
  ⟨⟨h.since.os, h.since.tape, h.since.output, h.since.size, h.since.block⟩, h.errs, h.rks, h.idx, h.want, h.path, h.line, h.col⟩

theorem Full.swap {w1 : World} {B n : Nat} {Pt : Nat → ByteArray} {R L C : Nat → Int} {d e : Nat → Nat} {wr : World} (h : Full w1 B n Pt R L C d e wr) (i j : Nat) :
    Full w1 B n Pt R L C (swp d i j) e ((wr.setCell ⟨B + 2, i, none⟩ (.int .i64 (d j))).setCell ⟨B + 2, j, none⟩ (.int .i64 (d i))) where
  since := (h.since.setCell (by show B ≤ B + 2; omega) _).setCell (by show B ≤ B + 2; omega) _
  errs := (h.errs.setOther (by show B ≠ B + 2; omega) _).setOther (by show B ≠ B + 2; omega) _
  rks := (h.rks.setOther (by show B + 1 ≠ B + 2; omega) _).setOther (by show B + 1 ≠ B + 2; omega) _
  idx := ((h.idx.set i _).set j _).congr (fun k hk => by
    unfold swp
    by_cases e1 : k = i
    · subst e1
      by_cases e2 : k = j
      · subst e2; simp
      · simp [e2]
    · by_cases e2 : k = j
      · simp [e2]
        split <;> simp_all
      · simp [e1, e2])
  want := (h.want.setOther (by show B + 3 + n ≠ B + 2; omega) _).setOther (by show B + 3 + n ≠ B + 2; omega) _
  path := fun k hk => ((cell_setOther _ (by show B + 3 + k ≠ B + 2; omega)).trans (cell_setOther _ (by show B + 3 + k ≠ B + 2; omega))).trans (h.path k hk)
  line := fun k hk => ((cell_setOther _ (by show B + 3 + k ≠ B + 2; omega)).trans (cell_setOther _ (by show B + 3 + k ≠ B + 2; omega))).trans (h.line k hk)
  col := fun k hk => ((cell_setOther _ (by show B + 3 + k ≠ B + 2; omega)).trans (cell_setOther _ (by show B + 3 + k ≠ B + 2; omega))).trans (h.col k hk)

theorem Full.put {w1 : World} {B n : Nat} {Pt : Nat → ByteArray} {R L C : Nat → Int} {d : Nat → Nat} {i : Nat} {wr : World} (h : Full w1 B n Pt R L C d (fun j => if j < i then d j else j) wr) (hi : i < n) :
    Full w1 B n Pt R L C d (fun j => if j < i + 1 then d j else j) (wr.setCell ⟨B + 3 + n, i, none⟩ (.pointer (some ⟨B + 3 + d i, 0, none⟩))) where
  since := h.since.setCell (by show B ≤ B + 3 + n; omega) _
  errs := h.errs.setOther (by show B ≠ B + 3 + n; omega) _
  rks := h.rks.setOther (by show B + 1 ≠ B + 3 + n; omega) _
  idx := h.idx.setOther (by show B + 2 ≠ B + 3 + n; omega) _
  want := (h.want.set i _).congr (fun k hk => by
    by_cases e1 : k = i
    · subst e1; simp
    · by_cases e2 : k < i
      · simp [e1, e2, show k < i + 1 by omega]
      · simp [e1, e2, show ¬ k < i + 1 by omega])
  path := fun k hk => (cell_setOther _ (by show B + 3 + k ≠ B + 3 + n; omega)).trans (h.path k hk)
  line := fun k hk => (cell_setOther _ (by show B + 3 + k ≠ B + 3 + n; omega)).trans (h.line k hk)
  col := fun k hk => (cell_setOther _ (by show B + 3 + k ≠ B + 3 + n; omega)).trans (h.col k hk)
end Go.Proofs.Ybulkaaso
