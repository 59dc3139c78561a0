/-
  The walk of zzs1333bmodel (7): slices.Clone and slices.Sort by their contracts. Own work of this seat.
-/
import Derived.Test.YbulkaaouRows
import Derived.Test.YbulkaaouCounts
import Derived.Test.YbulkaaouShelf
import Derived.WalkKit
import Derived.ProofKit
import Derived.Below
import Derived.WalkSpells
import Derived.Deep.DeepCutAuto
import Derived.Deep.Light
import Derived.RegionTactic
import Derived.ChangeAlike
import Derived.BigRegion
import Derived.Lib.OwnBridge
namespace Go.Proofs.Ybulkaaou
open Go.ChangeShapes Go.WideShapes Go.ChangeAt Go.RowKit Go.Shelf Go.Sort

theorem below_grow {B : Nat} {w0 w : World} (h : Below B w0 w) (os : Array Obj) (hB : B ≤ w.heap.size) : Below B w0 (grow w os) :=
  ⟨h.os, h.tape, h.output, Nat.le_trans h.size (by simp), fun k hk => by
    rw [← h.block k hk]
    show (w.heap ++ os)[k]? = _
    rw [Array.getElem?_append_left (by omega)]⟩

theorem cell_grow {w : World} {os : Array Obj} {b o : Nat} (hb : b < w.heap.size) : (grow w os).cell? ⟨b, o, none⟩ = w.cell? ⟨b, o, none⟩ :=
  (below_grow (Below.refl w.heap.size w) os (Nat.le_refl _)).cell (p := ⟨b, o, none⟩) hb

theorem getElem!_srt (zs : List Int) (j : Nat) : (zs.mergeSort fun x y => decide (x ≤ y)).toArray[j]! = (srt zs).getD j 0 := by
  simp only [srt, List.getD_eq_getElem?_getD, Array.getElem!_eq_getD, Array.getD_eq_getD_getElem?, List.getElem?_toArray]
  rfl

theorem sorted_cell {w1 : World} {g n : Nat} {os : Array Obj} {zs : List Int} (hH : Holds (Value.int .i64) w1 g 0 zs.toArray) (hgl : g < w1.heap.size) (j : Nat) (hj : j < zs.length) :
    (grow (putRow (Value.int .i64) (Sort.ahead w1 n) g 0 (zs.mergeSort fun x y => decide (x ≤ y)).toArray) os).cell? ⟨g, j, none⟩ = some (.int .i64 ((srt zs).getD j 0)) := by
  rw [cell_grow (by simp; omega)]
  have := cell?_putRow (Value.int .i64) (Sort.ahead w1 n) g 0 zs.toArray (zs.mergeSort fun x y => decide (x ≤ y)).toArray hH (by simp) j (by simpa using hj)
  rw [Nat.zero_add] at this
  rw [this, getElem!_srt]

set_option maxRecDepth 100000 in
set_option maxHeartbeats 1000000 in
theorem model_some (b off c : Nat) (zs : List Int) (w : World) (hb : b < w.heap.size) (h0 : 0 < zs.length) (h1 : zs.length ≤ 4096)
    (hc : ∀ j, j < zs.length → w.cell? ⟨b, off + j, none⟩ = some (.int .i64 (zs.getD j 0))) :
    Calls Yba.prog 7 #[.slice (some ⟨b, off, none⟩) zs.length c] w fun e w' => e = .returned (.tuple #[.agg #[.int .i64 (least zs), .int .i64 (median zs), .int .i64 (greatest zs)], .bool (decide (0 < zs.length))]) ∧ RowKit.Below w.heap.size w w' := by
  have hal := (Below.refl w.heap.size w).alloc (Nat.le_refl _) (.cells #[.int .i64 0, .int .i64 0, .int .i64 0] 29)
  have hclone := AnyG.slices_Clone_int Yba.layClone b off zs.length c zs (w.alloc (.cells #[.int .i64 0, .int .i64 0, .int .i64 0] 29)) (Nat.le_refl _) (by omega)
    (fun j hj => (hal.cell (p := ⟨b, off + j, none⟩) hb).trans (hc j hj))
  change Calls Yba.prog 14 _ _ _ at hclone
  clear hc
  have hz0 : ((zs.length : Int) == 0) = false := beq_eq_false_iff_ne.2 (by omega)
  go_enter Yba.func7, Yba.ntmps7
  go_wp2_with (first
    | (go_at_call 14; refine hclone.mono ?_; rintro e w1 ⟨v1, rfl, hown, hnn, hbel⟩
       obtain ⟨g, cap, rfl, hbg, hgl, _, _, hlen, hH⟩ := Lib.holds_of_ownsRow hown hnn
       rw [List.take_length] at hH
       have hsort := AnyG.slices_Sort_int Yba.laySort g 0 cap zs w1 hH hgl (by omega)
       change Calls Yba.prog 15 _ _ _ at hsort
       have X : Aside (Holds (Value.int .i64) w1 g 0 zs.toArray ∧ Below (w.alloc (.cells #[.int .i64 0, .int .i64 0, .int .i64 0] 29)).heap.size (w.alloc (.cells #[.int .i64 0, .int .i64 0, .int .i64 0] 29)) w1 ∧ (w.alloc (.cells #[.int .i64 0, .int .i64 0, .int .i64 0] 29)).heap.size ≤ g ∧ g < w1.heap.size) := ⟨hH, hbel, hbg, hgl⟩
       clear hown hnn hbel hbg hgl hlen hH)
    | (go_at_call 15; refine hsort.mono ?_; rintro e w2 ⟨rfl, n, os, hw2⟩
       obtain ⟨hH, hbel, hbg, hgl⟩ := X.out
       have hsz : (w.alloc (.cells #[.int .i64 0, .int .i64 0, .int .i64 0] 29)).heap.size = w.heap.size + 1 := by simp
       have hB2 : Below (w.heap.size + 1) (w.alloc (.cells #[.int .i64 0, .int .i64 0, .int .i64 0] 29)) w2 := by
         rw [hw2]; rw [hsz] at hbel hbg
         exact below_grow (Lib.below_putRow hbel hbg) os (by simp; omega)
       have hcell : ∀ j, j < zs.length → w2.cell? ⟨g, j, none⟩ = some (.int .i64 ((srt zs).getD j 0)) := fun j hj => by
         rw [hw2]; exact sorted_cell hH hgl j hj
       have r0 := (hB2.cell (p := ⟨w.heap.size, 0, none⟩) (Nat.lt_succ_self _)).trans (by simp : _ = some (Value.int .i64 0))
       have r1 := (hB2.cell (p := ⟨w.heap.size, 1, none⟩) (Nat.lt_succ_self _)).trans (by simp : _ = some (Value.int .i64 0))
       have r2 := (hB2.cell (p := ⟨w.heap.size, 2, none⟩) (Nat.lt_succ_self _)).trans (by simp : _ = some (Value.int .i64 0))
       have rf : ∀ i, w2.frozen? ⟨w.heap.size, i, none⟩ = false := fun i => (hB2.frozen (p := ⟨w.heap.size, i, none⟩) (Nat.lt_succ_self _)).trans (by simp)
       have hbf : Below w.heap.size w w2 := hal.trans (hB2.mono (by omega))
       have hgw : w.heap.size + 1 ≤ g := by rw [← hsz]; exact hbg
       clear hw2 hsort hclone X hH hbel hbg hgl hsz hB2 hal))
  have c0 : w2.cell? ⟨g, 0, none⟩ = some (.int .i64 (least zs)) := hcell 0 (by omega)
  have c1 : w2.cell? ⟨g, (zs.length + 1) / 2 - 1, none⟩ = some (.int .i64 (median zs)) := hcell ((zs.length + 1) / 2 - 1) (by omega)
  have c2 : w2.cell? ⟨g, zs.length - 1, none⟩ = some (.int .i64 (greatest zs)) := hcell (zs.length - 1) (by omega)
  clear hcell
  go_region
  go_wp2
  refine bodyPost_ret (v := .tuple #[.agg #[.int .i64 (least zs), .int .i64 (median zs), .int .i64 (greatest zs)], .bool true]) (by simp [results, Yba.results7, go_sem, r0, r1, r2]) rfl ⟨?_, ?_⟩
  · rw [show decide (0 < zs.length) = true from decide_eq_true h0]
  · exact (((hbf.setCell (Nat.le_refl _) _).setCell (Nat.le_refl _) _).setCell (Nat.le_refl _) _).drew

set_option maxRecDepth 100000 in
set_option maxHeartbeats 1000000 in
theorem model_none (a : Option Addr) (c : Nat) (w : World) :
    Calls Yba.prog 7 #[.slice a 0 c] w fun e w' => e = .returned (.tuple #[.agg #[.int .i64 (least []), .int .i64 (median []), .int .i64 (greatest [])], .bool (decide (0 < ([] : List Int).length))]) ∧ RowKit.Below w.heap.size w w' := by
  go_enter Yba.func7, Yba.ntmps7
  go_wp2
  refine bodyPost_ret (v := .tuple #[.agg #[.int .i64 0, .int .i64 0, .int .i64 0], .bool false]) (by simp [results, Yba.results7, go_sem]) rfl ⟨?_, ?_⟩
  · simp [least, median, greatest, srt]
  · exact (Below.refl _ _).alloc (Nat.le_refl _) _
end Go.Proofs.Ybulkaaou
