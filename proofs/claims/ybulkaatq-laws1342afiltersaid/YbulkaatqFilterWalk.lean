/-
  The walk of LawS1342AFilter (3). Own work of this seat.
-/
import Derived.Test.YbulkaatqFilter
import Derived.LaidEqlPtr
namespace Go.Proofs.Ybulkaatq
open Go.ChangeShapes Go.WideShapes Go.ChangeAt Go.RowKit

theorem info26 : (Yba.prog.info? 26).map (fun i => (i.zero, i.size, i.bytes)) = some (some (.pointer none), 1, 8) := by kernel_rfl
theorem info4 : (Yba.prog.info? 4).map (fun i => (i.zero, i.size, i.bytes)) = some (some (.bool false), 1, 1) := by kernel_rfl

/-- a slice's cells -/
def At (w : World) (a : Option Addr) (len : Nat) (f : Nat → Value) : Prop :=
  ∀ i, i < len → ∃ b off, a = some ⟨b, off, none⟩ ∧ w.cell? ⟨b, off + i, none⟩ = some (f i)

/-- what the first loop has built after k rounds; S: the heap's size at the call -/
structure Built (S n : Nat) (lft : Nat → Bool) (sf : Nat → Nat) (w : World) (k : Nat) (wr : World) : Prop where
  since : w.Since S wr
  size : wr.heap.size = S + 2 + 2 * k
  ps : wr.rowIs S 26 n (fun j => if j < k then .pointer (some ⟨S + 2 + 2 * j, 0, none⟩) else .pointer none)
  peers : wr.rowIs (S + 1) 52 n (fun j => if j < k then .iface 50 (.pointer (some ⟨S + 3 + 2 * j, 0, none⟩)) else .nilIface)
  mem : ∀ j, j < k → wr.cell? ⟨S + 3 + 2 * j, 1, none⟩ = some (.pointer (some ⟨S + 2 + 2 * j, 0, none⟩))
  self : ∀ j, j < k → wr.cell? ⟨S + 2 + 2 * j, 1, none⟩ = some (.int .i64 (sf j))
  left : ∀ j, j < k → wr.cell? ⟨S + 2 + 2 * j, 26, none⟩ = some (.bool (lft j))

theorem Built.start (w : World) (n : Nat) (lft : Nat → Bool) (sf : Nat → Nat) :
    Built w.heap.size n lft sf w 0 ((w.alloc (.cells (madeCells #[.pointer none] n) 26)).alloc (.cells (madeCells #[.nilIface] n) 52)) where
  since := ((World.Since.refl _ _).alloc (Nat.le_refl _) _).alloc (by simp) _
  size := by simp
  ps := ((World.rowIs_made w (.pointer none) n 26).alloc _).congr (fun i hi => by simp)
  peers := by
    have h := World.rowIs_made (w.alloc (.cells (madeCells #[.pointer none] n) 26)) .nilIface n 52
    have e : (w.alloc (.cells (madeCells #[.pointer none] n) 26)).heap.size = w.heap.size + 1 := by simp
    rw [e] at h
    exact h.congr (fun i hi => by simp)
  mem := fun j hj => by omega
  self := fun j hj => by omega
  left := fun j hj => by omega


theorem Built.next {S n : Nat} {lft : Nat → Bool} {sf : Nat → Nat} {w : World} {k : Nat} {wr : World} (h : Built S n lft sf w k wr) (c : Array Value) (h1 : c[1]? = some (.int .i64 (sf k))) (h26 : c[26]? = some (.bool (lft k))) :
    Built S n lft sf w (k + 1) ((((wr.setCell ⟨S, k, none⟩ (.pointer (some ⟨wr.heap.size, 0, none⟩))).setCell ⟨S + 1, k, none⟩ (.iface 50 (.pointer (some ⟨wr.heap.size + 1, 0, none⟩)))).alloc (.cells c 49)).alloc (.cells #[.nilIface, .pointer (some ⟨wr.heap.size, 0, none⟩)] 54)) := by
  have hs := h.size
  have hz : ((wr.setCell ⟨S, k, none⟩ (.pointer (some ⟨wr.heap.size, 0, none⟩))).setCell ⟨S + 1, k, none⟩ (.iface 50 (.pointer (some ⟨wr.heap.size + 1, 0, none⟩)))).heap.size = wr.heap.size := by rw [Deep.nblk_setCell, Deep.nblk_setCell]
  have hr1 := (h.ps.set k (.pointer (some ⟨wr.heap.size, 0, none⟩))).setOther (a := ⟨S + 1, k, none⟩) (by show S ≠ S + 1; omega) (.iface 50 (.pointer (some ⟨wr.heap.size + 1, 0, none⟩)))
  have hr2 := (h.peers.setOther (a := ⟨S, k, none⟩) (by show S + 1 ≠ S; omega) (.pointer (some ⟨wr.heap.size, 0, none⟩))).set k (.iface 50 (.pointer (some ⟨wr.heap.size + 1, 0, none⟩)))
  have hsc := (h.since.setCell (a := ⟨S, k, none⟩) (Nat.le_refl S) (.pointer (some ⟨wr.heap.size, 0, none⟩))).setCell (a := ⟨S + 1, k, none⟩) (by show S ≤ S + 1; omega) (.iface 50 (.pointer (some ⟨wr.heap.size + 1, 0, none⟩)))
  have hc : ∀ b o, S + 2 ≤ b → ((wr.setCell ⟨S, k, none⟩ (.pointer (some ⟨wr.heap.size, 0, none⟩))).setCell ⟨S + 1, k, none⟩ (.iface 50 (.pointer (some ⟨wr.heap.size + 1, 0, none⟩)))).cell? ⟨b, o, none⟩ = wr.cell? ⟨b, o, none⟩ := fun b o hb => by
    rw [World.cell?_of_block (w := wr) (a := ⟨b, o, none⟩)]
    exact (Deep.blk_setCell_other _ _ _ _ (by show b ≠ S + 1; omega)).trans (Deep.blk_setCell_other _ _ _ _ (by show b ≠ S; omega))
  generalize (wr.setCell ⟨S, k, none⟩ (.pointer (some ⟨wr.heap.size, 0, none⟩))).setCell ⟨S + 1, k, none⟩ (.iface 50 (.pointer (some ⟨wr.heap.size + 1, 0, none⟩))) = wx at hz hr1 hr2 hsc hc ⊢
  have hal : wx.Since wx.heap.size ((wx.alloc (.cells c 49)).alloc (.cells #[.nilIface, .pointer (some ⟨wr.heap.size, 0, none⟩)] 54)) := ((World.Since.refl _ _).alloc (Nat.le_refl _) _).alloc (by simp) _
  have hold : ∀ b o v, b < wr.heap.size → S + 2 ≤ b → wr.cell? ⟨b, o, none⟩ = some v → ((wx.alloc (.cells c 49)).alloc (.cells #[.nilIface, .pointer (some ⟨wr.heap.size, 0, none⟩)] 54)).cell? ⟨b, o, none⟩ = some v := fun b o v hb hS hv => by
    rw [hal.cell (a := ⟨b, o, none⟩) (by show b < _; omega), hc b o hS, hv]
  have hn1 : ∀ o, ((wx.alloc (.cells c 49)).alloc (.cells #[.nilIface, .pointer (some ⟨wr.heap.size, 0, none⟩)] 54)).cell? ⟨wr.heap.size, o, none⟩ = c[o]? := fun o => by
    have e : ((wx.alloc (.cells c 49)).alloc (.cells #[.nilIface, .pointer (some ⟨wr.heap.size, 0, none⟩)] 54)).heap[wr.heap.size]? = some (.cells c 49 (0, 0)) := by
      rw [← hz]; exact (Deep.blk_alloc_lt _ _ _ (by simp)).trans (Deep.blk_alloc_new _ _)
    simp only [World.cell?, e]
    rfl
  have hn2 : ((wx.alloc (.cells c 49)).alloc (.cells #[.nilIface, .pointer (some ⟨wr.heap.size, 0, none⟩)] 54)).cell? ⟨wr.heap.size + 1, 1, none⟩ = some (.pointer (some ⟨wr.heap.size, 0, none⟩)) := by
    have e : ((wx.alloc (.cells c 49)).alloc (.cells #[.nilIface, .pointer (some ⟨wr.heap.size, 0, none⟩)] 54)).heap[wr.heap.size + 1]? = some (.cells #[.nilIface, .pointer (some ⟨wr.heap.size, 0, none⟩)] 54 (0, 0)) := by
      rw [show wr.heap.size + 1 = (wx.alloc (.cells c 49)).heap.size from by simp [hz]]; exact Deep.blk_alloc_new _ _
    simp only [World.cell?, e]
    rfl
  refine ⟨(hsc.alloc (by omega) _).alloc (by simp; omega) _, by simp; omega, ((hr1.alloc _).alloc _).congr ?_, ((hr2.alloc _).alloc _).congr ?_, ?_, ?_, ?_⟩
  · intro i hi
    by_cases e : i = k
    · subst e; simp [hs]
    · by_cases e2 : i < k
      · simp [e, e2, show i < k + 1 from by omega]
      · simp [e, e2, show ¬ i < k + 1 from by omega]
  · intro i hi
    by_cases e : i = k
    · subst e; simp [hs]
    · by_cases e2 : i < k
      · simp [e, e2, show i < k + 1 from by omega]
      · simp [e, e2, show ¬ i < k + 1 from by omega]
  · intro j hj
    by_cases e : j = k
    · subst e
      rw [show S + 3 + 2 * j = wr.heap.size + 1 from by omega, hn2, show wr.heap.size = S + 2 + 2 * j from hs]
    · exact hold _ _ _ (by omega) (by omega) (h.mem j (by omega))
  · intro j hj
    by_cases e : j = k
    · subst e
      rw [show S + 2 + 2 * j = wr.heap.size from by omega, hn1, h1]
    · exact hold _ _ _ (by omega) (by omega) (h.self j (by omega))
  · intro j hj
    by_cases e : j = k
    · subst e
      rw [show S + 2 + 2 * j = wr.heap.size from by omega, hn1, h26]
    · exact hold _ _ _ (by omega) (by omega) (h.left j (by omega))


theorem addr_add (b o j : Nat) : (⟨b, o, none⟩ : Addr).add j = ⟨b, o + j, none⟩ := by unfold Addr.add; split <;> simp_all
theorem size4 : (Yba.prog.info? 4).map (·.size) = some 1 := by kernel_rfl
def boolRow (z1 : List Bool) (len1 : Nat) : List Value := (List.range len1).map (fun i => Value.bool (z1.getD i false))
theorem boolRow_length (z1 : List Bool) (len1 : Nat) : (boolRow z1 len1).length = len1 := by simp [boolRow]
theorem boolRow_get {z1 : List Bool} {len1 j : Nat} {v : Value} (h : (boolRow z1 len1)[j]? = some v) : j < len1 ∧ v = .bool (z1.getD j false) := by
  unfold boolRow at h
  obtain ⟨hj, he⟩ := List.getElem?_eq_some_iff.1 h
  simp at hj he
  exact ⟨hj, by simpa using he.symm⟩
theorem boolRow_at {z1 : List Bool} {len1 j : Nat} (h : j < len1) : (boolRow z1 len1)[j]? = some (.bool (z1.getD j false)) := by
  simp [boolRow, h]
theorem Since_of_below {B : Nat} {w w' : World} (h : RowKit.Below B w w') : w.Since B w' := ⟨h.os, h.tape, h.output, h.size, h.block⟩
theorem Below_of_since {B : Nat} {w w' : World} (h : w.Since B w') : RowKit.Below B w w' := ⟨h.os, h.tape, h.output, h.size, h.block⟩

def selfOf (len2 : Nat) (z2 : List Int) (i : Nat) : Nat := if i < len2 then (z2.getD i 0).toNat else i


theorem copy_bools (wr : World) (ad : Addr) (len1 cap1 : Nat) (z1 : List Bool) (h : At wr (some ad) len1 (fun i => .bool (z1.getD i false))) :
    ∃ w4, (Builtin.copy_ #[22, 22] 3 #[.slice (some ⟨wr.heap.size, 0, none⟩) len1 len1, .slice (some ad) len1 cap1]).run Yba.prog (wr.alloc (.cells (madeCells #[.bool false] len1) 4)) = .ok (.int .i64 len1) w4 ∧
      Hid (At w4 (some ⟨wr.heap.size, 0, none⟩) len1 (fun i => .bool (z1.getD i false))) ∧ wr.Since wr.heap.size w4 := by
  have hal : wr.Since wr.heap.size (wr.alloc (.cells (madeCells #[.bool false] len1) 4)) := (World.Since.refl _ _).alloc (Nat.le_refl _) _
  have hg : (wr.alloc (.cells (madeCells #[.bool false] len1) 4)).heap[wr.heap.size]? = some (.cells (madeCells #[.bool false] len1) 4 (0, 0)) := Deep.blk_alloc_new _ _
  have hml : (madeCells #[Value.bool false] len1).size = len1 := size_madeCells _ _
  have h1c : ∀ v ∈ boolRow z1 len1, v.oneCell' = true := fun v hv => by
    obtain ⟨j, hj, rfl⟩ := List.mem_iff_getElem.1 hv
    obtain ⟨_, e⟩ := boolRow_get (List.getElem?_eq_getElem hj)
    rw [e]; rfl
  have hr := run_copy_row (P := Yba.prog) (wr.alloc (.cells (madeCells #[.bool false] len1) 4)) 22 22 3 4 wr.heap.size 0 len1 len1 ad len1 cap1 _ 4 (boolRow z1 len1) Yba.underlying22 size4 hg (by rw [boolRow_length]; exact (Nat.min_self _).symm) (fun j v hv => by
    obtain ⟨hj, rfl⟩ := boolRow_get hv
    obtain ⟨b, off, e, hc⟩ := h j hj
    cases e
    rw [addr_add]
    exact (hal.cell (a := ⟨b, off + j, none⟩) (lt_of_cell hc)).trans hc) (by rw [hml, boolRow_length]; omega) h1c
  rw [boolRow_length] at hr
  refine ⟨_, hr, fun i hi => ⟨wr.heap.size, 0, rfl, ?_⟩, hal.trans ⟨rfl, rfl, rfl, by simp [World.setRow], fun k hk => setRow_other _ _ _ _ (by omega)⟩⟩
  rw [cell_setRow_same _ _ _ _ _ _ _ hg]
  have hd : (madeCells #[Value.bool false] len1).toList.drop (0 + len1) = [] := List.drop_eq_nil_of_le (by rw [Array.length_toList, hml]; omega)
  rw [hd]
  simp only [List.take_zero, List.nil_append, Nat.zero_add, List.append_nil, List.getElem?_toArray]
  exact boolRow_at hi

theorem info49 : (Yba.prog.info? 49).isSome = true := by kernel_rfl
theorem neq_same (a : Addr) (w : World) : (binOp .neq 26 (.pointer (some a)) (.pointer (some a))).run Yba.prog w = .ok (.bool false) w := by
  obtain ⟨j, hj⟩ := Option.isSome_iff_exists.1 info49
  have h : ∀ d : Nat, (Op.equalIn (d + 1) 26 (.pointer (some a)) (.pointer (some a))).run Yba.prog w = .ok true w := fun d => by
    simp [Op.equalIn, run_underlying Yba.underlying26, sizeOf, typeInfo, hj, run_sameAddr_same]
  simp only [binOp]
  simp [Op.equal, Op.maxDepth, h 9999]

theorem filt_get (kp : Nat → Bool) (i : Nat) (hi : kp i = true) : ∀ n, i < n → (filt kp n)[(filt kp i).length]? = some i
  | 0, h => by omega
  | n + 1, h => by
    rw [filt_succ]
    by_cases e : i = n
    · subst e; simp [hi]
    · have ih := filt_get kp i hi n (by omega)
      have hl := (List.getElem?_eq_some_iff.1 ih).1
      rw [List.getElem?_append_left hl]; exact ih
theorem selfOf_le (len2 : Nat) (z2 : List Int) (h : ∀ j, j < len2 → (Lit.int .u8 (z2.getD j 0)).wf = true) (i : Nat) (hi : i ≤ 1024) : selfOf len2 z2 i ≤ 1024 := by
  unfold selfOf
  split
  · rename_i h'
    have := bounds_u8 (h i h')
    omega
  · exact hi

set_option maxRecDepth 100000 in
set_option maxHeartbeats 2000000 in
theorem filter_walk (a0 : Option Addr) (len0 cap0 : Nat) (z0 : List Bool) (a1 : Option Addr) (len1 cap1 : Nat) (z1 : List Bool) (a2 : Option Addr) (len2 cap2 : Nat) (z2 : List Int) (rep : Bool) (w : World)
    (h0 : At w a0 len0 (fun i => .bool (z0.getD i false))) (h1 : At w a1 len1 (fun i => .bool (z1.getD i false))) (h2 : At w a2 len2 (fun i => .int .u8 (z2.getD i 0))) (hwf2 : ∀ j, j < len2 → (Lit.int .u8 (z2.getD j 0)).wf = true) (hn1 : a1 = none → len1 = 0 ∧ cap1 = 0) :
    Calls Yba.prog 3 #[.slice a0 len0 cap0, .slice a1 len1 cap1, .slice a2 len2 cap2, .bool rep] w fun e w' => e = .returned (.bool true) ∧ w.Since w.heap.size w' := by
  by_cases hl0 : 1024 < len0
  · have hl0' : (1024 : Int) < (len0 : Int) := by omega
    go_enter Yba.func3, Yba.ntmps3
    go_wp2
    go_ret
    exact ⟨rfl, World.Since.refl _ _⟩
  by_cases hl1 : 1024 < len1
  · have hl0' : (len0 : Int) ≤ 1024 := by omega
    have hl1' : (1024 : Int) < (len1 : Int) := by omega
    go_enter Yba.func3, Yba.ntmps3
    go_wp2
    go_ret
    exact ⟨rfl, World.Since.refl _ _⟩
  by_cases hl2 : 1024 < len2
  · have hl0' : (len0 : Int) ≤ 1024 := by omega
    have hl1' : (len1 : Int) ≤ 1024 := by omega
    have hl2' : (1024 : Int) < (len2 : Int) := by omega
    go_enter Yba.func3, Yba.ntmps3
    go_wp2
    go_ret
    exact ⟨rfl, World.Since.refl _ _⟩
  have hl0' : (len0 : Int) ≤ 1024 := by omega
  have hl1' : (len1 : Int) ≤ 1024 := by omega
  have hl2' : (len2 : Int) ≤ 1024 := by omega
  have H0 : Hid (At w a0 len0 (fun i => .bool (z0.getD i false))) := h0
  have H1 : Hid (At w a1 len1 (fun i => .bool (z1.getD i false))) := h1
  have H2 : Hid (At w a2 len2 (fun i => .int .u8 (z2.getD i 0))) := h2
  have HW : Hid (∀ j, j < len2 → (Lit.int .u8 (z2.getD j 0)).wf = true) := hwf2
  have HN : Hid (a1 = none → len1 = 0 ∧ cap1 = 0) := hn1
  clear h0 h1 h2 hwf2 hn1
  have hmk1 := fun w => run_make_row' (P := Yba.prog) 24 26 (.pointer none) 8 Yba.underlying24 info26 rfl .i64 .i64 len0 (by omega) (by omega) w
  have hmk2 := fun w => run_make_row' (P := Yba.prog) 25 52 .nilIface 16 Yba.underlying25 info52 rfl .i64 .i64 len0 (by omega) (by omega) w
  have hst := Built.start w len0 (fun i => z0.getD i false) (selfOf len2 z2)
  go_enter Yba.func3, Yba.ntmps3
  go_wp2
  clear hmk1 hmk2
  generalize (w.alloc (.cells (madeCells #[.pointer none] len0) 26)).alloc (.cells (madeCells #[.nilIface] len0) 52) = w2 at hst ⊢
  generalize hS : w.heap.size = S at hst ⊢
  go_loopw [12, 13] (fun iv _ wr => ∃ k : Nat, k ≤ len0 ∧ iv = .int .i64 k ∧ Built S len0 (fun i => z0.getD i false) (selfOf len2 z2) w k wr) (fun iv _ _ => len0 - (intOf iv).toNat)
  case atStart => exact ⟨0, Nat.zero_le _, rfl, hst⟩
  case round =>
    obtain ⟨k, hk, rfl, hB⟩ := hrel
    by_cases hlt : k < len0
    · have hlt' : (k : Int) < (len0 : Int) := by omega
      obtain ⟨b0, off0, rfl, hc0⟩ := H0.out k hlt
      have hx := (hB.since.cell (a := ⟨b0, off0 + k, none⟩) (by rw [← hS]; exact lt_of_cell hc0)).trans hc0
      have lt1 : S < wr.heap.size := hB.ps.lt
      have lt2 : S + 1 < wr.heap.size := hB.peers.lt
      have hb0 : b0 < S := by rw [← hS]; exact lt_of_cell hc0
      have kp : ∀ o, wr.Since wr.heap.size (wr.alloc o) := fun o => (World.Since.refl wr.heap.size wr).alloc (Nat.le_refl _) o
      have hx1 : ∀ o, (wr.alloc o).cell? ⟨b0, off0 + k, none⟩ = some (.bool (z0.getD k false)) := fun o => ((kp o).cell (a := ⟨b0, off0 + k, none⟩) (by show b0 < _; omega)).trans hx
      have f1 : ∀ o, (wr.alloc o).frozen? ⟨S, k, none⟩ = false := fun o => (hB.ps.alloc o).frozen k
      have g1 : ∀ o, (wr.alloc o).cell? ⟨S, k, none⟩ = some (.pointer none) := fun o => ((hB.ps.alloc o).cell hlt).trans (by simp)
      have r2 : ∀ o t o', (((wr.setCell ⟨S, k, none⟩ t).alloc o).alloc o').rowIs (S + 1) 52 len0 (fun j => if j < k then .iface 50 (.pointer (some ⟨S + 3 + 2 * j, 0, none⟩)) else .nilIface) := fun o t o' => ((hB.peers.setOther (a := ⟨S, k, none⟩) (by show S + 1 ≠ S; omega) t).alloc o).alloc o'
      have f2 : ∀ o t o', (((wr.setCell ⟨S, k, none⟩ t).alloc o).alloc o').frozen? ⟨S + 1, k, none⟩ = false := fun o t o' => (r2 o t o').frozen k
      have g2 : ∀ o t o', (((wr.setCell ⟨S, k, none⟩ t).alloc o).alloc o').cell? ⟨S + 1, k, none⟩ = some .nilIface := fun o t o' => ((r2 o t o').cell hlt).trans (by simp)
      have hB' : Hid (Built S len0 (fun i => z0.getD i false) (selfOf len2 z2) w k wr) := hB
      have hy : ∀ b off, a2 = some ⟨b, off, none⟩ → wr.cell? ⟨b, off + k, none⟩ = some (.int .u8 (z2.getD k 0)) → ∀ o, (wr.alloc o).cell? ⟨b, off + k, none⟩ = some (.int .u8 (z2.getD k 0)) := fun b off _ h o => ((kp o).cell (a := ⟨b, off + k, none⟩) (lt_of_cell h)).trans h
      have HY : Hid (∀ b off, a2 = some ⟨b, off, none⟩ → w.cell? ⟨b, off + k, none⟩ = some (.int .u8 (z2.getD k 0)) → ∀ o, (wr.alloc o).cell? ⟨b, off + k, none⟩ = some (.int .u8 (z2.getD k 0))) := fun b off e h => hy b off e ((hB.since.cell (a := ⟨b, off + k, none⟩) (by rw [← hS]; exact lt_of_cell h)).trans h)
      have HL : Hid (z0.getD k false = z0.getD k false) := rfl
      clear hB hx hc0 kp r2 hy
      generalize hlk : z0.getD k false = lk at hx1 HL
      by_cases hk2 : k < len2
      · have hk2' : (k : Int) < (len2 : Int) := by omega
        obtain ⟨b2, off2, rfl, hc2⟩ := H2.out k hk2
        have hy := HY.out b2 off2 rfl hc2
        obtain ⟨hy0, hy1⟩ := bounds_u8 (HW.out k hk2)
        have HS : Hid (selfOf len2 z2 k = (z2.getD k 0).toNat) := if_pos hk2
        clear hc2 HY
        generalize z2.getD k 0 = y at hy hy0 hy1 HS
        go_wp2
        go_roundw
        case rel => exact ⟨k + 1, by omega, by go_num, hB'.out.next _ (by rw [HS.out]; simp; omega) (by rw [← hlk]; rfl)⟩
        case measure => simp [intOf]; omega
      · have hk2' : ¬ (k : Int) < (len2 : Int) := by omega
        have HS : Hid (selfOf len2 z2 k = k) := if_neg hk2
        go_wp2
        go_roundw
        case rel => exact ⟨k + 1, by omega, by go_num, hB'.out.next _ (by rw [HS.out]; rfl) (by rw [← hlk]; rfl)⟩
        case measure => simp [intOf]; omega
    · obtain rfl : k = len0 := by omega
      have hk0 : ¬ (k : Int) < (k : Int) := by omega
      have hB' : Hid (Built S k (fun i => z0.getD i false) (selfOf len2 z2) w k wr) := hB
      have q22 : ∀ (w : World) (a : Option Addr) (n c n' c' : Nat), (binOp .neq 22 (.slice a n c) (.slice none n' c')).run Yba.prog w = .ok (.bool (!a.isNone)) w := fun w a n c n' c' => run_neq_slice_nil_any w _ _ a n c n' c' Yba.underlying22
      have hmk := fun w => run_make_row' (P := Yba.prog) 22 4 (.bool false) 1 Yba.underlying22 info4 rfl .i64 .i64 len1 (by omega) (by omega) w
      clear hB
      go_upto_if 82 with fail
      go_cut [14] (fun stv wc => ∃ aS cS, stv = .slice aS len1 cS ∧ Hid (At wc aS len1 (fun i => .bool (z1.getD i false))) ∧ wr.Since wr.heap.size wc)
      case first =>
        cases ha1 : a1 with
        | none =>
          subst ha1
          obtain ⟨rfl, rfl⟩ := HN.out rfl
          go_wp2
          go_meet
          case rel => exact ⟨none, 0, rfl, fun i hi => by omega, World.Since.refl _ _⟩
        | some ad =>
          subst ha1
          obtain ⟨w4, hcp, hH, hs4⟩ := copy_bools wr ad len1 cap1 z1 (fun i hi => by
            obtain ⟨b, off, e, hc⟩ := H1.out i hi
            exact ⟨b, off, e, (hB'.out.since.cell (a := ⟨b, off + i, none⟩) (by rw [← hS]; exact lt_of_cell hc)).trans hc⟩)
          go_wp2
          go_meet
          case rel => exact ⟨some ⟨wr.heap.size, 0, none⟩, len1, rfl, hH, hs4⟩
      case rest =>
        obtain ⟨aS, cS, rfl, hA, hsc⟩ := hcut
        clear q22 hmk
        have hal : ∀ o o', wc.Since wc.heap.size ((wc.alloc o).alloc o') := fun o o' => ((World.Since.refl _ _).alloc (Nat.le_refl _) o).alloc (by simp) o'
        have hsz0 := hB'.out.size
        have hN : ∀ c c' : Array Value, c[0]? = some (.slice (some ⟨S + 1, 0, none⟩) k k) → c[55]? = some (.slice aS len1 cS) → c'[2]? = some (.pointer (some ⟨wc.heap.size, 0, none⟩)) → c'[11]? = some (.bool rep) →
            Net ((wc.alloc (.cells c 59)).alloc (.cells c' 66)) (wc.heap.size + 1) wc.heap.size (S + 1) k (fun i => z0.getD i false) (selfOf len2 z2) (fun j => S + 3 + 2 * j) (fun j => S + 2 + 2 * j) aS len1 cS z1 rep := fun c c' e1 e2 e3 e4 => by
          have n1 : ∀ o, ((wc.alloc (.cells c 59)).alloc (.cells c' 66)).cell? ⟨wc.heap.size, o, none⟩ = c[o]? := fun o => by
            have e : ((wc.alloc (.cells c 59)).alloc (.cells c' 66)).heap[wc.heap.size]? = some (.cells c 59 (0, 0)) := (Deep.blk_alloc_lt _ _ _ (by simp)).trans (Deep.blk_alloc_new _ _)
            simp only [World.cell?, e]; rfl
          have n2 : ∀ o, ((wc.alloc (.cells c 59)).alloc (.cells c' 66)).cell? ⟨wc.heap.size + 1, o, none⟩ = c'[o]? := fun o => by
            have e : ((wc.alloc (.cells c 59)).alloc (.cells c' 66)).heap[wc.heap.size + 1]? = some (.cells c' 66 (0, 0)) := by
              rw [show wc.heap.size + 1 = (wc.alloc (.cells c 59)).heap.size from by simp]; exact Deep.blk_alloc_new _ _
            simp only [World.cell?, e]; rfl
          have old : ∀ b o v, wr.cell? ⟨b, o, none⟩ = some v → ((wc.alloc (.cells c 59)).alloc (.cells c' 66)).cell? ⟨b, o, none⟩ = some v := fun b o v h => since_cell (hal _ _) (since_cell hsc h)
          exact ⟨(n2 2).trans e3, (n2 11).trans e4, (n1 0).trans e1, (n1 55).trans e2, fun i hi => by obtain ⟨b, off, e, hc⟩ := hA.out i hi; exact ⟨b, off, e, since_cell (hal _ _) hc⟩,
            fun j hj => old _ _ _ ((hB'.out.peers.cell hj).trans (by simp [hj])), fun j hj => old _ _ _ (hB'.out.mem j hj), fun j hj => old _ _ _ (hB'.out.self j hj), fun j hj => old _ _ _ (hB'.out.left j hj)⟩
        have hps : ∀ c c' : Array Value, Hid (((wc.alloc (.cells c 59)).alloc (.cells c' 66)).rowIs S 26 k (fun j => .pointer (some ⟨S + 2 + 2 * j, 0, none⟩))) := fun c c' =>
          (((hB'.out.ps.of_block (hsc.block S hB'.out.ps.lt)).alloc _).alloc _).congr (fun i hi => by simp [hi])
        have hsw : ∀ o o', w.Since S ((wc.alloc o).alloc o') := fun o o' => ((hB'.out.since.trans ⟨hsc.os, hsc.tape, hsc.output, hsc.size, fun j hj => hsc.block j (by omega)⟩).alloc (by have := hsc.size; omega) o).alloc (by have := hsc.size; simp; omega) o'
        go_wp2_with fail
        refine (members_walk _ _ _ k _ _ _ _ aS len1 cS z1 rep _ (by omega) (by omega) ?_ (hN _ _ rfl rfl rfl rfl)).mono ?_
        · exact fun j hj => selfOf_le len2 z2 HW.out j (by omega)
        rintro e w6 ⟨rfl, hs6, hrow6⟩
        have eG : ∀ o o', ((wc.alloc o).alloc o').heap.size = wc.heap.size + 2 := fun o o' => by simp
        have hcs := hsc.size
        have nt6 : Hid (Net w6 (wc.heap.size + 1) wc.heap.size (S + 1) k (fun i => z0.getD i false) (selfOf len2 z2) (fun j => S + 3 + 2 * j) (fun j => S + 2 + 2 * j) aS len1 cS z1 rep) := (hN _ _ rfl rfl rfl rfl).since hs6
        have ps6 : Hid (w6.rowIs S 26 k (fun j => .pointer (some ⟨S + 2 + 2 * j, 0, none⟩))) := (hps _ _).out.of_block (hs6.block S (by rw [eG]; omega))
        have sw6 : w.Since S w6 := (hsw _ _).trans ⟨hs6.os, hs6.tape, hs6.output, hs6.size, fun j hj => hs6.block j (by rw [eG]; omega)⟩
        rw [eG] at hrow6 ⊢
        clear hs6 hN hps hsw hal eG
        have HK : Hid (∀ i, keeps (fun i => z0.getD i false) (selfOf len2 z2) len1 z1 rep i = (!(z0.getD i false) && (!rep || !(decide (selfOf len2 z2 i < len1) && z1.getD (selfOf len2 z2 i) false)))) := fun i => rfl
        generalize keeps (fun i => z0.getD i false) (selfOf len2 z2) len1 z1 rep = kp at hrow6 HK ⊢
        have hfl := filt_length kp k
        have hmeth := method_base
        have hneq := neq_same
        go_wp2
        go_loopw [17, 18, 19, 20] (fun kv iv _ _ wr => ∃ i : Nat, i ≤ k ∧ iv = .int .i64 i ∧ kv = .int .i64 (filt kp i).length ∧ w6.Since w6.heap.size wr) (fun _ iv _ _ _ => k - (intOf iv).toNat)
        case atStart => exact ⟨0, Nat.zero_le _, rfl, rfl, World.Since.refl _ _⟩
        case round =>
          obtain ⟨i, hi, rfl, rfl, hsr⟩ := hrel
          by_cases hik : i < k
          · have hik' : (i : Int) < (k : Int) := by omega
            have nt := nt6.out.since hsr
            have c1 : wr.cell? ⟨S, i, none⟩ = some (.pointer (some ⟨S + 2 + 2 * i, 0, none⟩)) := since_cell hsr (ps6.out.cell hik)
            have c2 := nt.self i hik
            obtain ⟨b0, off0, rfl, hc0⟩ := H0.out i hik
            have sww : w.Since w.heap.size wr := (⟨sw6.os, sw6.tape, sw6.output, sw6.size, fun j hj => sw6.block j (by omega)⟩ : w.Since w.heap.size w6).trans ⟨hsr.os, hsr.tape, hsr.output, hsr.size, fun j hj => hsr.block j (by have := sw6.size; omega)⟩
            have hx : wr.cell? ⟨b0, off0 + i, none⟩ = some (.bool (z0.getD i false)) := since_cell sww hc0
            have hkp := HK.out i
            have HF : Hid (filt kp (i + 1) = filt kp i ++ (if kp i then [i] else [])) := filt_succ kp i
            have hfi := filt_length kp i
            have hq1 := selfOf_le len2 z2 HW.out i (by omega)
            have HO : Hid (kp i = true → w6.cell? ⟨wc.heap.size + 2, (filt kp i).length, none⟩ = some (.iface 50 (.pointer (some ⟨S + 3 + 2 * i, 0, none⟩))) ∧ (filt kp i).length < (filt kp k).length) := fun h => by
              have hg := filt_get kp i h k hik
              have hl := (List.getElem?_eq_some_iff.1 hg).1
              exact ⟨(hrow6.cellAt _ (by omega)).trans (by rw [List.getElem?_map, hg]; rfl), hl⟩
            have hbw := base_walk _ _ wr (nt.mem i hik)
            generalize selfOf len2 z2 i = q at c2 hkp hq1
            have HD : Hid (∀ b off, a1 = some ⟨b, off, none⟩ → w.cell? ⟨b, off + q, none⟩ = some (.bool (z1.getD q false)) → wr.cell? ⟨b, off + q, none⟩ = some (.bool (z1.getD q false))) := fun b off _ h => since_cell sww h
            clear hc0 nt
            have HZ1 : Hid (q < len1 → (decide (q < len1) && z1.getD q false) = z1.getD q false) := fun h => by simp [h]
            have HZ0 : Hid (¬ q < len1 → (decide (q < len1) && z1.getD q false) = false) := fun h => by simp [h]
            generalize (decide (q < len1) && z1.getD q false) = dd at hkp HZ1 HZ0
            have HKP : Hid (kp i = (!(z0.getD i false) && (!rep || !dd))) := hkp
            generalize z0.getD i false = lk at hx HKP
            have cB : wr.cell? ⟨S + 3 + 2 * i, 1, none⟩ = some (.pointer (some ⟨S + 2 + 2 * i, 0, none⟩)) := since_cell hsr (nt6.out.mem i hik)
            have HC : Hid (kp i = true → wr.cell? ⟨wc.heap.size + 2, (filt kp i).length, none⟩ = some (.iface 50 (.pointer (some ⟨S + 3 + 2 * i, 0, none⟩))) ∧ (filt kp i).length < (filt kp k).length) := fun h => ⟨since_cell hsr (HO.out h).1, (HO.out h).2⟩
            clear hkp HO hrow6 hst hbw
            go_upto_region 27 with fail
            go_cut [20] (fun dv wx => dv = .bool dd ∧ wr = wx)
            case first =>
              by_cases hq : q < len1
              · have hq' : (q : Int) < (len1 : Int) := by omega
                obtain ⟨b1, off1, rfl, hc1⟩ := H1.out q hq
                have hd := HD.out b1 off1 rfl hc1
                have HZ : Hid (dd = z1.getD q false) := HZ1.out hq
                clear hc1 HD
                generalize z1.getD q false = dn at hd HZ
                go_wp2
                go_meet
                case rel => exact ⟨by rw [HZ.out], rfl⟩
              · have hq' : ¬ (q : Int) < (len1 : Int) := by omega
                have HZ : Hid (dd = false) := HZ0.out hq
                clear HD
                go_wp2
                go_meet
                case rel => exact ⟨by rw [HZ.out], rfl⟩
            case rest =>
              obtain ⟨rfl, hw⟩ := hcut
              subst hw
              clear HZ1 HZ0 HD H0 H1 H2
              generalize hkk : kp i = kk at HKP HF HC
              clear hkk
              cases lk
              · cases hrp : rep
                · subst hrp
                  have hk1 : kk = true := by rw [HKP.out]; rfl
                  subst hk1
                  obtain ⟨hcell, hless⟩ := HC.out rfl
                  clear HC HKP
                  have hless' : ¬ ((filt kp k).length : Int) ≤ ((filt kp i).length : Int) := by omega
                  go_upto_region 31 with fail
                  go_quiet (refine Calls.quiet_of_same (base_walk _ _ _ cB))
                  have sdr : w6.Since w6.heap.size (wr.drewN nq) := ⟨hsr.os, hsr.tape, hsr.output, hsr.size, hsr.block⟩
                  go_wp2
                  go_roundw
                  case rel => exact ⟨i + 1, by omega, by go_num, by rw [HF.out]; simp, sdr⟩
                  case measure => simp [intOf]; omega
                · subst hrp
                  cases dd
                  · have hk1 : kk = true := by rw [HKP.out]; rfl
                    subst hk1
                    obtain ⟨hcell, hless⟩ := HC.out rfl
                    clear HC HKP
                    have hless' : ¬ ((filt kp k).length : Int) ≤ ((filt kp i).length : Int) := by omega
                    go_upto_region 31 with fail
                    go_quiet (refine Calls.quiet_of_same (base_walk _ _ _ cB))
                    have sdr : w6.Since w6.heap.size (wr.drewN nq) := ⟨hsr.os, hsr.tape, hsr.output, hsr.size, hsr.block⟩
                    go_wp2
                    go_roundw
                    case rel => exact ⟨i + 1, by omega, by go_num, by rw [HF.out]; simp, sdr⟩
                    case measure => simp [intOf]; omega
                  · have hk1 : kk = false := by rw [HKP.out]; rfl
                    subst hk1
                    clear HC HKP
                    go_wp2
                    go_roundw
                    case rel => exact ⟨i + 1, by omega, by go_num, by rw [HF.out]; simp, hsr⟩
                    case measure => simp [intOf]; omega
              · have hk1 : kk = false := by rw [HKP.out]; rfl
                subst hk1
                clear HC HKP
                go_wp2
                go_roundw
                case rel => exact ⟨i + 1, by omega, by go_num, by rw [HF.out]; simp, hsr⟩
                case measure => simp [intOf]; omega
          · obtain rfl : i = k := by omega
            have hik' : ¬ (i : Int) < (i : Int) := by omega
            have hfin : w.Since w.heap.size wr := (⟨sw6.os, sw6.tape, sw6.output, sw6.size, fun j hj => sw6.block j (by omega)⟩ : w.Since w.heap.size w6).trans ⟨hsr.os, hsr.tape, hsr.output, hsr.size, fun j hj => hsr.block j (by have := sw6.size; omega)⟩
            clear HK hst sw6 hrow6 hsr
            generalize (filt kp i).length = m at hfl ⊢
            go_wp2
            go_ret
            exact ⟨rfl, hS ▸ hfin⟩
end Go.Proofs.Ybulkaatq
