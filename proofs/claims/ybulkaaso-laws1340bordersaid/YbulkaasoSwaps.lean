/-
  BOrder: the walks of swapRangeCmpFunc (16) and rotateCmpFunc (15). Own work of this seat.
-/
import Derived.Test.YbulkaasoRows
import Derived.Test.YbulkaasoPlain2
import Derived.WalkKit
import Derived.ProofKit
import Derived.Below
import Derived.WalkSpells
import Derived.WalkSmall
import Derived.WalkLawsBesides
import Derived.Deep.DeepCutAuto
import Derived.Deep.Light
import Derived.RegionTactic
import Derived.ChangeAlike
import Derived.BigRegion
import Derived.Deep.QuietTactic
import Derived.BigQuiet
import Derived.Deep.OwnRows
import Derived.Deep.RegionHeld3
import Derived.OwnWalk
import Derived.OpenShut
import Derived.Shelf.SlSortCmp.QuietGrown
namespace Go.Proofs.Ybulkaaso
open Go.ChangeShapes Go.WideShapes Go.ChangeAt Go.RowKit Go.Sort

/-- the row of pointers that is being sorted, block g: at place k the pointer to the d k-th error; all else that was there in W is as it was -/
structure St (W : World) (g n : Nat) (E : Nat → Nat) (d : Nat → Nat) (w : World) : Prop where
  kept : W.grownBy w (some g)
  row : w.rowIs g 38 n (fun k => .pointer (some ⟨E (d k), 0, none⟩))

theorem St.swap {W : World} {g n : Nat} {E d : Nat → Nat} {w : World} (h : St W g n E d w) (i j : Nat) :
    St W g n E (swp d i j) ((w.setCell ⟨g, i, none⟩ (.pointer (some ⟨E (d j), 0, none⟩))).setCell ⟨g, j, none⟩ (.pointer (some ⟨E (d i), 0, none⟩))) where
  kept := ⟨h.kept.os, h.kept.tape, h.kept.output, by rw [Deep.nblk_setCell, Deep.nblk_setCell]; exact h.kept.size, fun k hk hne => by
    rw [Deep.blk_setCell_other _ _ _ _ (by intro e; exact hne (by rw [e])), Deep.blk_setCell_other _ _ _ _ (by intro e; exact hne (by rw [e]))]
    exact h.kept.block k hk hne⟩
  row := ((h.row.set i _).set j _).congr (fun k hk => by
    unfold swp
    by_cases e1 : k = i
    · subst e1
      by_cases e2 : k = j
      · subst e2; simp
      · simp [e2]
    · by_cases e2 : k = j
      · simp [e2]
        split <;> simp_all
      · simp [e1, e2])

theorem St.drew {W : World} {g n : Nat} {E d : Nat → Nat} {w : World} (h : St W g n E d w) : St W g n E d w.drew := ⟨⟨h.kept.os, h.kept.tape, h.kept.output, h.kept.size, h.kept.block⟩, h.row⟩
theorem St.drewN {W : World} {g n : Nat} {E d : Nat → Nat} {w : World} (h : St W g n E d w) (m : Nat) : St W g n E d (w.drewN m) := ⟨⟨h.kept.os, h.kept.tape, h.kept.output, h.kept.size, h.kept.block⟩, h.row⟩
theorem St.grow {W : World} {g n : Nat} {E d : Nat → Nat} {w : World} (h : St W g n E d w) (os : Array Obj) : St W g n E d (Sort.grow w os) :=
  ⟨⟨h.kept.os, h.kept.tape, h.kept.output, by have := h.kept.size; simp; omega, fun k hk hne => by rw [heap_grow_old _ _ (by have := h.kept.size; omega)]; exact h.kept.block k hk hne⟩, h.row.of_block (heap_grow_old _ _ h.row.lt)⟩

set_option maxRecDepth 100000 in
set_option maxHeartbeats 2000000 in
theorem swapRange_walk (W : World) (g n : Nat) (E : Nat → Nat) (cap x y K : Nat) (d : Nat → Nat) (fv : Value) (w : World) (h : St W g n E d w) (hxy : x + K ≤ y) (hyn : y + K ≤ n) (hn : n ≤ 300) :
    Calls Yba.prog 16 #[.slice (some ⟨g, 0, none⟩) n cap, .int .i64 x, .int .i64 y, .int .i64 K, fv] w fun e w' => e = .returned (.tuple #[]) ∧ ∃ f, SwapR x y K K d f ∧ St W g n E f w' := by
  go_enter Yba.func16, Yba.ntmps16
  go_wp2
  go_loopw [10] (fun tv wr => ∃ t : Nat, t ≤ K ∧ tv = .int .i64 t ∧ ∃ f, SwapR x y K t d f ∧ St W g n E f wr) (fun tv _ => K - (intOf tv).toNat)
  case atStart => exact ⟨0, Nat.zero_le _, rfl, d, SwapR.start _ _ _ _, h⟩
  case round =>
    obtain ⟨t, ht, rfl, f, hf, hst⟩ := hrel
    by_cases hlt : t < K
    · have hlt' : (t : Int) < (K : Int) := by omega
      have hsw := hst.swap (x + t) (y + t)
      have hfs := hf.step hlt hxy
      have c1 : wr.cell? ⟨g, x + t, none⟩ = some (.pointer (some ⟨E (f (x + t)), 0, none⟩)) := hst.row.cell (by omega)
      have c2 : wr.cell? ⟨g, y + t, none⟩ = some (.pointer (some ⟨E (f (y + t)), 0, none⟩)) := hst.row.cell (by omega)
      have z1 := hst.row.frozen (x + t)
      have z2 := hst.row.frozen (y + t)
      have HS : Hid (SwapR x y K (t + 1) d (swp f (x + t) (y + t)) ∧ St W g n E (swp f (x + t) (y + t)) ((wr.setCell ⟨g, x + t, none⟩ (.pointer (some ⟨E (f (y + t)), 0, none⟩))).setCell ⟨g, y + t, none⟩ (.pointer (some ⟨E (f (x + t)), 0, none⟩)))) := ⟨hfs, hsw⟩
      clear hsw hfs hf hst h
      go_wp2_with fail
      go_region
      go_wp2
      go_roundw
      case rel => exact ⟨t + 1, by omega, by go_num, _, HS.out.1, HS.out.2.drew⟩
      case measure => simp [intOf]; omega
    · obtain rfl : t = K := by omega
      have hk0 : ¬ (t : Int) < (t : Int) := by omega
      go_wp2
      go_end0
      exact ⟨rfl, f, hf, hst⟩

set_option maxRecDepth 100000 in
set_option maxHeartbeats 2000000 in
theorem rotate_walk (W : World) (g n : Nat) (E : Nat → Nat) (cap a m b : Nat) (d : Nat → Nat) (fv : Value) (w : World) (h : St W g n E d w) (ham : a < m) (hmb : m < b) (hbn : b ≤ n) (hn : n ≤ 300) :
    Calls Yba.prog 15 #[.slice (some ⟨g, 0, none⟩) n cap, .int .i64 a, .int .i64 m, .int .i64 b, fv] w fun e w' => e = .returned (.tuple #[]) ∧ ∃ f, Rot a m b d f ∧ St W g n E f w' := by
  go_enter Yba.func15, Yba.ntmps15
  go_wp2
  go_loopw [10, 11] (fun iv jv wr => ∃ i j : Nat, 0 < i ∧ 0 < j ∧ i ≤ m - a ∧ j ≤ b - m ∧ iv = .int .i64 i ∧ jv = .int .i64 j ∧ ∃ e, Hid (∀ f, Rot (m - i) m (m + j) e f → Rot a m b d f) ∧ St W g n E e wr) (fun iv jv _ => (intOf iv).toNat + (intOf jv).toNat)
  case atStart => exact ⟨m - a, b - m, by omega, by omega, Nat.le_refl _, Nat.le_refl _, by congr 1; omega, by congr 1; omega, d, fun f hf => by rwa [show m - (m - a) = a from by omega, show m + (b - m) = b from by omega] at hf, h⟩
  case round =>
    obtain ⟨i, j, hi, hj, him, hjm, rfl, rfl, e, he, hst⟩ := hrel
    rcases Nat.lt_trichotomy i j with c | c | c
    · have c1 : ((i : Int) == (j : Int)) = false := by simp; omega
      have c2 : ¬ (j : Int) < (i : Int) := by omega
      have hsr := fun fv => swapRange_walk W g n E cap (m - i) (m + j - i) i e fv wr hst (by omega) (by omega) hn
      have e1 : ((m : Int) - (i : Int)) = ((m - i : Nat) : Int) := by omega
      have e2 : ((m : Int) + (j : Int) - (i : Int)) = ((m + j - i : Nat) : Int) := by omega
      have HE : Hid (∀ f', SwapR (m - i) (m + j - i) i i e f' → ∀ f, Rot (m - i) m (m + (j - i)) f' f → Rot a m b d f) := fun f' hs f hf => he.out f (Rot.less c (by omega) hs hf)
      clear hst h
      go_wp2_with fail
      refine (hsr _).mono ?_
      rintro en w2 ⟨rfl, f', hs', hst'⟩
      have e3 : ((j : Int) - (i : Int)) = ((j - i : Nat) : Int) := by omega
      go_wp2
      go_roundw
      case rel => exact ⟨i, j - i, hi, by omega, him, by omega, rfl, rfl, f', HE.out f' hs', hst'⟩
      case measure => simp [intOf]; omega
    · subst c
      have c1 : ((i : Int) == (i : Int)) = true := by simp
      have hsr := fun fv => swapRange_walk W g n E cap (m - i) m i e fv wr hst (by omega) (by omega) hn
      have e1 : ((m : Int) - (i : Int)) = ((m - i : Nat) : Int) := by omega
      have HE : Hid (∀ f', SwapR (m - i) m i i e f' → Rot a m b d f') := fun f' hs => he.out f' (Rot.same (by omega) hs)
      clear hst h
      go_wp2_with fail
      refine (hsr _).mono ?_
      rintro en w2 ⟨rfl, f', hs', hst'⟩
      go_wp2
      go_end0
      exact ⟨rfl, f', HE.out f' hs', hst'⟩
    · have c1 : ((i : Int) == (j : Int)) = false := by simp; omega
      have c2 : (j : Int) < (i : Int) := by omega
      have hsr := fun fv => swapRange_walk W g n E cap (m - i) m j e fv wr hst (by omega) (by omega) hn
      have e1 : ((m : Int) - (i : Int)) = ((m - i : Nat) : Int) := by omega
      have HE : Hid (∀ f', SwapR (m - i) m j j e f' → ∀ f, Rot (m - (i - j)) m (m + j) f' f → Rot a m b d f) := fun f' hs f hf => he.out f (Rot.more c (by omega) hs hf)
      clear hst h
      go_wp2_with fail
      refine (hsr _).mono ?_
      rintro en w2 ⟨rfl, f', hs', hst'⟩
      have e3 : ((i : Int) - (j : Int)) = ((i - j : Nat) : Int) := by omega
      go_wp2
      go_roundw
      case rel => exact ⟨i - j, j, by omega, hj, by omega, hjm, rfl, rfl, f', HE.out f' hs', hst'⟩
      case measure => simp [intOf]; omega
end Go.Proofs.Ybulkaaso
