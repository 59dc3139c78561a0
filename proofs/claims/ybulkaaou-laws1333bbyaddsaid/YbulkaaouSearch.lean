/-
  slices.BinarySearchFunc over []delayCount (10), with Add's closure (8). Own work of this seat.
-/
import Derived.Test.YbulkaaouSummary
namespace Go.Proofs.Ybulkaaou
open Go.ChangeShapes Go.WideShapes Go.ChangeAt Go.RowKit

theorem compare_cases (x y : Int) : (x < y → Lib.compareInt x y = -1) ∧ (x = y → Lib.compareInt x y = 0) ∧ (y < x → Lib.compareInt x y = 1) := by
  unfold Lib.compareInt
  refine ⟨fun h => by simp [h], fun h => by simp [h], fun h => ?_⟩
  have : ¬ x < y := by omega
  simp [h, this]

set_option maxHeartbeats 1000000 in
theorem closure8 (x : Int × Int) (y : Int) (W : World) : Calls Yba.prog 8 #[.agg #[.int .i64 x.1, .int .i64 x.2], .int .i64 y] W fun e w' => e = .returned (.int .i64 (Lib.compareInt x.1 y)) ∧ RowKit.Below W.heap.size W w' := by
  have hcon := fun W' => cmp_any x.1 y W'
  generalize Lib.compareInt x.1 y = r at hcon ⊢
  go_enter Yba.func8, Yba.ntmps8
  go_wp2_with (go_at_call 9; refine (hcon _).mono ?_; rintro e w' ⟨rfl, rfl⟩)
  go_ret
  exact ⟨rfl, (Below.refl _ _).alloc (Nat.le_refl _) _⟩

/-- what the search answers: the first place whose delay is not less -/
structure Found (cs : List (Int × Int)) (us : Int) (i : Nat) : Prop where
  le : i ≤ cs.length
  lo : ∀ j, j < i → (cs.getD j (0, 0)).1 < us
  hi : ∀ j, i ≤ j → j < cs.length → us ≤ (cs.getD j (0, 0)).1

/-- is the delay there? -/
def hit (cs : List (Int × Int)) (us : Int) (i : Nat) : Bool := decide (i < cs.length ∧ (cs.getD i (0, 0)).1 = us)

theorem sorted_getD {cs : List (Int × Int)} (h : cs.Pairwise (fun a b => a.1 < b.1)) {i j : Nat} (hij : i < j) (hj : j < cs.length) : (cs.getD i (0, 0)).1 < (cs.getD j (0, 0)).1 := by
  rw [List.getD_eq_getElem?_getD, List.getD_eq_getElem?_getD, List.getElem?_eq_getElem hj, List.getElem?_eq_getElem (by omega)]
  exact List.pairwise_iff_getElem.1 h i j (by omega) hj hij

set_option maxRecDepth 100000 in
set_option maxHeartbeats 1000000 in
theorem search_any (v : Value) (cs : List (Int × Int)) (us : Int) (w : World) (hv : Here w v cs) (hs : cs.Pairwise (fun a b => a.1 < b.1)) (hl : cs.length ≤ 1024) :
    Calls Yba.prog 10 #[v, .int .i64 us, .func (.func 8) #[] #[]] w fun e w' => ∃ i, Found cs us i ∧ e = .returned (.tuple #[.int .i64 i, .bool (hit cs us i)]) ∧ RowKit.Below w.heap.size w w' := by
  have eg : ∀ args w, (callFunc 8 args).run Yba.prog w = .ok (.enter 8 args) w := enters_of Yba.func8 (by kernel_rfl) rfl
  rcases hv with ⟨rfl, a, cap, rfl⟩ | ⟨hn, b, off, cap, rfl, hb, hc⟩
  · go_enter Yba.func10, Yba.ntmps10
    go_wp2
    refine wp_loop_rounds 1 ?_
    rw [rounds_succ]
    go_wp2
    go_ret2
    exact ⟨0, ⟨Nat.zero_le _, fun j hj => by omega, fun j _ hj => by simp at hj⟩, rfl, Below.refl _ _⟩
  · have HC : Hid (∀ j, j < cs.length → w.cell? ⟨b, off + j * 2, none⟩ = some (.int .i64 (cs.getD j (0, 0)).1) ∧ w.cell? ⟨b, off + j * 2 + 1, none⟩ = some (.int .i64 (cs.getD j (0, 0)).2)) := hc
    clear hc
    go_enter Yba.func10, Yba.ntmps10
    go_wp2
    go_loopw [9, 10, 11] (fun i j _ wr => ∃ lo hi : Nat, lo ≤ hi ∧ hi ≤ cs.length ∧ i = .int .i64 lo ∧ j = .int .i64 hi ∧ Hid (∀ t, t < lo → (cs.getD t (0, 0)).1 < us) ∧ Hid (∀ t, hi ≤ t → t < cs.length → us ≤ (cs.getD t (0, 0)).1) ∧ RowKit.Below w.heap.size w wr) (fun i j _ _ => (intOf j).toNat - (intOf i).toNat)
    case atStart => exact ⟨0, cs.length, Nat.zero_le _, Nat.le_refl _, rfl, rfl, fun t ht => by omega, fun t h1 h2 => by omega, Below.refl _ _⟩
    case round =>
      obtain ⟨lo, hi, hlh, hhn, rfl, rfl, hlo, hhi, hbr⟩ := hrel
      by_cases hlt : lo < hi
      · have hm : (lo + hi) / 2 < cs.length := by omega
        have hm1 : ((lo : Int) + hi) / 2 < (cs.length : Int) := by omega
        have c1 := (hbr.cell (p := ⟨b, off + (lo + hi) / 2 * 2, none⟩) hb).trans (HC.out _ hm).1
        have c2 := (hbr.cell (p := ⟨b, off + (lo + hi) / 2 * 2 + 1, none⟩) hb).trans (HC.out _ hm).2
        have hlt' : (lo : Int) < (hi : Int) := by omega
        have hcl := closure8 (cs.getD ((lo + hi) / 2) (0, 0)) us wr
        obtain ⟨k1, k2, k3⟩ := compare_cases (cs.getD ((lo + hi) / 2) (0, 0)).1 us
        have HX : Hid (∀ t, t < cs.length → t < (lo + hi) / 2 → (cs.getD t (0, 0)).1 < (cs.getD ((lo + hi) / 2) (0, 0)).1) := fun t _ ht => sorted_getD hs ht hm
        have HY : Hid (∀ t, t < cs.length → (lo + hi) / 2 < t → (cs.getD ((lo + hi) / 2) (0, 0)).1 < (cs.getD t (0, 0)).1) := fun t h1 ht => sorted_getD hs ht h1
        have HZ : Hid (cs.getD ((lo + hi) / 2) (0, 0) = cs.getD ((lo + hi) / 2) (0, 0)) := rfl
        generalize hp : cs.getD ((lo + hi) / 2) (0, 0) = p at c1 c2 hcl k1 k2 k3 HX HY
        have HP : Hid (cs.getD ((lo + hi) / 2) (0, 0) = p) := hp
        clear hp HZ
        by_cases hc : p.1 < us
        · rw [k1 hc] at hcl
          clear k1 k2 k3
          go_wp2_with (go_at_fn 8; refine hcl.mono ?_; rintro e w1 ⟨rfl, hb1⟩)
          go_roundw
          case rel =>
            refine ⟨(lo + hi) / 2 + 1, hi, by omega, hhn, by go_num, rfl, fun t ht => ?_, hhi, hbr.trans (hb1.mono hbr.size)⟩
            by_cases ht' : t < (lo + hi) / 2
            · exact Int.lt_trans (HX.out t (by omega) ht') hc
            · obtain rfl : t = (lo + hi) / 2 := by omega
              rw [HP.out]; exact hc
          case measure => simp [intOf]; omega
        · have hr : ¬ Lib.compareInt p.1 us < 0 := by
            by_cases he : p.1 = us
            · rw [k2 he]; omega
            · rw [k3 (by omega)]; omega
          clear k1 k2 k3
          generalize Lib.compareInt p.1 us = r at hcl hr
          go_wp2_with (go_at_fn 8; refine hcl.mono ?_; rintro e w1 ⟨rfl, hb1⟩)
          go_roundw
          case rel =>
            refine ⟨lo, (lo + hi) / 2, by omega, by omega, rfl, by go_num, hlo, fun t h1 h2 => ?_, hbr.trans (hb1.mono hbr.size)⟩
            by_cases ht' : (lo + hi) / 2 < t
            · have := HY.out t h2 ht'; omega
            · obtain rfl : t = (lo + hi) / 2 := by omega
              rw [HP.out]; omega
          case measure => simp [intOf]; omega
      · obtain rfl : lo = hi := by omega
        have hlt' : ¬ (lo : Int) < (lo : Int) := by omega
        by_cases hin : lo < cs.length
        · have hin' : (lo : Int) < (cs.length : Int) := by omega
          have c1 := (hbr.cell (p := ⟨b, off + lo * 2, none⟩) hb).trans (HC.out _ hin).1
          have c2 := (hbr.cell (p := ⟨b, off + lo * 2 + 1, none⟩) hb).trans (HC.out _ hin).2
          have hcl := closure8 (cs.getD lo (0, 0)) us wr
          obtain ⟨k1, k2, k3⟩ := compare_cases (cs.getD lo (0, 0)).1 us
          have HG := hhi.out lo (Nat.le_refl _) hin
          have HD : Hid (hit cs us lo = (Lib.compareInt (cs.getD lo (0, 0)).1 us == 0)) := by
            show decide (lo < cs.length ∧ (cs.getD lo (0, 0)).1 = us) = (Lib.compareInt (cs.getD lo (0, 0)).1 us == 0)
            by_cases he : (cs.getD lo (0, 0)).1 = us
            · rw [k2 he, decide_eq_true ⟨hin, he⟩]; rfl
            · rw [k3 (by omega), decide_eq_false (fun h => he h.2)]; rfl
          have HF : Found cs us lo := ⟨by omega, hlo.out, hhi.out⟩
          obtain ⟨r, HR⟩ : ∃ r, Hid (Lib.compareInt (cs.getD lo (0, 0)).1 us = r) := ⟨_, rfl⟩
          rw [HR.out] at hcl
          generalize cs.getD lo (0, 0) = p at c1 c2 hcl
          clear k1 k2 k3 HG
          go_wp2_with (go_at_fn 8; refine hcl.mono ?_; rintro e w1 ⟨rfl, hb1⟩)
          go_ret2
          exact ⟨lo, HF, by rw [HD.out, HR.out]; rfl, hbr.trans (hb1.mono hbr.size)⟩
        · have hin' : ¬ (lo : Int) < (cs.length : Int) := by omega
          have HF : Found cs us lo := ⟨by omega, hlo.out, hhi.out⟩
          have HD : Hid (hit cs us lo = false) := decide_eq_false (fun h => hin h.1)
          go_wp2
          go_ret2
          exact ⟨lo, HF, by rw [HD.out]; rfl, hbr⟩
#print axioms search_any
end Go.Proofs.Ybulkaaou
