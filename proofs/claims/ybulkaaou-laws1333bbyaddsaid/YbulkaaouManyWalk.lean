/-
  The walk of LawS1333BMany (4). Own work of this seat.
-/
import Derived.Test.YbulkaaouSummary
import Derived.Maps.OwnOps
import Derived.Laws.StructEq
import Derived.OpenShut
namespace Go.Proofs.Ybulkaaou
open Go.ChangeShapes Go.WideShapes Go.ChangeAt Go.RowKit Go.Maps

/-- how often the value at place i is laid down -/
def cOf (z1 : List Int) (len1 i : Nat) : Nat := if i < len1 then 1 + (z1.getD i 0).toNat % 4 else 1
/-- the list after k rounds -/
def allOf (z0 z1 : List Int) (len1 : Nat) : Nat → List Int
  | 0 => []
  | k + 1 => allOf z0 z1 len1 k ++ List.replicate (cOf z1 len1 k) (z0.getD k 0)

theorem cOf_le (z1 : List Int) (len1 i : Nat) : 1 ≤ cOf z1 len1 i ∧ cOf z1 len1 i ≤ 4 := by unfold cOf; split <;> omega
theorem allOf_length (z0 z1 : List Int) (len1 : Nat) : ∀ k, (allOf z0 z1 len1 k).length ≤ 4 * k
  | 0 => by simp [allOf]
  | k + 1 => by have := allOf_length z0 z1 len1 k; have := cOf_le z1 len1 k; simp [allOf]; omega

theorem model_row (v : Value) (base : Nat) (zs : List Int) (w : World) (h : w.ownsRow base 2 1 v zs.length (zs.map (Value.int .i64))) (h1 : zs.length ≤ 4096) :
    Calls Yba.prog 7 #[v] w fun e w' => e = .returned (.tuple #[.agg #[.int .i64 (least zs), .int .i64 (median zs), .int .i64 (greatest zs)], .bool (decide (0 < zs.length))]) ∧ RowKit.Below w.heap.size w w' := by
  rcases Nat.eq_zero_or_pos zs.length with h0 | h0
  · obtain rfl : zs = [] := List.eq_nil_of_length_eq_zero h0
    rcases h.2 with ⟨rfl, _⟩ | ⟨g, cap, cur, rfl, _⟩
    · exact model_none _ _ w
    · exact model_none _ _ w
  · obtain ⟨g, cap, rfl, _, hgl, _, _, _, hH⟩ := Lib.holds_of_ownsRow h (by
      intro e
      rcases h.2 with ⟨_, h2⟩ | ⟨g, cap, cur, e2, _⟩
      · omega
      · rw [e2] at e; cases e)
    refine model_some g 0 cap zs w hgl h0 h1 (fun j hj => ?_)
    rw [(hH j (by simpa using hj)).1]
    simp only [List.getD_eq_getElem?_getD, Array.getElem!_eq_getD, Array.getD_eq_getD_getElem?, List.getElem?_toArray]
    rfl

theorem eq29 (a b c : Int) (w : World) : Sem.run Yba.prog (binOp .eql 29 (.agg #[.int .i64 a, .int .i64 b, .int .i64 c]) (.agg #[.int .i64 a, .int .i64 b, .int .i64 c])) w = .ok (.bool true) w := by
  have u2 := Yba.underlying2
  have a2 := Yba.isAgg2
  have z2 := Yba.sizeOf2
  have hS : Yba.prog.underlying 29 = some (.struct (Yba.prog.fieldsOf 29)) := by kernel_rfl
  have hp : Yba.prog.stoodInHeld 29 = false := by kernel_rfl
  rw [run_eql_struct, show (10000 : Nat) = 9999 + 1 from rfl, run_equalIn_agg w 9999 29 _ _ hS hp]
  simp only [Program.fieldsOf, Yba.underlying29]
  go_simp

def IsRow (k : IntKind) (w : World) (a : Option Addr) (len cap : Nat) (zs : List Int) : Prop :=
  (a = none ∧ len = 0 ∧ cap = 0 ∧ zs = []) ∨
  ∃ x, a = some x ∧ len ≤ cap ∧ cap ≤ maxLen ∧ zs.length = cap ∧ (∀ i, i < zs.length → w.cell? (x.add i) = some (.int k (zs.getD i 0))) ∧ ∀ n ∈ zs, (Lit.int k n).wf = true

theorem lt_of_cell {w : World} {b o : Nat} {v : Value} (h : w.cell? ⟨b, o, none⟩ = some v) : b < w.heap.size := by
  rcases Nat.lt_or_ge b w.heap.size with h' | h'
  · exact h'
  · simp [World.cell?, Array.getElem?_eq_none h'] at h

/-- at an element within the length: where the row lies -/
theorem IsRow.at_ {k : IntKind} {w : World} {a : Option Addr} {len cap : Nat} {zs : List Int} (h : IsRow k w a len cap zs) (hi : 0 < len) :
    ∃ b off, a = some ⟨b, off, none⟩ ∧ b < w.heap.size ∧ (∀ j, j < len → w.cell? ⟨b, off + j, none⟩ = some (.int k (zs.getD j 0))) ∧ len ≤ zs.length ∧ ∀ j, j < len → (Lit.int k (zs.getD j 0)).wf = true := by
  rcases h with ⟨_, h0, _⟩ | ⟨x, rfl, h1, h2, h3, h4, h5⟩
  · omega
  · obtain ⟨b, off, rfl, hc⟩ := ints_at h4 (by omega)
    refine ⟨b, off, rfl, lt_of_cell (hc 0 (by omega)), fun j hj => hc j (by omega), by omega, fun j hj => h5 _ ?_⟩
    rw [List.getD_eq_getElem?_getD, List.getElem?_eq_getElem (by omega)]
    exact List.getElem_mem _

/-- a row that is owned is owned still where nothing that was there has turned -/
theorem _root_.Go.World.ownsRow.below {W w1 : World} {base : Nat} {e : TypeId} {sz : Nat} {v : Value} {n : Nat} {xs : List Value} (h : W.ownsRow base e sz v n xs) (hb : RowKit.Below W.heap.size W w1) : w1.ownsRow base e sz v n xs := by
  refine ⟨h.1, ?_⟩
  rcases h.2 with h' | ⟨g, cap, cur, hv, hbg, hg, rest⟩
  · exact Or.inl h'
  · exact Or.inr ⟨g, cap, cur, hv, hbg, (hb.block g (Array.getElem?_eq_some_iff.1 hg).1).trans hg, rest⟩

theorem zero3 (w : World) : (zeroValue 3).run Yba.prog w = .ok (.int .i64 0) w := by kernel_rfl
theorem info2 : (Yba.prog.info? 2).map (fun i => (i.zero, i.size, i.bytes)) = some (some (.int .i64 0), 1, 8) := by kernel_rfl

set_option maxRecDepth 100000 in
set_option maxHeartbeats 2000000 in
theorem many_walk (a0 : Option Addr) (len0 cap0 : Nat) (z0 : List Int) (a1 : Option Addr) (len1 cap1 : Nat) (z1 : List Int) (w : World) (w0 : IsRow .i64 w a0 len0 cap0 z0) (w1 : IsRow .u8 w a1 len1 cap1 z1) :
    Calls Yba.prog 4 #[.slice a0 len0 cap0, .slice a1 len1 cap1] w fun e w' => e = .returned (.bool true) ∧ RowKit.Below w.heap.size w w' := by
  have hmm := @run_makeMap Yba.prog
  by_cases hlen : 256 < len0
  · have hlen' : (256 : Int) < (len0 : Int) := by omega
    go_enter Yba.func4, Yba.ntmps4
    go_wp2
    go_ret
    exact ⟨rfl, Below.refl _ _⟩
  · have hlen' : (len0 : Int) ≤ 256 := by omega
    obtain ⟨i0, hi, hz0, hz1, hz2⟩ := info_parts info2
    have H0 : Hid (IsRow .i64 w a0 len0 cap0 z0) := w0
    have H1 : Hid (IsRow .u8 w a1 len1 cap1 z1) := w1
    clear w0 w1
    go_enter Yba.func4, Yba.ntmps4
    go_wp2_with (first
      | (at_make; refine wpList_make_own _ rfl _ _ 22 rfl (w.heap.size + 1) 2 i0 (.int .i64 0) 1 Yba.underlying22 hi hz0 hz1 _ _ _ (4 * len0) rfl rfl (by omega) (by rw [hz2]; omega) (by unfold maxLen; omega) (by simp) ?_; intro w1 hrow1 hg1; go_frame)
      | go_in)
    have e1 : (w.alloc (.map #[] 0)).heap.size = w.heap.size + 1 := by simp
    rw [e1] at hrow1 ⊢
    clear e1
    have hB1 : RowKit.Below (w.heap.size + 1) (w.alloc (.map #[] 0)) w1 := (Below.refl _ _).grown hg1 (by simp) (fun j hj => by cases hj)
    have hal : RowKit.Below w.heap.size w (w.alloc (.map #[] 0)) := (Below.refl _ _).alloc (Nat.le_refl _) _
    go_loopw [6, 7, 8, 9, 10, 26] (fun v _ _ _ _ i wr => ∃ k : Nat, k ≤ len0 ∧ i = .int .i64 k ∧ ∃ D : DataW Unit, wr.ownsMap Yba.prog 2 (plainElem Yba.prog 3) w.heap.size k D ∧ Counts D (allOf z0 z1 len1 k) ∧
        wr.ownsRow (w.heap.size + 1) 2 1 v (allOf z0 z1 len1 k).length ((allOf z0 z1 len1 k).map (Value.int .i64)) ∧ RowKit.Below w.heap.size w wr ∧ w.heap.size + 1 ≤ wr.heap.size) (fun _ _ _ _ _ i _ => len0 - (intOf i).toNat)
    case atStart =>
      exact ⟨0, Nat.zero_le _, rfl, .map [], (World.ownsMap_made _ _ _ _).kept hg1 (by simp), Counts.start, hrow1, hal.trans (hB1.mono (Nat.le_succ _)), by have := hB1.size; simp at this; omega⟩
    case round =>
      obtain ⟨k, hk, rfl, D, hown, hC, hrow, hnx, hws⟩ := hrel
      by_cases hlt : k < len0
      · obtain ⟨b0, off0, rfl, hb0, hc0, hl0, hwf0⟩ := H0.out.at_ (by omega)
        have hx := (hnx.cell (p := ⟨b0, off0 + k, none⟩) hb0).trans (hc0 k hlt)
        have hwx := hwf0 k hlt
        clear hc0 hwf0
        have hci := cOf_le z1 len1 k
        have HC1 : Hid (k < len1 → cOf z1 len1 k = 1 + (z1.getD k 0).toNat % 4) := fun h => if_pos h
        have HC0 : Hid (¬ k < len1 → cOf z1 len1 k = 1) := fun h => if_neg h
        have HA : Hid (allOf z0 z1 len1 (k + 1) = allOf z0 z1 len1 k ++ List.replicate (cOf z1 len1 k) (z0.getD k 0)) := rfl
        have hal4 := allOf_length z0 z1 len1 k
        have hcn := hC.at_ (z0.getD k 0)
        have hst := hC.step (z0.getD k 0) (cOf z1 len1 k) hci.1
        have hcl : (allOf z0 z1 len1 k).count (z0.getD k 0) ≤ (allOf z0 z1 len1 k).length := List.count_le_length
        obtain ⟨hci0, hci1⟩ := hci
        generalize hL : allOf z0 z1 len1 k = L at hrow hC HA hal4 hcn hst hcl
        clear hL
        generalize cOf z1 len1 k = c at HA hst hci0 hci1 HC1 HC0
        generalize z0.getD k 0 = x at HA hst hcn hwx hx hcl
        generalize hn : L.count x = cn at hcn hst hcl
        clear hn
        go_upto_if 34 with fail
        go_cut [9] (fun cv wc => cv = .int .i64 c ∧ wr = wc)
        case first =>
          by_cases hk1 : k < len1
          · obtain ⟨b1, off1, rfl, hb1, hc1, hl1, hwf1⟩ := H1.out.at_ (by omega)
            have hy := (hnx.cell (p := ⟨b1, off1 + k, none⟩) hb1).trans (hc1 k hk1)
            obtain ⟨hy0, hy1⟩ := bounds_u8 (hwf1 k hk1)
            have HC : Hid (c = 1 + (z1.getD k 0).toNat % 4) := HC1.out hk1
            clear hc1 hwf1 HC1
            generalize z1.getD k 0 = y at hy hy0 hy1 HC
            go_wp2
            go_meet
            case rel => exact ⟨by rw [HC.out]; go_num, rfl⟩
          · have HC := HC0.out hk1
            subst HC
            go_wp2
            go_meet
            case rel => exact ⟨rfl, rfl⟩
        case rest =>
          obtain ⟨rfl, hw⟩ := hcut
          subst hw
          go_wp2_with (first
            | (at_lookup; go_loud (refine wpList_lookup_own_int _ rfl _ _ 24 rfl 2 3 .i64 law2 Yba.underlying24 Yba.underlying3 (zero3 _) w.heap.size k _ rfl hown _ _ rfl (keyOf_int_mk Yba.underlying2 hwx) ?_; intro c0 hat hwc; obtain rfl : c0 = (cn : Int) := ct_inj (H := Unit) (hat.symm.trans hcn)))
            | (at_mapUpdate; refine wpList_mapUpdate_own _ rfl _ _ _ 24 rfl 2 3 law2 Yba.underlying24 _ w.heap.size k _ rfl hown (by unfold maxLen; omega) _ _ _ rfl rfl (keyOf_int_mk Yba.underlying2 hwx) _ [] (plainElem_int Yba.underlying3 (WalkArith.wf_i64 (by omega))) ?_; intro w2 hown2 hgrow2)
            | go_in)
          have hgs := hgrow2.size
          have hrow2 := hrow.kept hgrow2 (Or.inr (row_ne_low hrow (Nat.lt_succ_self _)).symm)
          have hnx2 : RowKit.Below w.heap.size w w2 := hnx.grown hgrow2 hnx.size (fun j hj => by cases hj; exact Nat.le_refl _)
          go_loopw [6, 10] (fun v jv wr => ∃ j : Nat, j ≤ c ∧ jv = .int .i64 j ∧ wr.ownsMap Yba.prog 2 (plainElem Yba.prog 3) w.heap.size (k + 1) (D.put (ky x) (ct (cn + c))) ∧
              wr.ownsRow (w.heap.size + 1) 2 1 v (L.length + j) ((L ++ List.replicate j x).map (Value.int .i64)) ∧ RowKit.Below w.heap.size w wr ∧ w.heap.size + 1 ≤ wr.heap.size) (fun _ jv _ => c - (intOf jv).toNat)
          case atStart => exact ⟨0, Nat.zero_le _, rfl, hown2, by simpa using hrow2, hnx2, by omega⟩
          case round =>
            obtain ⟨j, hj, rfl, hown3, hrow3, hnx3, hws3⟩ := hrel
            by_cases hjc : j < c
            · have hjc' : (j : Int) < (c : Int) := by omega
              go_wp2_with (first
                | (at_builtin; refine wpList_append_own _ rfl _ _ 22 rfl (w.heap.size + 1) 2 i0 (.int .i64 0) 1 8 Yba.underlying22 hi hz0 hz1 hz2 rfl (by decide) _ _ _ rfl (hrow3.alloc _) ⟨wr.heap.size, 0, none⟩ 1 1 [.int .i64 x] rfl rfl (cell_one_new _ _ _) (by simp [Value.oneCell']) (by unfold maxLen; omega) (by omega) (by simp; omega) ?_; intro v' w4 hown' hg4 hnil4; go_frame)
                | go_in)
              have hg4s := hg4.size
              go_roundw
              case rel =>
                refine ⟨j + 1, by omega, by go_num, (hown3.alloc _).kept hg4 (row_ne_low hrow3 (Nat.lt_succ_self _)), ?_, ?_, by simp at hg4s; omega⟩
                · have e : (L ++ List.replicate (j + 1) x).map (Value.int .i64) = (L ++ List.replicate j x).map (Value.int .i64) ++ [.int .i64 x] := by
                    rw [List.replicate_succ']; simp
                  rw [e]; exact hown'
                · exact (hnx3.alloc hnx3.size _).grown hg4 (by have := hnx3.size; simp; omega) (fun j hj => by have := (hrow3.lt j hj).1; omega)
              case measure => simp [intOf]; omega
            · have hjc' : ¬ (j : Int) < (c : Int) := by omega
              obtain rfl : j = c := by omega
              go_wp2
              go_roundw
              case rel =>
                refine ⟨k + 1, by omega, by go_num, _, hown3, ?_, ?_, hnx3, hws3⟩
                · rw [HA.out]; exact hst
                · rw [HA.out]; simpa using hrow3
              case measure => simp [intOf]; omega
      · obtain rfl : k = len0 := by omega
        have hk0 : ¬ (k : Int) < (k : Int) := by omega
        have hal4 := allOf_length z0 z1 len1 k
        generalize allOf z0 z1 len1 k = L at hC hrow hal4
        go_wp2_with fail
        have hlb : w.heap.size < wr.heap.size := by omega
        refine (summary_any wr.heap.size L _ (by simp) ⟨.slice none 0 0, some w.heap.size, by simp, by simp, Or.inr ⟨w.heap.size, k, D, rfl, hown.alloc _, by omega, hC⟩⟩ (by omega)).mono ?_
        rintro e w5 ⟨rfl, hb5⟩
        have hbw : RowKit.Below w.heap.size w (wr.alloc (.cells #[.slice none 0 0, .map (some w.heap.size)] 26)) := hnx.alloc hnx.size _
        have hrow5 : w5.ownsRow (w.heap.size + 1) 2 1 u6 L.length (L.map (Value.int .i64)) := (hrow.alloc (.cells #[.slice none 0 0, .map (some w.heap.size)] 26)).below hb5
        have hbw5 : RowKit.Below w.heap.size w w5 := hbw.trans (hb5.mono (by simp; omega))
        have hmodel := fun W h => model_row u6 (w.heap.size + 1) L W h (by omega)
        generalize least L = s1 at hmodel ⊢
        generalize median L = s2 at hmodel ⊢
        generalize greatest L = s3 at hmodel ⊢
        generalize decide (0 < L.length) = s4 at hmodel ⊢
        go_wp2_with fail
        refine (hmodel _ (hrow5.alloc _)).mono ?_
        rintro e w6 ⟨rfl, hb6⟩
        have hw5 : w5.heap.size < (w5.alloc (.cells #[.int .i64 s1, .int .i64 s2, .int .i64 s3] 29)).heap.size := by simp
        have g0 := (hb6.cell (p := ⟨w5.heap.size, 0, none⟩) hw5).trans (by simp : _ = some (Value.int .i64 s1))
        have g1 := (hb6.cell (p := ⟨w5.heap.size, 1, none⟩) hw5).trans (by simp : _ = some (Value.int .i64 s2))
        have g2 := (hb6.cell (p := ⟨w5.heap.size, 2, none⟩) hw5).trans (by simp : _ = some (Value.int .i64 s3))
        have hs6 : w5.heap.size < w6.heap.size := by have := hb6.size; simp at this; omega
        have heq := eq29 s1 s2 s3
        have hg29 : Yba.prog.eqGuardType Yba.prog.depth 29 = false := by kernel_rfl
        have hs4 : (s4 == s4) = true := by simp
        have hbw6 : RowKit.Below w.heap.size w w6 := (hbw5.alloc hbw5.size _).trans (hb6.mono (by have := hbw5.size; simp; omega))
        go_wp2
        go_ret
        exact ⟨rfl, hbw6.alloc hbw6.size _⟩
end Go.Proofs.Ybulkaaou
