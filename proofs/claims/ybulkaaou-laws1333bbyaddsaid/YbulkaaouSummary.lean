/-
  The walk of (*Delays).Summary (6): both forms of a Delays. Own work of this seat.
-/
import Derived.Test.YbulkaaouSortDc
import Derived.Maps.OwnSet
import Derived.Maps.Ext
import Derived.Maps.RangeWalk
import Derived.Sort.OwnSorted
import Derived.WalkSmall
namespace Go.Proofs.Ybulkaaou
open Go.ChangeShapes Go.WideShapes Go.ChangeAt Go.RowKit Go.Maps

/-- v is a slice that leads to the rows cs -/
def Here (W : World) (v : Value) (cs : List (Int × Int)) : Prop :=
  (cs = [] ∧ ∃ a cap, v = .slice a 0 cap) ∨
  (0 < cs.length ∧ ∃ b off cap, v = .slice (some ⟨b, off, none⟩) cs.length cap ∧ b < W.heap.size ∧
    ∀ j, j < cs.length → W.cell? ⟨b, off + j * 2, none⟩ = some (.int .i64 (cs.getD j (0, 0)).1) ∧ W.cell? ⟨b, off + j * 2 + 1, none⟩ = some (.int .i64 (cs.getD j (0, 0)).2))

theorem Here.below {W w1 : World} {v : Value} {cs : List (Int × Int)} (h : Here W v cs) (hb : Below W.heap.size W w1) : Here w1 v cs := by
  rcases h with h | ⟨hn, b, off, cap, hv, hlt, hc⟩
  · exact Or.inl h
  · exact Or.inr ⟨hn, b, off, cap, hv, Nat.lt_of_lt_of_le hlt hb.size, fun j hj => ⟨(hb.cell (p := ⟨b, off + j * 2, none⟩) hlt).trans (hc j hj).1, (hb.cell (p := ⟨b, off + j * 2 + 1, none⟩) hlt).trans (hc j hj).2⟩⟩

theorem len_le_tot : ∀ {cs : List (Int × Int)}, Pos cs → (cs.length : Int) ≤ tot cs
  | [], _ => by simp [tot]
  | p :: cs, h => by
    have h1 := h p (by simp)
    have h2 := len_le_tot (cs := cs) (fun q hq => h q (by simp [hq]))
    rw [tot_cons]; simp; omega

theorem bcell {B : Nat} {W w1 : World} (hb : Below B W w1) : (∀ b o, b < B → w1.cell? ⟨b, o, none⟩ = W.cell? ⟨b, o, none⟩) ∧ (∀ b o, b < B → w1.frozen? ⟨b, o, none⟩ = W.frozen? ⟨b, o, none⟩) :=
  ⟨fun b o h => hb.cell (p := ⟨b, o, none⟩) h, fun b o h => hb.frozen (p := ⟨b, o, none⟩) h⟩

theorem law2 : Keyed Yba.prog 2 := int_keyed Yba.underlying2
theorem info38 : (Yba.prog.info? 38).map (fun i => (i.zero, i.size, i.bytes)) = some (some (.agg #[.int .i64 0, .int .i64 0]), 2, 16) := by kernel_rfl

/-- what stands at block db: a Delays that holds the delays of l -/
def Src (w : World) (db : Nat) (l : List Int) : Prop :=
  ∃ v mo, w.cell? ⟨db, 0, none⟩ = some v ∧ w.cell? ⟨db, 1, none⟩ = some (.map mo) ∧
    ((mo = none ∧ ∃ cs, Here w v cs ∧ RowsOf cs l) ∨
     ∃ mb n, ∃ D : DataW Unit, mo = some mb ∧ w.ownsMap Yba.prog 2 (plainElem Yba.prog 3) mb n D ∧ n ≤ 1024 ∧ Counts D l)

set_option maxRecDepth 100000 in
set_option maxHeartbeats 2000000 in
theorem summary_any (db : Nat) (l : List Int) (w : World) (hdb : db < w.heap.size) (hsrc : Src w db l) (hl : l.length ≤ 1024) :
    Calls Yba.prog 6 #[.pointer (some ⟨db, 0, none⟩)] w fun e w' => e = .returned (.tuple #[.agg #[.int .i64 (least l), .int .i64 (median l), .int .i64 (greatest l)], .bool (decide (0 < l.length))]) ∧ RowKit.Below w.heap.size w w' := by
  obtain ⟨v, mo, hf, hm, hS⟩ := hsrc
  have hmm := fun w r => run_neq_map_nil (P := Yba.prog) w 24 2 3 r Yba.underlying24
  go_enter Yba.func6, Yba.ntmps6
  go_upto_if 22 with fail
  go_cut [4] (fun s4 wc => ∃ cs, RowsOf cs l ∧ Here wc s4 cs ∧ Below w.heap.size w wc ∧ w.heap.size < wc.heap.size ∧ (∀ i, i < 3 → wc.cell? ⟨w.heap.size, i, none⟩ = some (.int .i64 0)) ∧ (∀ i, wc.frozen? ⟨w.heap.size, i, none⟩ = false))
  case first =>
    rcases hS with ⟨rfl, cs, hv, hR⟩ | ⟨mb, n, D, rfl, hown, hn, hC⟩
    · go_wp2
      go_meet
      case rel =>
        refine ⟨cs, hR, ?_, (Below.refl _ _).alloc (Nat.le_refl _) _, by simp, ?_, ?_⟩
        · exact hv.below ((Below.refl _ _).alloc (Nat.le_refl _) _)
        · intro i hi; match i, hi with | 0, _ => simp | 1, _ => simp | 2, _ => simp
        · intro i; simp
    · obtain ⟨i0, hi, hz0, hz1, hz2⟩ := info_parts info38
      have hbl := hown.lt
      have hsl := hown.size_le
      have hal := (Below.refl w.heap.size w).alloc (Nat.le_refl _) (.cells #[.int .i64 0, .int .i64 0, .int .i64 0] 29)
      have hown0 := hown.alloc (.cells #[.int .i64 0, .int .i64 0, .int .i64 0] 29)
      go_wp2_with (first
        | (at_len; refine wpList_len_own _ rfl _ 24 rfl 2 3 Yba.underlying24 _ mb n _ rfl hown0 ?_)
        | (at_make; refine wpList_make_own _ rfl _ _ 23 rfl (w.heap.size + 1) 38 i0 (.agg #[.int .i64 0, .int .i64 0]) 2 Yba.underlying23 hi hz0 hz1 _ _ _ (Maps.size D) rfl rfl rfl (by rw [hz2]; omega) (by unfold maxLen; omega) (by simp) ?_; intro w1 hrow1 hg1
           have hB1 : RowKit.Below (w.heap.size + 1) (w.alloc (.cells #[.int .i64 0, .int .i64 0, .int .i64 0] 29)) w1 := (Below.refl _ _).grown hg1 (by simp) (fun j hj => by cases hj)
           have hm1 := ((hal.trans (hB1.mono (Nat.le_succ _))).cell (p := ⟨db, 1, none⟩) hdb).trans hm)
        | (at_range; refine wpList_range_own _ rfl _ 24 rfl 2 3 law2 Yba.underlying24 _ mb n _ rfl (hown0.kept hg1 (by simp)) ?_; intro w0 hrg0 hg0 hs0)
        | go_in)
      go_frame
      go_loopw [4, 5, 6] (fun v _ _ wr => ∃ (left : Lit → Bool) (cnt : Nat) (cs : List (Int × Int)), wr.ranges Yba.prog 2 (plainElem Yba.prog 3) mb w1.heap.size n D left cnt ∧ cs.length + cnt ≤ Maps.size D ∧
          wr.ownsRow (w.heap.size + 1) 38 2 v cs.length (flatDc cs) ∧ v ≠ .slice none 0 0 ∧ Met left l cs ∧ RowKit.Below (w.heap.size + 1) (w.alloc (.cells #[.int .i64 0, .int .i64 0, .int .i64 0] 29)) wr)
        (fun _ _ _ wr => wr.rangeLeft mb w1.heap.size)
      case atStart =>
        exact ⟨_, _, [], hrg0, by simp, by have := hrow1.kept hg0 (Or.inr (by simp [Value.ownBlock])); simpa [flatDc] using this, by simp, Met.start hC, hB1.grown hg0 (by have := hB1.size; simp at this; omega) (fun j hj => by cases hj)⟩
      case round =>
        obtain ⟨left, cnt, cs, hrg, hcs, hrow, hnn, hM, hnx⟩ := hrel
        have hnxs : w.heap.size + 1 ≤ wr.heap.size := by have := hnx.size; simp at this; omega
        go_wp2_with (first
          | (at_next; refine wpList_next_ranges_ii _ rfl _ rfl 2 3 .i64 .i64 law2 Yba.underlying2 Yba.underlying3 mb w1.heap.size n _ _ _ rfl hrg ?_ ?_)
          | go_in)
        · -- nothing is left: the rows are sorted
          intro hc0 hl0
          obtain ⟨g, cap, rfl, hbg, hgl, hH⟩ := holdsK_of_ownsRow hrow hnn
          obtain ⟨hpos, hperm⟩ := hM.perm hl0
          have hsort := sortDc g cap cs wr hH hgl (by omega)
          go_wp2_with (go_at_call 12; refine hsort.mono ?_; rintro e w' ⟨rfl, cs', hp', hs', hH', hb'⟩)
          go_meet
          case rel =>
            have hB := hnx.trans (hb'.mono hbg)
            have hlen : cs'.length = cs.length := hp'.length_eq
            refine ⟨cs', ⟨fun p hp => hpos p (hp'.mem_iff.1 hp), hs', (hp'.flatMap_right _).trans hperm⟩, ?_, hal.trans (hB.mono (Nat.le_succ _)), by have := hb'.size; omega, fun i hi => ?_, fun i => ?_⟩
            · rw [← hlen]
              rcases Nat.eq_zero_or_pos cs'.length with h0 | h0
              · exact Or.inl ⟨List.eq_nil_of_length_eq_zero h0, _, _, by rw [h0]⟩
              · exact Or.inr ⟨h0, g, 0, cap, rfl, by have := hb'.size; omega, holdsK_cells hH'⟩
            · refine (hB.cell (p := ⟨w.heap.size, i, none⟩) (Nat.lt_succ_self _)).trans ?_
              match i, hi with | 0, _ => simp | 1, _ => simp | 2, _ => simp
            · exact (hB.frozen (p := ⟨w.heap.size, i, none⟩) (Nat.lt_succ_self _)).trans (by simp)
        · -- an entry has come: a row goes to the slice's end
          intro x c w2 cnt2 hwx hwc hlx hat hrg2 hlt hg2 hs2 hen
          have hrow2 := hrow.kept hg2 (Or.inr (row_ne_iter hrow hrg).symm)
          clear hs2
          have hw2 : w.heap.size + 1 ≤ w2.heap.size := Nat.le_trans hnxs hg2.size
          go_wp2_with (first
            | (at_builtin; refine wpList_append_own _ rfl _ _ 23 rfl (w.heap.size + 1) 38 i0 (.agg #[.int .i64 0, .int .i64 0]) 2 16 Yba.underlying23 hi hz0 hz1 hz2 rfl (by decide) _ _ _ rfl (hrow2.alloc _) ⟨w2.heap.size, 0, none⟩ 1 1 [.int .i64 x, .int .i64 c] rfl rfl (cell_two_new _ _ _ _) (by simp [Value.oneCell']) (by unfold maxLen; omega) (by omega) (by simp; omega) ?_; intro v' w3 hown' hg3 hnil3; go_frame)
            | go_in)
          have hrg3 := (hrg2.alloc _).kept hg3 (row_ne_low hrow2 (by omega)) (row_ne_iter hrow2 hrg2)
          go_roundw
          case rel =>
            refine ⟨_, cnt2, cs ++ [(x, c)], hrg3, by simp; omega, by simpa [flatDc_append, flatDc, encDc] using hown', fun hv' => by have := (hnil3.1 hv').2; omega, hM.step hC hlx hat, ?_⟩
            exact ((hnx.grown hg2 hnxs (fun j hj => by cases hj; have := hB1.size; simp at this; omega)).alloc hw2 _).grown hg3 (by simp; omega) (fun j hj => (hrow2.lt j hj).1)
          case measure => rw [hrg3.left_eq, hrg.left_eq]; exact hlt
  case rest =>
    clear hmm hf hm hS
    obtain ⟨cs, hR, hH, hbel, hsz, hz, hfz⟩ := hcut
    rcases hH with ⟨rfl, a, cap, rfl⟩ | ⟨hn, b, off, cap, rfl, hb, hc⟩
    · have h0 : l.length = 0 := hR.nil_iff.1 rfl
      have e0 : l = [] := List.eq_nil_of_length_eq_zero h0
      have z0 := hz 0 (by omega); have z1 := hz 1 (by omega); have z2 := hz 2 (by omega)
      go_wp2
      refine bodyPost_ret (v := .tuple #[.agg #[.int .i64 0, .int .i64 0, .int .i64 0], .bool false]) (by simp [results, Yba.results6, go_sem, z0, z1, z2]) rfl ⟨?_, ?_⟩
      · subst e0; simp [least, median, greatest, srt]
      · exact ((hbel.setCell (Nat.le_refl _) _).setCell (Nat.le_refl _) _).setCell (Nat.le_refl _) _
    · have hlen : (cs.length : Int) ≤ 1024 := by
        have h1 := hR.len
        have h2 : (cs.length : Int) ≤ tot cs := len_le_tot hR.pos
        omega
      have hz0 : ((cs.length : Int) == 0) = false := beq_eq_false_iff_ne.2 (by omega)
      have htot := tot_take_le cs hR.pos
      have hN := hR.len
      have HN : Hid (tot cs = l.length) := hN
      have HC : Hid (∀ j, j < cs.length → wc.cell? ⟨b, off + j * 2, none⟩ = some (.int .i64 (cs.getD j (0, 0)).1) ∧ wc.cell? ⟨b, off + j * 2 + 1, none⟩ = some (.int .i64 (cs.getD j (0, 0)).2)) := hc
      clear hN hc
      go_wp2
      go_loopw [7, 9, 53] (fun n _ i wr => ∃ k : Nat, k ≤ cs.length ∧ i = .int .i64 k ∧ n = .int .i64 (tot (cs.take k)) ∧ Below wc.heap.size wc wr) (fun _ _ i _ => cs.length - (intOf i).toNat)
      case atStart => exact ⟨0, Nat.zero_le _, rfl, rfl, Below.refl _ _⟩
      case round =>
        obtain ⟨k, hk, rfl, rfl, hbr⟩ := hrel
        by_cases hlt : k < cs.length
        · have c1 := (hbr.cell (p := ⟨b, off + k * 2, none⟩) hb).trans (HC.out k hlt).1
          have c2 := (hbr.cell (p := ⟨b, off + k * 2 + 1, none⟩) hb).trans (HC.out k hlt).2
          have HS : Hid (tot (cs.take (k + 1)) = tot (cs.take k) + (cs.getD k (0, 0)).2) := by
            show tot (cs.take (k + 1)) = tot (cs.take k) + (cs.getD k (0, 0)).2
            rw [tot_take_succ cs hlt, List.getD_eq_getElem?_getD, List.getElem?_eq_getElem hlt]; rfl
          have tb := htot k
          have tb1 := htot (k + 1)
          have hp1 : 1 ≤ (cs.getD k (0, 0)).2 := by
            rw [List.getD_eq_getElem?_getD, List.getElem?_eq_getElem hlt]; exact hR.pos _ (List.getElem_mem hlt)
          rw [HS.out, HN.out] at tb1
          generalize cs.getD k (0, 0) = p at c1 c2 HS tb1 hp1
          obtain ⟨tb0, tb2⟩ := tb
          obtain ⟨_, tb3⟩ := tb1
          go_wp2
          go_roundw
          case rel => exact ⟨k + 1, by omega, by go_num, by rw [HS.out], hbr.alloc hbr.size _⟩
          case measure => simp [intOf]; omega
        · obtain rfl : k = cs.length := by omega
          have h00 := HC.out 0 hn
          have hll := HC.out (cs.length - 1) (by omega)
          have f0 := (hbr.cell (p := ⟨b, off + 0 * 2, none⟩) hb).trans h00.1
          have f1 := (hbr.cell (p := ⟨b, off + (cs.length - 1) * 2, none⟩) hb).trans hll.1
          simp only [Nat.zero_mul, Nat.add_zero] at f0
          rw [List.take_length, HN.out]
          have HL0 : Hid ((cs.getD 0 (0, 0)).1 = least l) := by
            show (cs.getD 0 (0, 0)).1 = least l
            rw [List.getD_eq_getElem?_getD, List.getElem?_eq_getElem hn]; exact hR.least hn
          have HL1 : Hid ((cs.getD (cs.length - 1) (0, 0)).1 = greatest l) := by
            show (cs.getD (cs.length - 1) (0, 0)).1 = greatest l
            rw [List.getD_eq_getElem?_getD, List.getElem?_eq_getElem (by omega)]; exact hR.greatest hn
          rw [HL0.out] at f0
          rw [HL1.out] at f1
          have hlp : (1 : Int) ≤ l.length := by
            have := len_le_tot hR.pos
            rw [HN.out] at this; omega
          clear HL0 HL1 h00 hll
          have hbw : b < wr.heap.size := Nat.lt_of_lt_of_le hb hbr.size
          go_wp2
          go_region
          go_wp2
          have hB3 : Below wc.heap.size wc ((wr.alloc (.cells #[.int .i64 (least l), .int .i64 0, .int .i64 (greatest l)] 29)).drew) := (hbr.alloc hbr.size _).drew
          have g0 : ((wr.alloc (.cells #[.int .i64 (least l), .int .i64 0, .int .i64 (greatest l)] 29)).drew).cell? ⟨wr.heap.size, 0, none⟩ = some (.int .i64 (least l)) := by simp
          have g1 : ((wr.alloc (.cells #[.int .i64 (least l), .int .i64 0, .int .i64 (greatest l)] 29)).drew).cell? ⟨wr.heap.size, 1, none⟩ = some (.int .i64 0) := by simp
          have g2 : ((wr.alloc (.cells #[.int .i64 (least l), .int .i64 0, .int .i64 (greatest l)] 29)).drew).cell? ⟨wr.heap.size, 2, none⟩ = some (.int .i64 (greatest l)) := by simp
          have gf : ∀ i, ((wr.alloc (.cells #[.int .i64 (least l), .int .i64 0, .int .i64 (greatest l)] 29)).drew).frozen? ⟨wr.heap.size, i, none⟩ = false := by intro i; simp
          have gs : wr.heap.size < ((wr.alloc (.cells #[.int .i64 (least l), .int .i64 0, .int .i64 (greatest l)] 29)).drew).heap.size := by simp
          have hwr := hbr.size
          generalize (wr.alloc (.cells #[.int .i64 (least l), .int .i64 0, .int .i64 (greatest l)] 29)).drew = w3 at hB3 g0 g1 g2 gf gs ⊢
          obtain ⟨R, HR⟩ : ∃ R : Int, Hid (R = ((l.length : Int) + 1) / 2) := ⟨_, rfl⟩
          rw [← HR.out]
          have hR0 : 1 ≤ R := by rw [HR.out]; omega
          have hR1 : R ≤ l.length := by rw [HR.out]; omega
          clear f0 f1 hbr
          generalize wr.heap.size = sb at g0 g1 g2 gf gs hwr hbw ⊢
          go_loopw [11, 13, 79] (fun r _ i wk => ∃ k : Nat, k ≤ cs.length ∧ i = .int .i64 k ∧ r = .int .i64 (R - tot (cs.take k)) ∧ tot (cs.take k) < R ∧ Below w3.heap.size w3 wk) (fun _ _ i _ => cs.length - (intOf i).toNat)
          case atStart => exact ⟨0, Nat.zero_le _, rfl, by simp [tot], by simp [tot]; omega, Below.refl _ _⟩
          case round =>
            obtain ⟨k, hk, rfl, rfl, hlo, hbk⟩ := hrel
            have hb3 : b < w3.heap.size := by omega
            by_cases hlt : k < cs.length
            · have c1 := (hbk.cell (p := ⟨b, off + k * 2, none⟩) hb3).trans ((hB3.cell (p := ⟨b, off + k * 2, none⟩) hb).trans (HC.out k hlt).1)
              have c2 := (hbk.cell (p := ⟨b, off + k * 2 + 1, none⟩) hb3).trans ((hB3.cell (p := ⟨b, off + k * 2 + 1, none⟩) hb).trans (HC.out k hlt).2)
              have e0 := (hbk.cell (p := ⟨sb, 0, none⟩) gs).trans g0
              have e1 := (hbk.cell (p := ⟨sb, 1, none⟩) gs).trans g1
              have e2 := (hbk.cell (p := ⟨sb, 2, none⟩) gs).trans g2
              have ef : ∀ i, wr.frozen? ⟨sb, i, none⟩ = false := fun i => (hbk.frozen (p := ⟨sb, i, none⟩) gs).trans (gf i)
              have HS : Hid (tot (cs.take (k + 1)) = tot (cs.take k) + (cs.getD k (0, 0)).2) := by
                show tot (cs.take (k + 1)) = tot (cs.take k) + (cs.getD k (0, 0)).2
                rw [tot_take_succ cs hlt, List.getD_eq_getElem?_getD, List.getElem?_eq_getElem hlt]; rfl
              have HM : Hid (R ≤ tot (cs.take k) + (cs.getD k (0, 0)).2 → (cs.getD k (0, 0)).1 = median l) := by
                show R ≤ tot (cs.take k) + (cs.getD k (0, 0)).2 → (cs.getD k (0, 0)).1 = median l
                rw [List.getD_eq_getElem?_getD, List.getElem?_eq_getElem hlt]
                intro h
                exact hR.median hlt (by rw [HN.out, ← HR.out]; exact hlo) (by rw [HN.out, ← HR.out]; exact h)
              have tb := htot k
              have tb1 := htot (k + 1)
              have hp1 : 1 ≤ (cs.getD k (0, 0)).2 := by
                rw [List.getD_eq_getElem?_getD, List.getElem?_eq_getElem hlt]; exact hR.pos _ (List.getElem_mem hlt)
              rw [HS.out, HN.out] at tb1
              generalize cs.getD k (0, 0) = p at c1 c2 HS tb1 hp1 HM
              obtain ⟨tb0, tb2⟩ := tb
              obtain ⟨_, tb3⟩ := tb1
              have z0 := (hbk.cell (p := ⟨w.heap.size, 0, none⟩) (by show w.heap.size < _; omega)).trans ((hB3.cell (p := ⟨w.heap.size, 0, none⟩) hsz).trans (hz 0 (by omega)))
              have z1 := (hbk.cell (p := ⟨w.heap.size, 1, none⟩) (by show w.heap.size < _; omega)).trans ((hB3.cell (p := ⟨w.heap.size, 1, none⟩) hsz).trans (hz 1 (by omega)))
              have z2 := (hbk.cell (p := ⟨w.heap.size, 2, none⟩) (by show w.heap.size < _; omega)).trans ((hB3.cell (p := ⟨w.heap.size, 2, none⟩) hsz).trans (hz 2 (by omega)))
              have zf : ∀ i, wr.frozen? ⟨w.heap.size, i, none⟩ = false := fun i => (hbk.frozen (p := ⟨w.heap.size, i, none⟩) (by show w.heap.size < _; omega)).trans ((hB3.frozen (p := ⟨w.heap.size, i, none⟩) hsz).trans (hfz i))
              have hks := hbk.size
              have hsw : sb ≠ w.heap.size := by omega
              have hsbw : sb < wr.heap.size := by omega
              have hwbw : w.heap.size < wr.heap.size := by omega
              by_cases hle : R - tot (cs.take k) ≤ p.2
              · have hbf : Below w.heap.size w wr := hbel.trans ((hB3.mono (by omega)).trans (hbk.mono (by omega)))
                go_wp2
                refine bodyPost_ret (v := .tuple #[.agg #[.int .i64 (least l), .int .i64 p.1, .int .i64 (greatest l)], .bool true]) (by simp [results, Yba.results6, go_sem, z0, z1, z2, hwbw]) rfl ⟨?_, ?_⟩
                · rw [HM.out (by omega), show decide (0 < l.length) = true from decide_eq_true (by omega)]
                · exact ((((hbf.setCell (by show _ ≤ sb; omega) _).setCell (Nat.le_refl _) _).setCell (Nat.le_refl _) _).setCell (Nat.le_refl _) _).alloc (by simp; omega) _
              · go_wp2
                go_roundw
                case rel => exact ⟨k + 1, by omega, by go_num, by rw [HS.out]; go_num, by rw [HS.out]; omega, hbk.alloc hks _⟩
                case measure => simp [intOf]; omega
            · exfalso
              obtain rfl : k = cs.length := by omega
              rw [List.take_length, HN.out] at hlo
              omega
#print axioms summary_any
end Go.Proofs.Ybulkaaou
