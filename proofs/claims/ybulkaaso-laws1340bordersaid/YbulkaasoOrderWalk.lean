/-
  BOrder: the walk of LawS1340BOrder (3). Own work of this seat.
-/
import Derived.Test.YbulkaasoFull
namespace Go.Proofs.Ybulkaaso
open Go.ChangeShapes Go.WideShapes Go.ChangeAt Go.RowKit Go.Sort Go.Maps

/-- the error records as they lie: 3 cells each -/
def AtE (w : World) (a : Option Addr) (len : Nat) (p l c : Nat → Int) : Prop :=
  ∀ i, i < len → ∃ b off, a = some ⟨b, off, none⟩ ∧ w.cell? ⟨b, off + i * 3, none⟩ = some (.int .u8 (p i)) ∧ w.cell? ⟨b, off + i * 3 + 1, none⟩ = some (.int .i64 (l i)) ∧ w.cell? ⟨b, off + i * 3 + 2, none⟩ = some (.int .i64 (c i))

theorem info42 : (Yba.prog.info? 42).isSome = true := by kernel_rfl
theorem neq_same (a : Addr) (w : World) : (binOp .neq 38 (.pointer (some a)) (.pointer (some a))).run Yba.prog w = .ok (.bool false) w := by
  obtain ⟨j, hj⟩ := Option.isSome_iff_exists.1 info42
  have h : ∀ d : Nat, (Op.equalIn (d + 1) 38 (.pointer (some a)) (.pointer (some a))).run Yba.prog w = .ok true w := fun d => by
    simp [Op.equalIn, run_underlying Yba.underlying38, sizeOf, typeInfo, hj, run_sameAddr_same]
  simp only [binOp]
  simp [Op.equal, Op.maxDepth, h 9999]

/-- what an append of one file hands back -/
noncomputable def appRes (w : World) (v x : Value) : Value × World := match (Builtin.append_ #[25, 25] 25 #[v, x]).run Yba.prog w with
  | .ok v' w' => (v', w')
  | _ => (v, w)
def AppOk (w : World) (v x : Value) : Prop := ∃ v' w', ∀ ty, (Builtin.append_ #[25, 25] ty #[v, x]).run Yba.prog w = .ok v' w'
theorem app_run (ty : TypeId) (w : World) (v x : Value) (h : AppOk w v x) : Sem.run Yba.prog (Builtin.append_ #[25, 25] ty #[v, x]) w = .ok (appRes w v x).1 (appRes w v x).2 := by
  obtain ⟨v', w', e⟩ := h
  unfold appRes
  rw [e, e]
theorem app_res {w : World} {v x v' : Value} {w' : World} (h : ∀ ty, (Builtin.append_ #[25, 25] ty #[v, x]).run Yba.prog w = .ok v' w') : appRes w v x = (v', w') := by
  unfold appRes
  rw [h]
theorem exec_app_run (ρ : Operand → Value) (dst : Option Tmp) (x1 x2 : Operand) (ty : TypeId) (pos : String) (after : Array Edge) (guard : Option (Nat × Bool)) (w : World) (h : AppOk w (ρ x1) (ρ x2)) :
    Sem.run Yba.prog (execOp ρ { dst, op := .call { callee := .builtin .append, args := #[x1, x2], argTypes := #[25, 25] }, type := ty, pos, after, guard }) w = .ok (.value (appRes w (ρ x1) (ρ x2)).1) (appRes w (ρ x1) (ρ x2)).2 := by
  simp only [execOp, resolve, invoke, builtin, Sem.run_bind, Sem.run_pure, Result.andThen_ok, List.map_toArray, List.map_cons, List.map_nil, app_run ty w (ρ x1) (ρ x2) h]
attribute [local go_sem ↓] exec_app_run

theorem Filed.drew {w : World} {S : Nat} {Q : Nat → ByteArray} {x : Value} {k : Nat} {v : Value} {F : Nat → Nat} {wr : World} (h : Filed w S Q x k v F wr) : Filed w S Q x k v F wr.drew := ⟨h.since.drew, h.prog, h.row, h.file⟩

set_option maxRecDepth 100000 in
set_option maxHeartbeats 4000000 in
theorem order_walk (a0 : Option Addr) (m cap0 : Nat) (Q : Nat → ByteArray) (a1 : Option Addr) (n cap1 : Nat) (p l c : Nat → Int) (w : World)
    (h0 : At w a0 m (fun k => .string (Q k))) (hQ : ∀ k, k < m → (Q k).size ≤ maxLen) (h1 : AtE w a1 n p l c) (hp : ∀ i, i < n → 0 ≤ p i ∧ p i ≤ 255) :
    Calls Yba.prog 3 #[.slice a0 m cap0, .slice a1 n cap1] w fun e w' => e = .returned (.bool true) ∧ w.Since w.heap.size w' := by
  have mixed : Yba.prog.follows .mixedOrders = true := by kernel_rfl
  by_cases hm : 1024 < m
  · have hm' : (1024 : Int) < (m : Int) := by omega
    go_enter Yba.func3, Yba.ntmps3
    go_wp2
    go_ret
    exact ⟨rfl, World.Since.refl _ _⟩
  have hmz : (m : Int) ≤ 1024 := by omega
  by_cases hn : 300 < n
  · have hn' : (300 : Int) < (n : Int) := by omega
    go_enter Yba.func3, Yba.ntmps3
    go_wp2
    go_ret
    exact ⟨rfl, World.Since.refl _ _⟩
  have hnz : (n : Int) ≤ 300 := by omega
  have H0 : Hid (At w a0 m (fun k => .string (Q k))) := h0
  have HQ : Hid (∀ k, k < m → (Q k).size ≤ maxLen) := hQ
  have H1 : Hid (AtE w a1 n p l c) := h1
  have HP : Hid (∀ i, i < n → 0 ≤ p i ∧ p i ≤ 255) := hp
  clear h0 hQ h1 hp
  have hst : Filed w w.heap.size Q (.map none) 0 (.slice none 0 0) (fun _ => 0) (w.alloc (.cells #[.slice none 0 0, .map none] 28)) :=
    ⟨(World.Since.refl _ _).alloc (Nat.le_refl _) _, Deep.blk_alloc_new _ _, ⟨rfl, Or.inl ⟨rfl, rfl⟩⟩, fun j hj => by omega⟩
  go_enter Yba.func3, Yba.ntmps3
  go_wp2
  generalize w.alloc (.cells #[.slice none 0 0, .map none] 28) = w2 at hst ⊢
  generalize hS : w.heap.size = S at hst ⊢
  go_loopw [6] (fun iv wr => ∃ k : Nat, k ≤ m ∧ iv = .int .i64 k ∧ ∃ v F, Filed w S Q (.map none) k v F wr) (fun iv _ => m - (intOf iv).toNat)
  case atStart => exact ⟨0, Nat.zero_le _, rfl, _, _, hst⟩
  case round =>
    clear hst
    obtain ⟨k, hk, rfl, v, F, hB⟩ := hrel
    by_cases hlt : k < m
    · as_aux_lemma =>
        have hltz : (k : Int) < (m : Int) := by omega
        obtain ⟨b, off, rfl, hc⟩ := H0.out k hlt
        have hbS : b < S := by rw [← hS]; exact lt_of_cell hc
        have hc' : wr.cell? ⟨b, off + k, none⟩ = some (.string (Q k)) := (hB.since.cell (a := ⟨b, off + k, none⟩) hbS).trans hc
        have hS2 : S < wr.heap.size := (Array.getElem?_eq_some_iff.1 hB.prog).1
        have hbl : b < wr.heap.size := by omega
        have hp0 : wr.cell? ⟨S, 0, none⟩ = some v := by simp [World.cell?, hB.prog]
        have ca : ∀ o, (wr.alloc o).cell? ⟨b, off + k, none⟩ = some (.string (Q k)) := fun o => (World.cell?_of_block (w := wr) (a := ⟨b, off + k, none⟩) (Deep.blk_alloc_lt _ _ _ hbl)).trans hc'
        have pa : ∀ o, (wr.alloc o).cell? ⟨S, 0, none⟩ = some v := fun o => (World.cell?_of_block (w := wr) (a := ⟨S, 0, none⟩) (Deep.blk_alloc_lt _ _ _ hS2)).trans hp0
        have pa2 : ∀ o o', ((wr.alloc o).alloc o').cell? ⟨S, 0, none⟩ = some v := fun o o' => (World.cell?_of_block (w := wr.alloc o) (a := ⟨S, 0, none⟩) (Deep.blk_alloc_lt _ _ _ (by simp; omega))).trans (pa o)
        obtain ⟨v', w4, hrun, HN⟩ := hB.drew.next (by omega)
        have hrun3 : ∀ ty, (Builtin.append_ #[25, 25] ty #[v, .slice (some ⟨wr.heap.size + 1, 0, none⟩) 1 1]).run Yba.prog (((wr.alloc (.cells #[.string (Q k), .slice none 0 0] 32)).alloc (.cells #[.pointer (some ⟨wr.heap.size, 0, none⟩)] 29)).drew) = .ok v' w4 := hrun
        obtain ⟨a', c', rfl⟩ : ∃ a' c', v' = .slice a' (k + 1) c' := by
          obtain ⟨_, F', hF'⟩ := HN.out
          obtain ⟨a', c', e, _⟩ := hF'.files
          exact ⟨a', c', e⟩
        have q0 : w4.cell? ⟨S, 0, none⟩ = some v := by simp [World.cell?, HN.out.1]
        have z0 : w4.frozen? ⟨S, 0, none⟩ = false := by simp [World.frozen?, HN.out.1]
        have cb0 : True := trivial
        have cb : w4.cell? ⟨b, off + k, none⟩ = some (.string (Q k)) := by
          obtain ⟨_, F', hF'⟩ := HN.out
          have e : w4.heap[b]? = w.heap[b]? := (Deep.blk_setCell_other w4 ⟨S, 0, none⟩ _ b (by show b ≠ S; omega)).symm.trans (hF'.since.block b hbS)
          exact (World.cell?_of_block (w := w) (a := ⟨b, off + k, none⟩) e).trans hc
        have cb2 : (w4.setCell ⟨S, 0, none⟩ (.slice a' (k + 1) c')).cell? ⟨b, off + k, none⟩ = some (.string (Q k)) := (World.cell?_of_block (w := w4) (a := ⟨b, off + k, none⟩) (Deep.blk_setCell_other w4 ⟨S, 0, none⟩ _ b (by show b ≠ S; omega))).trans cb
        clear hB hc hrun
        generalize Q k = qk at hc' ca hrun3 cb cb2
        go_wp2_with fail
        have hok : AppOk ((wr.alloc (.cells #[.string qk, .slice none 0 0] 32)).alloc (.cells #[.pointer (some ⟨wr.heap.size, 0, none⟩)] 29)).drew v (.slice (some ⟨wr.heap.size + 1, 0, none⟩) 1 1) := ⟨_, _, hrun3⟩
        have hres := app_res hrun3
        clear hrun3
        go_region
        go_wp2
        go_roundw
        case rel =>
          obtain ⟨_, F', hF'⟩ := HN.out
          exact ⟨k + 1, by omega, by go_num, _, F', hF'⟩
        case measure => simp [intOf]; omega
    · obtain rfl : k = m := by omega
      have hk0 : ¬ (k : Int) < (k : Int) := by omega
      obtain ⟨w1, rfl⟩ : ∃ w1, w1 = wr := ⟨wr, rfl⟩
      obtain ⟨Pt, hPt⟩ : ∃ Pt : Nat → ByteArray, ∀ i, Pt i = pathOf Q k (p i).toNat := ⟨fun i => pathOf Q k (p i).toNat, fun _ => rfl⟩
      obtain ⟨R, hR⟩ : ∃ R : Nat → Int, ∀ i, R i = rankUp Q k (Pt i).data.toList := ⟨fun i => rankUp Q k (Pt i).data.toList, fun _ => rfl⟩
      have HPt : Hid (∀ i, Pt i = pathOf Q k (p i).toNat) := hPt
      have HR : Hid (∀ i, R i = rankUp Q k (Pt i).data.toList) := hR
      clear hPt hR
      have HB : Hid (Filed w S Q (.map none) k v F w1) := hB
      have hmk1 := fun w => run_make_row' (P := Yba.prog) 33 38 (.pointer none) 8 Yba.underlying33 info38 rfl .i64 .i64 n (by omega) (by omega) w
      have hmk2 := fun w => run_make_row' (P := Yba.prog) 34 3 (.int .i64 0) 8 Yba.underlying34 info3 rfl .i64 .i64 n (by omega) (by omega) w
      have hls := Lst.start w1 n Pt R l c
      have hSB : S < w1.heap.size := (Array.getElem?_eq_some_iff.1 hB.prog).1
      clear hB
      go_wp2
      clear hmk2
      generalize (((w1.alloc (.cells (madeCells #[.pointer none] n) 38)).alloc (.cells (madeCells #[.int .i64 0] n) 3)).alloc (.cells (madeCells #[.int .i64 0] n) 3)) = w3 at hls ⊢
      generalize hBB : w1.heap.size = B at hls hSB ⊢
      go_loopw [10, 11] (fun iv _ wq => ∃ i : Nat, i ≤ n ∧ iv = .int .i64 i ∧ Lst w1 B n Pt R l c i i i wq) (fun iv _ _ => n - (intOf iv).toNat)
      case atStart => exact ⟨0, Nat.zero_le _, rfl, hls⟩
      case round =>
        clear hls
        obtain ⟨i, hi, rfl, hL⟩ := hrel
        by_cases hin : i < n
        · as_aux_lemma =>
            have hinz : (i : Int) < (n : Int) := by omega
            have hsS : ∀ X, w1.Since B X → w.Since S X := fun X hX => HB.out.since.trans ⟨hX.os, hX.tape, hX.output, hX.size, fun j hj => hX.block j (by omega)⟩
            have hAt : ∀ X, w1.Since B X → At X a0 k (fun j => .string (Q j)) := fun X hX j hj => by
              obtain ⟨b, off, e, hc⟩ := H0.out j hj
              exact ⟨b, off, e, ((hsS X hX).cell (a := ⟨b, off + j, none⟩) (by rw [← hS]; exact lt_of_cell hc)).trans hc⟩
            obtain ⟨b1, off1, rfl, x0, x1, x2⟩ := H1.out i hin
            have hb1 : b1 < S := by rw [← hS]; exact lt_of_cell x0
            obtain ⟨y0, y1, y2⟩ : wr.cell? ⟨b1, off1 + i * 3, none⟩ = some (.int .u8 (p i)) ∧ wr.cell? ⟨b1, off1 + i * 3 + 1, none⟩ = some (.int .i64 (l i)) ∧ wr.cell? ⟨b1, off1 + i * 3 + 2, none⟩ = some (.int .i64 (c i)) :=
              ⟨((hsS _ hL.since).cell (a := ⟨b1, off1 + i * 3, none⟩) hb1).trans x0, ((hsS _ hL.since).cell (a := ⟨b1, off1 + i * 3 + 1, none⟩) hb1).trans x1, ((hsS _ hL.since).cell (a := ⟨b1, off1 + i * 3 + 2, none⟩) hb1).trans x2⟩
            have hsz := hL.size
            have hbw : b1 < wr.heap.size := by omega
            have ya1 : ∀ o, (wr.alloc o).cell? ⟨b1, off1 + i * 3 + 1, none⟩ = some (.int .i64 (l i)) := fun o => (cell_allocOld _ hbw).trans y1
            have ya2 : ∀ o, (wr.alloc o).cell? ⟨b1, off1 + i * 3 + 2, none⟩ = some (.int .i64 (c i)) := fun o => (cell_allocOld _ hbw).trans y2
            have f1 : ∀ o, (wr.alloc o).frozen? ⟨B, i, none⟩ = false := fun o => (hL.errs.alloc o).frozen i
            have g1 : ∀ o, (wr.alloc o).cell? ⟨B, i, none⟩ = some (.pointer none) := fun o => ((hL.errs.alloc o).cell hin).trans (by simp)
            have hBw : B < wr.heap.size := by omega
            obtain ⟨hp0, hp1⟩ := HP.out i hin
            have hpw := path_walk a0 k cap0 Q (p i) wr (hAt wr hL.since) (by omega) hp0 hp1
            rw [← HPt.out i] at hpw
            have HL : Hid (Lst w1 B n Pt R l c i i i wr) := hL
            have HAt : Hid (∀ X, w1.Since B X → At X a0 k (fun j => .string (Q j))) := hAt
            clear hL hAt hsS x0 x1 x2 hsz
            go_wp2_with fail
            refine hpw.mono ?_
            rintro e wz ⟨rfl, hwz⟩
            subst hwz
            go_upto_region 15 with fail
            go_cut [] (fun wx => Lst w1 B n Pt R l c (i + 1) i i wx)
            case first =>
              go_region
              go_wp2
              go_meet
              case rel => exact (HL.out.err _ rfl rfl rfl).drew
            case rest =>
              clear HL y0 y1 y2 ya1 ya2 f1 g1 hpw
              have hrw := rank_walk a0 k cap0 Q (Pt i) wc (HAt.out wc hcut.since) (by omega)
              rw [← HR.out i] at hrw
              have f2 := hcut.rks.frozen i
              have g2 : wc.cell? ⟨B + 1, i, none⟩ = some (.int .i64 0) := (hcut.rks.cell hin).trans (by simp)
              have h3 := hcut.rank
              have f3 := h3.idx.frozen i
              have g3 : (wc.setCell ⟨B + 1, i, none⟩ (.int .i64 (R i))).cell? ⟨B + 2, i, none⟩ = some (.int .i64 0) := (h3.idx.cell hin).trans (by simp)
              have HL4 : Hid (Lst w1 B n Pt R l c (i + 1) (i + 1) (i + 1) ((wc.setCell ⟨B + 1, i, none⟩ (.int .i64 (R i))).setCell ⟨B + 2, i, none⟩ (.int .i64 (i : Int)))) := h3.index
              clear hcut h3
              go_wp2_with fail
              refine hrw.mono ?_
              rintro e wy ⟨rfl, hwy⟩
              subst hwy
              go_wp2
              go_roundw
              case rel => exact ⟨i + 1, by omega, by go_num, HL4.out⟩
              case measure => simp [intOf]; omega
        · obtain rfl : n = i := by omega
          have hi0 : ¬ (n : Int) < (n : Int) := by omega
          obtain ⟨w4, hcp, HFU⟩ := hL.copied
          have HSZ : Hid (wr.heap.size = B + 3 + n) := hL.size
          clear hL
          go_wp2
          clear hcp hmk1
          rw [HSZ.out]
          clear HSZ
          go_loopw [13, 14, 15, 16] (fun iv _ _ _ wq => ∃ i : Nat, iv = .int .i64 i ∧ 1 ≤ i ∧ (i ≤ n ∨ i = 1) ∧ ∃ d, Hid (Outer (ltOf (cfOf R l c)) 0 n i (fun j => j) d) ∧ Hid (Full w1 B n Pt R l c d (fun j => j) wq)) (fun iv _ _ _ _ => n - (intOf iv).toNat)
          case atStart => exact ⟨1, rfl, Nat.le_refl _, Or.inr rfl, _, Outer.start (fun q r _ h _ => h), HFU⟩
          case round =>
            clear HFU
            obtain ⟨i, rfl, i1, hib, d, HO, HFU⟩ := hrel
            by_cases hin : i < n
            · as_aux_lemma =>
                have hinz : (i : Int) < (n : Int) := by omega
                have HI0 : Hid (Inner (ltOf (cfOf R l c)) 0 n i i (fun j => j) d) := HO.out.inner hin
                go_wp2
                go_loopw [14, 15, 16] (fun jv _ _ wq => ∃ j : Nat, jv = .int .i64 j ∧ j ≤ i ∧ ∃ d, Hid (Inner (ltOf (cfOf R l c)) 0 n i j (fun j => j) d) ∧ Hid (Full w1 B n Pt R l c d (fun j => j) wq)) (fun jv _ _ _ => (intOf jv).toNat)
                case atStart => exact ⟨i, rfl, Nat.le_refl _, d, HI0, HFU⟩
                case round =>
                  clear HI0 HFU HO
                  obtain ⟨j, rfl, hji, d2, HI, HFU⟩ := hrel
                  by_cases hj0 : 0 < j
                  · obtain ⟨jp, rfl⟩ : ∃ jp, j = jp + 1 := ⟨j - 1, by omega⟩
                    have hjz : (0 : Int) < (jp : Int) + 1 := by omega
                    have hwp : IntKind.i64.wrap (jp : Int) = (jp : Int) := by rw [IntKind.wrap_i64]; omega
                    have own := Own.sw (fun _ h => h) HI.out.sw (Nat.le_refl n)
                    have hx := own (jp + 1) (by omega)
                    have hy := own jp (by omega)
                    have c1 : wr.cell? ⟨B + 2, jp + 1, none⟩ = some (.int .i64 (d2 (jp + 1))) := HFU.out.idx.cell (by omega)
                    have c2 : wr.cell? ⟨B + 2, jp, none⟩ = some (.int .i64 (d2 jp)) := HFU.out.idx.cell (by omega)
                    have c3 : wr.cell? ⟨B + 1, d2 (jp + 1), none⟩ = some (.int .i64 (R (d2 (jp + 1)))) := HFU.out.rks.cell hx
                    have c4 : wr.cell? ⟨B + 1, d2 jp, none⟩ = some (.int .i64 (R (d2 jp))) := HFU.out.rks.cell hy
                    have c5 : wr.cell? ⟨B, d2 (jp + 1), none⟩ = some (.pointer (some ⟨B + 3 + d2 (jp + 1), 0, none⟩)) := HFU.out.errs.cell hx
                    have c6 : wr.cell? ⟨B, d2 jp, none⟩ = some (.pointer (some ⟨B + 3 + d2 jp, 0, none⟩)) := HFU.out.errs.cell hy
                    have z1 := HFU.out.idx.frozen (jp + 1)
                    have z2 := HFU.out.idx.frozen jp
                    have hle := fun q => less_walk (R (d2 (jp + 1))) (R (d2 jp)) (B + 3 + d2 (jp + 1)) (B + 3 + d2 jp) (l (d2 (jp + 1))) (c (d2 (jp + 1))) (l (d2 jp)) (c (d2 jp)) (wr.drewN q) (HFU.out.line _ hx) (HFU.out.col _ hx) (HFU.out.line _ hy) (HFU.out.col _ hy)
                    have HFS : Hid (∀ q, Full w1 B n Pt R l c (swp d2 (jp + 1) jp) (fun j => j) (((wr.drewN q).setCell ⟨B + 2, jp + 1, none⟩ (.int .i64 (d2 jp))).setCell ⟨B + 2, jp, none⟩ (.int .i64 (d2 (jp + 1))))) := fun q => (HFU.out.drewN q).swap _ _
                    have HLT : Hid (ltOf (cfOf R l c) (d2 (jp + 1)) (d2 jp) = decide (cmpOf (R (d2 (jp + 1))) (l (d2 (jp + 1))) (c (d2 (jp + 1))) (R (d2 jp)) (l (d2 jp)) (c (d2 jp)) < 0)) := rfl
                    have HST : Hid (∀ b, ltOf (cfOf R l c) (d2 (jp + 1)) (d2 jp) = b → (b = true → Inner (ltOf (cfOf R l c)) 0 n i jp (fun j => j) (swp d2 (jp + 1) jp)) ∧ (b = false → Outer (ltOf (cfOf R l c)) 0 n (i + 1) (fun j => j) d2)) := fun b hb =>
                      ⟨fun e => HI.out.step (Nat.zero_le _) hji hin (hb.trans e), fun e => HI.out.stop (weak_of R l c) (Nat.zero_le _) hji (Or.inr (by simp only [Nat.add_sub_cancel]; exact hb.trans e))⟩
                    generalize decide (cmpOf (R (d2 (jp + 1))) (l (d2 (jp + 1))) (c (d2 (jp + 1))) (R (d2 jp)) (l (d2 jp)) (c (d2 jp)) < 0) = b at hle HLT
                    have hst := HST.out b HLT.out
                    generalize d2 (jp + 1) = x at c1 c3 c5 hx hle HFS
                    generalize d2 jp = y at c2 c4 c6 hy hle HFS
                    clear HI HLT HST own
                    have hxz : (x : Int) < (n : Int) := by omega
                    have hyz : (y : Int) < (n : Int) := by omega
                    cases b
                    · have HOU : Hid (Outer (ltOf (cfOf R l c)) 0 n (i + 1) (fun j => j) d2) := hst.2 rfl
                      clear hst
                      go_upto_region 28 with fail
                      go_quiet (refine Calls.quiet_of (hle _))
                      have hfu2 : Hid (Full w1 B n Pt R l c d2 (fun j => j) (wr.drewN nq)) := HFU.out.drewN nq
                      go_wp2
                      go_roundw
                      case rel => exact ⟨i + 1, by go_num, by omega, Or.inl (by omega), d2, HOU, hfu2⟩
                      case measure => simp [intOf]; omega
                    · have HIN : Hid (Inner (ltOf (cfOf R l c)) 0 n i jp (fun j => j) (swp d2 (jp + 1) jp)) := hst.1 rfl
                      clear hst
                      go_upto_region 28 with fail
                      go_quiet (refine Calls.quiet_of (hle _))
                      have hfs2 : Hid _ := HFS.out nq
                      have k1 : (wr.drewN nq).cell? ⟨B + 2, jp + 1, none⟩ = some (.int .i64 x) := c1
                      have k2 : (wr.drewN nq).cell? ⟨B + 2, jp, none⟩ = some (.int .i64 y) := c2
                      have y1 : (wr.drewN nq).frozen? ⟨B + 2, jp + 1, none⟩ = false := z1
                      have y2 : (wr.drewN nq).frozen? ⟨B + 2, jp, none⟩ = false := z2
                      clear HFS HFU c1 c2 c3 c4 c5 c6 z1 z2 hle
                      generalize wr.drewN nq = wq at hfs2 k1 k2 y1 y2 ⊢
                      go_wp2
                      go_roundw
                      case rel => exact ⟨jp, by go_num, by omega, _, HIN, hfs2⟩
                      case measure => simp [intOf]
                  · obtain rfl : j = 0 := by omega
                    have HOU : Hid (Outer (ltOf (cfOf R l c)) 0 n (i + 1) (fun j => j) d2) := HI.out.stop (weak_of R l c) (Nat.le_refl _) hji (Or.inl rfl)
                    go_wp2
                    go_roundw
                    case rel => exact ⟨i + 1, by go_num, by omega, Or.inl (by omega), d2, HOU, HFU⟩
                    case measure => simp [intOf]; omega
            · have hinz : ¬ (i : Int) < (n : Int) := by omega
              have HSO : Hid (Sorted (ltOf (cfOf R l c)) 0 n d) := fun p q h1 h2 h3 => HO.out.sorted p q h1 h2 (by omega)
              have HSW : Hid (Sw 0 n (fun j => j) d) := HO.out.sw
              have hfu : Full w1 B n Pt R l c d (fun j => if j < 0 then d j else j) wr := by simpa using HFU.out
              clear HO HFU
              go_wp2
              go_loopw [17] (fun iv wq => ∃ i : Nat, i ≤ n ∧ iv = .int .i64 i ∧ Hid (Full w1 B n Pt R l c d (fun j => if j < i then d j else j) wq)) (fun iv _ => n - (intOf iv).toNat)
              case atStart => exact ⟨0, Nat.zero_le _, rfl, hfu⟩
              case round =>
                clear hfu hinz i1 hib hin
                obtain ⟨i, hi, rfl, HFU⟩ := hrel
                by_cases hin : i < n
                · as_aux_lemma =>
                    have hinz : (i : Int) < (n : Int) := by omega
                    have hx := Own.sw (fun _ h => h) HSW.out (Nat.le_refl n) i hin
                    have c1 : wr.cell? ⟨B + 2, i, none⟩ = some (.int .i64 (d i)) := HFU.out.idx.cell hin
                    have c2 : wr.cell? ⟨B, d i, none⟩ = some (.pointer (some ⟨B + 3 + d i, 0, none⟩)) := HFU.out.errs.cell hx
                    have c3 : wr.cell? ⟨B + 3 + n, i, none⟩ = some (.pointer (some ⟨B + 3 + i, 0, none⟩)) := (HFU.out.want.cell hin).trans (by simp)
                    have z3 := HFU.out.want.frozen i
                    have HF2 : Hid (Full w1 B n Pt R l c d (fun j => if j < i + 1 then d j else j) (wr.setCell ⟨B + 3 + n, i, none⟩ (.pointer (some ⟨B + 3 + d i, 0, none⟩)))) := HFU.out.put hin
                    clear HFU
                    have hxz : ((d i : Nat) : Int) < (n : Int) := by omega
                    generalize hxx : d i = x at c1 c2 hx HF2 hxz
                    clear hxx
                    go_wp2
                    go_roundw
                    case rel => exact ⟨i + 1, by omega, by go_num, HF2⟩
                    case measure => simp [intOf]; omega
                · obtain rfl : n = i := by omega
                  have hinz : ¬ (n : Int) < (n : Int) := by omega
                  obtain ⟨aF, capF, hv, hFi⟩ := HB.out.files
                  have hfull := HFU.out
                  have hS0 : wr.cell? ⟨S, 0, none⟩ = some (.slice aF k capF) := by
                    rw [hfull.since.cell (a := ⟨S, 0, none⟩) hSB, ← hv]
                    simp [World.cell?, HB.out.prog]
                  have hFi2 : Files wr aF k F Q := fun j hj => by
                    obtain ⟨b, e, x1, x2⟩ := hFi j hj
                    exact ⟨b, e, (hfull.since.cell (a := ⟨b, j, none⟩) (by rw [← hBB]; exact lt_of_cell x1)).trans x1, (hfull.since.cell (a := ⟨F j, 0, none⟩) (by rw [← hBB]; exact lt_of_cell x2)).trans x2⟩
                  have hPs : ∀ j, j < n → (Pt j).size ≤ maxLen := fun j hj => by
                    rw [HPt.out j]
                    unfold pathOf
                    split
                    · exact HQ.out _ (by assumption)
                    · show (10 : Nat) ≤ maxLen; unfold maxLen; omega
                  have hcall := SortErrors_walk wr S aF k capF F Q B n n (fun j => B + 3 + j) Pt R l c hS0 hFi2 (by omega) HQ.out hfull.errs (fun j hj => ⟨hfull.path j hj, hfull.line j hj, hfull.col j hj⟩) (fun j hj => by show B + 3 + j ≠ B; omega) hPs (fun j hj => HR.out j) (by omega)
                  have HW : Hid (wr.rowIs (B + 3 + n) 38 n (fun j => .pointer (some ⟨B + 3 + d j, 0, none⟩))) := hfull.want.congr (fun j hj => by simp [hj])
                  have HSI : Hid (w.Since S wr) := HB.out.since.trans ⟨hfull.since.os, hfull.since.tape, hfull.since.output, hfull.since.size, fun j hj => hfull.since.block j (by omega)⟩
                  have hBl : B < wr.heap.size := hfull.errs.lt
                  clear hfull hS0 hFi2 hPs hFi HFU
                  go_wp2_with fail
                  refine hcall.mono ?_
                  rintro en w7 ⟨rfl, f, s1, s2, s3, s4⟩
                  have heq := unique (weak_of R l c) s1 HSW.out s2 HSO.out
                  have H3 : Hid (w7.rowIs B 38 n (fun j => .pointer (some ⟨B + 3 + d j, 0, none⟩))) := s3.congr (fun j hj => by rw [heq j hj])
                  have H4 : Hid (w7.rowIs (B + 3 + n) 38 n (fun j => .pointer (some ⟨B + 3 + d j, 0, none⟩))) := HW.out.of_block (s4.block _ HW.out.lt (fun e => by have := Option.some.inj e; omega))
                  have H5 : Hid (w.Since S w7) := HSI.out.trans ⟨s4.os, s4.tape, s4.output, s4.size, fun j hj => s4.block j (by omega) (fun e => by have := Option.some.inj e; omega)⟩
                  clear s1 s2 s3 s4 heq hcall HW HSI
                  have hne0 : ((n : Int) != (n : Int)) = false := by simp
                  have hneq := neq_same
                  go_wp2
                  go_loopw [18] (fun iv wq => ∃ i : Nat, i ≤ n ∧ iv = .int .i64 i ∧ Hid (∃ q, wq = w7.drewN q)) (fun iv _ => n - (intOf iv).toNat)
                  case atStart => exact ⟨0, Nat.zero_le _, rfl, 0, rfl⟩
                  case round =>
                    obtain ⟨i, hi2, rfl, HQ7⟩ := hrel
                    by_cases hin2 : i < n
                    · have hinz2 : (i : Int) < (n : Int) := by omega
                      have c1 : wr.cell? ⟨B, i, none⟩ = some (.pointer (some ⟨B + 3 + d i, 0, none⟩)) := by obtain ⟨q, hq⟩ := HQ7.out; rw [hq]; exact H3.out.cell hin2
                      have c2 : wr.cell? ⟨B + 3 + n, i, none⟩ = some (.pointer (some ⟨B + 3 + d i, 0, none⟩)) := by obtain ⟨q, hq⟩ := HQ7.out; rw [hq]; exact H4.out.cell hin2
                      generalize d i = x at c1 c2
                      go_upto_region 41 with fail
                      go_quiet (fail)
                      have HQ8 : Hid (∃ q, wr.drewN nq = w7.drewN q) := by obtain ⟨q, hq⟩ := HQ7.out; exact ⟨q + nq, by rw [hq, World.drewN_drewN]⟩
                      clear HQ7 c1 c2
                      generalize wr.drewN nq = wq at HQ8 ⊢
                      go_wp2
                      go_roundw
                      case rel => exact ⟨i + 1, by omega, by go_num, HQ8⟩
                      case measure => simp [intOf]; omega
                    · obtain rfl : n = i := by omega
                      have hinz2 : ¬ (n : Int) < (n : Int) := by omega
                      have hfin : w.Since S wr := by obtain ⟨q, hq⟩ := HQ7.out; rw [hq]; exact ⟨H5.out.os, H5.out.tape, H5.out.output, H5.out.size, H5.out.block⟩
                      go_wp2
                      go_ret
                      exact ⟨rfl, hS ▸ hfin⟩
end Go.Proofs.Ybulkaaso
