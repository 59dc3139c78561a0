/-
  BOrder: the walk of symMergeCmpFunc (14), one element on a side. Own work of this seat.
-/
import Derived.Test.YbulkaasoInsertion
namespace Go.Proofs.Ybulkaaso
open Go.ChangeShapes Go.WideShapes Go.ChangeAt Go.RowKit Go.Sort

set_option maxRecDepth 100000 in
set_option maxHeartbeats 4000000 in
/-- one element on the left -/
theorem symA_walk (W : World) (g n : Nat) (E : Nat → Nat) (rk : Nat) (cf : Nat → Nat → Int) (hc : CmpOk W g n E rk cf) (hw : Weak (ltOf cf)) (cap a b : Nat) (d : Nat → Nat) (w : World) (h : St W g n E d w) (hown : ∀ k, k < n → d k < n)
    (hr : Runs (ltOf cf) a (a + 1) b d) (hab : a + 1 < b) (hbn : b ≤ n) (hn : n ≤ 300) :
    Calls Yba.prog 14 #[.slice (some ⟨g, 0, none⟩) n cap, .int .i64 a, .int .i64 ((a + 1 : Nat) : Int), .int .i64 b, .func (.func 10) #[] #[.pointer (some ⟨rk, 0, none⟩)]] w fun e w' => e = .returned (.tuple #[]) ∧ ∃ f, Merged (ltOf cf) a b d f ∧ St W g n E f w' := by
  have eg := enters_of Yba.func10 (by kernel_rfl) rfl
  have mixed : Yba.prog.follows .mixedOrders = true := by kernel_rfl
  have HR : Hid (Runs (ltOf cf) a (a + 1) b d) := hr
  clear hr
  obtain ⟨m, hm⟩ : ∃ m, m = a + 1 := ⟨_, rfl⟩
  rw [← hm]
  have e1 : ((m : Int) - (a : Int)) = 1 := by omega
  have HM : Hid (m = a + 1) := hm
  have hm1 : a < m := by omega
  have hm2 : m ≤ a + 1 := by omega
  clear hm
  go_enter Yba.func14, Yba.ntmps14
  go_wp2
  go_loopw [10, 11, 12] (fun iv jv _ wr => ∃ i j : Nat, iv = .int .i64 i ∧ jv = .int .i64 j ∧ Hid (FindA (ltOf cf) a b i j d) ∧ St W g n E d wr) (fun iv jv _ _ => (intOf jv).toNat - (intOf iv).toNat)
  case atStart => exact ⟨m, b, rfl, rfl, HM.out ▸ FindA.start (by omega), h⟩
  case round =>
    clear h
    obtain ⟨i, j, rfl, rfl, HF, hst⟩ := hrel
    have b1 := HF.out.lo
    have b2 := HF.out.ij
    have b3 := HF.out.hi
    by_cases hij : i < j
    · have hijz : (i : Int) < (j : Int) := by omega
      obtain ⟨h, hh⟩ : ∃ h, h = (i + j) / 2 := ⟨_, rfl⟩
      have eh : ((i : Int) + (j : Int)) / 2 = (h : Int) := by omega
      have hb1 : i ≤ h := by omega
      have hb2 : h < j := by omega
      have hz : (h : Int) < (n : Int) := by omega
      have az : (a : Int) < (n : Int) := by omega
      have hcc := hc.at_ hst (hown h (by omega)) (hown a (by omega))
      have c1 := fun m os => hst.cellG (show h < n by omega) m os
      have c2 := fun m os => hst.cellG (show a < n by omega) m os
      have HS : Hid (St W g n E d wr) := hst
      have HJ : Hid (ltOf cf (d h) (d a) = decide (cf (d h) (d a) < 0)) := rfl
      generalize hv : cf (d h) (d a) = v at hcc HJ
      clear hst hv hh
      go_upto_region 5 with fail
      by_cases hl : v < 0
      · have HF2 : Hid (FindA (ltOf cf) a b (h + 1) j d) := HF.out.up hw HR.out hb1 hb2 (by rw [HJ.out]; exact decide_eq_true hl)
        go_quiet_grown (refine Calls.grown_of (hcc _ _))
        have hst2 : St W g n E d (Sort.grow (wr.drewN (GrownBy.mk nq osq).n) (GrownBy.mk nq osq).os) := (HS.out.drewN nq).grow osq
        clear hcc c1 c2 HS
        generalize Sort.grow (wr.drewN (GrownBy.mk nq osq).n) (GrownBy.mk nq osq).os = wq at hst2 ⊢
        go_wp2
        go_roundw
        case rel => exact ⟨h + 1, j, by go_num, rfl, HF2, hst2⟩
        case measure => simp [intOf]; omega
      · have HF2 : Hid (FindA (ltOf cf) a b i h d) := HF.out.down hw HR.out hb1 hb2 (by rw [HJ.out]; exact decide_eq_false (by omega))
        go_quiet_grown (refine Calls.grown_of (hcc _ _))
        have hst2 : St W g n E d (Sort.grow (wr.drewN (GrownBy.mk nq osq).n) (GrownBy.mk nq osq).os) := (HS.out.drewN nq).grow osq
        clear hcc c1 c2 HS
        generalize Sort.grow (wr.drewN (GrownBy.mk nq osq).n) (GrownBy.mk nq osq).os = wq at hst2 ⊢
        go_wp2
        go_roundw
        case rel => exact ⟨i, h, rfl, rfl, HF2, hst2⟩
        case measure => simp [intOf]; omega
    · obtain rfl : i = j := by omega
      have hijz : ¬ (i : Int) < (i : Int) := by omega
      go_wp2
      go_loopw [13] (fun kv wr => ∃ k : Nat, kv = .int .i64 k ∧ a ≤ k ∧ k ≤ i - 1 ∧ ∃ e, Hid (ShiftA a b k d e) ∧ St W g n E e wr) (fun kv _ => i - (intOf kv).toNat)
      case atStart => exact ⟨a, rfl, Nat.le_refl _, by omega, d, ShiftA.start _ _ _, hst⟩
      case round =>
        clear hst
        obtain ⟨k, rfl, hak, hki, e, HA, hst⟩ := hrel
        by_cases hlt : k < i - 1
        · have hltz : (k : Int) < (i : Int) - 1 := by omega
          have c1 : wr.cell? ⟨g, k, none⟩ = some (.pointer (some ⟨E (e k), 0, none⟩)) := hst.row.cell (by omega)
          have c2 : wr.cell? ⟨g, k + 1, none⟩ = some (.pointer (some ⟨E (e (k + 1)), 0, none⟩)) := hst.row.cell (by omega)
          have z1 := hst.row.frozen k
          have z2 := hst.row.frozen (k + 1)
          have HS : Hid (ShiftA a b (k + 1) d (swp e k (k + 1)) ∧ St W g n E (swp e k (k + 1)) ((wr.setCell ⟨g, k, none⟩ (.pointer (some ⟨E (e (k + 1)), 0, none⟩))).setCell ⟨g, k + 1, none⟩ (.pointer (some ⟨E (e k), 0, none⟩)))) := ⟨HA.out.step hak (by omega), hst.swap _ _⟩
          clear hst HA
          go_wp2_with fail
          go_region
          go_wp2
          go_roundw
          case rel => exact ⟨k + 1, by go_num, by omega, by omega, _, HS.out.1, HS.out.2.drew⟩
          case measure => simp [intOf]; omega
        · obtain rfl : k = i - 1 := by omega
          have hltz : ¬ ((i - 1 : Nat) : Int) < (i : Int) - 1 := by omega
          go_wp2
          exact bodyPost_ret (results_none rfl _ _ _) rfl ⟨rfl, e, HA.out.merged HR.out HF.out, hst⟩

set_option maxRecDepth 100000 in
set_option maxHeartbeats 4000000 in
/-- one element on the right -/
theorem symB_walk (W : World) (g n : Nat) (E : Nat → Nat) (rk : Nat) (cf : Nat → Nat → Int) (hc : CmpOk W g n E rk cf) (hw : Weak (ltOf cf)) (cap a m : Nat) (d : Nat → Nat) (w : World) (h : St W g n E d w) (hown : ∀ k, k < n → d k < n)
    (hr : Runs (ltOf cf) a m (m + 1) d) (hab : a + 1 < m) (hbn : m + 1 ≤ n) (hn : n ≤ 300) :
    Calls Yba.prog 14 #[.slice (some ⟨g, 0, none⟩) n cap, .int .i64 a, .int .i64 m, .int .i64 ((m + 1 : Nat) : Int), .func (.func 10) #[] #[.pointer (some ⟨rk, 0, none⟩)]] w fun e w' => e = .returned (.tuple #[]) ∧ ∃ f, Merged (ltOf cf) a (m + 1) d f ∧ St W g n E f w' := by
  have eg := enters_of Yba.func10 (by kernel_rfl) rfl
  have mixed : Yba.prog.follows .mixedOrders = true := by kernel_rfl
  have HR : Hid (Runs (ltOf cf) a m (m + 1) d) := hr
  clear hr
  obtain ⟨b, hb⟩ : ∃ b, b = m + 1 := ⟨_, rfl⟩
  have HQ : Hid (∀ f, Merged (ltOf cf) a (m + 1) d f → Merged (ltOf cf) a b d f) := fun f hf => by rw [hb]; exact hf
  rw [← hb] at hbn ⊢
  have e0 : (((m : Int) - (a : Int)) == 1) = false := by simp; omega
  have e1 : ((b : Int) - (m : Int)) = 1 := by omega
  have hm1 : m < b := by omega
  have hm2 : b ≤ m + 1 := by omega
  clear hb
  go_enter Yba.func14, Yba.ntmps14
  go_wp2
  go_loopw [14, 15, 16] (fun iv jv _ wr => ∃ i j : Nat, iv = .int .i64 i ∧ jv = .int .i64 j ∧ Hid (FindB (ltOf cf) a m i j d) ∧ St W g n E d wr) (fun iv jv _ _ => (intOf jv).toNat - (intOf iv).toNat)
  case atStart => exact ⟨a, m, rfl, rfl, FindB.start (by omega), h⟩
  case round =>
    clear h
    obtain ⟨i, j, rfl, rfl, HF, hst⟩ := hrel
    have b1 := HF.out.lo
    have b2 := HF.out.ij
    have b3 := HF.out.hi
    by_cases hij : i < j
    · have hijz : (i : Int) < (j : Int) := by omega
      obtain ⟨h, hh⟩ : ∃ h, h = (i + j) / 2 := ⟨_, rfl⟩
      have eh : ((i : Int) + (j : Int)) / 2 = (h : Int) := by omega
      have hb1 : i ≤ h := by omega
      have hb2 : h < j := by omega
      have hz : (h : Int) < (n : Int) := by omega
      have az : (m : Int) < (n : Int) := by omega
      have hcc := hc.at_ hst (hown m (by omega)) (hown h (by omega))
      have c1 := fun m os => hst.cellG (show h < n by omega) m os
      have c2 := fun k os => hst.cellG (show m < n by omega) k os
      have HS : Hid (St W g n E d wr) := hst
      have HJ : Hid (ltOf cf (d m) (d h) = decide (cf (d m) (d h) < 0)) := rfl
      generalize hv : cf (d m) (d h) = v at hcc HJ
      clear hst hv hh
      go_upto_region 17 with fail
      by_cases hl : v < 0
      · have HF2 : Hid (FindB (ltOf cf) a m i h d) := HF.out.down hw HR.out hb1 hb2 (by rw [HJ.out]; exact decide_eq_true hl)
        go_quiet_grown (refine Calls.grown_of (hcc _ _))
        have hst2 : St W g n E d (Sort.grow (wr.drewN (GrownBy.mk nq osq).n) (GrownBy.mk nq osq).os) := (HS.out.drewN nq).grow osq
        clear hcc c1 c2 HS
        generalize Sort.grow (wr.drewN (GrownBy.mk nq osq).n) (GrownBy.mk nq osq).os = wq at hst2 ⊢
        go_wp2
        go_roundw
        case rel => exact ⟨i, h, rfl, rfl, HF2, hst2⟩
        case measure => simp [intOf]; omega
      · have HF2 : Hid (FindB (ltOf cf) a m (h + 1) j d) := HF.out.up hw HR.out hb1 hb2 (by rw [HJ.out]; exact decide_eq_false (by omega))
        go_quiet_grown (refine Calls.grown_of (hcc _ _))
        have hst2 : St W g n E d (Sort.grow (wr.drewN (GrownBy.mk nq osq).n) (GrownBy.mk nq osq).os) := (HS.out.drewN nq).grow osq
        clear hcc c1 c2 HS
        generalize Sort.grow (wr.drewN (GrownBy.mk nq osq).n) (GrownBy.mk nq osq).os = wq at hst2 ⊢
        go_wp2
        go_roundw
        case rel => exact ⟨h + 1, j, by go_num, rfl, HF2, hst2⟩
        case measure => simp [intOf]; omega
    · obtain rfl : i = j := by omega
      have hijz : ¬ (i : Int) < (i : Int) := by omega
      go_wp2
      go_loopw [17] (fun kv wr => ∃ k : Nat, kv = .int .i64 k ∧ i ≤ k ∧ k ≤ m ∧ ∃ e, Hid (ShiftB a m k d e) ∧ St W g n E e wr) (fun kv _ => (intOf kv).toNat)
      case atStart => exact ⟨m, rfl, b3, Nat.le_refl _, d, ShiftB.start _ _ _, hst⟩
      case round =>
        clear hst
        obtain ⟨k, rfl, hak, hki, e, HA, hst⟩ := hrel
        by_cases hlt : i < k
        · have hltz : (i : Int) < (k : Int) := by omega
          obtain ⟨jp, rfl⟩ : ∃ jp, k = jp + 1 := ⟨k - 1, by omega⟩
          have hjaz : (i : Int) < (jp : Int) + 1 := by omega
          have c1 : wr.cell? ⟨g, jp + 1, none⟩ = some (.pointer (some ⟨E (e (jp + 1)), 0, none⟩)) := hst.row.cell (by omega)
          have c2 : wr.cell? ⟨g, jp, none⟩ = some (.pointer (some ⟨E (e jp), 0, none⟩)) := hst.row.cell (by omega)
          have z1 := hst.row.frozen (jp + 1)
          have z2 := hst.row.frozen jp
          have HS : Hid (ShiftB a m jp d (swp e (jp + 1) jp) ∧ St W g n E (swp e (jp + 1) jp) ((wr.setCell ⟨g, jp + 1, none⟩ (.pointer (some ⟨E (e jp), 0, none⟩))).setCell ⟨g, jp, none⟩ (.pointer (some ⟨E (e (jp + 1)), 0, none⟩)))) := ⟨HA.out.step (by omega) hki, hst.swap _ _⟩
          clear hst HA
          go_wp2_with fail
          go_region
          go_wp2
          go_roundw
          case rel => exact ⟨jp, by go_num, by omega, by omega, _, HS.out.1, HS.out.2.drew⟩
          case measure => simp [intOf]
        · obtain rfl : k = i := by omega
          have hltz : ¬ (k : Int) < (k : Int) := by omega
          go_wp2
          exact bodyPost_ret (results_none rfl _ _ _) rfl ⟨rfl, e, HQ.out _ (HA.out.merged HR.out HF.out), hst⟩
end Go.Proofs.Ybulkaaso
