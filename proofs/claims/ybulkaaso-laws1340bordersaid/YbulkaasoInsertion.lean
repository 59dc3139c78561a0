/-
  BOrder: the walk of insertionSortCmpFunc (13). Own work of this seat.
-/
import Derived.Test.YbulkaasoSwaps
import Derived.Shelf.Abstract
namespace Go.Proofs.Ybulkaaso
open Go.ChangeShapes Go.WideShapes Go.ChangeAt Go.RowKit Go.Sort

/-- what is asked of the comparison, the closure (10) over the rank's cell rk: at every world that parts from W in block g alone it hands back cf i j; it may lay blocks -/
def CmpOk (W : World) (g n : Nat) (E : Nat → Nat) (rk : Nat) (cf : Nat → Nat → Int) : Prop :=
  ∀ w, W.grownBy w (some g) → ∀ i j, i < n → j < n →
    Calls Yba.prog 10 #[.pointer (some ⟨E i, 0, none⟩), .pointer (some ⟨E j, 0, none⟩), .pointer (some ⟨rk, 0, none⟩)] w fun e w' => e = .returned (.int .i64 (cf i j)) ∧ ∃ q os, w' = grow (w.drewN q) os

def ltOf (cf : Nat → Nat → Int) (i j : Nat) : Bool := decide (cf i j < 0)

theorem Own.sw {a b n : Nat} {d e : Nat → Nat} (h : ∀ k, k < n → d k < n) (hs : Sw a b d e) (hb : b ≤ n) : ∀ k, k < n → e k < n := fun k hk => by
  by_cases c : a ≤ k ∧ k < b
  · obtain ⟨k', _, h2, e⟩ := hs.from k c.1 c.2
    rw [e]; exact h k' (by omega)
  · rw [hs.out (by omega)]; exact h k hk

theorem CmpOk.at_ {W : World} {g n : Nat} {E : Nat → Nat} {rk : Nat} {cf : Nat → Nat → Int} (h : CmpOk W g n E rk cf) {d : Nat → Nat} {w : World} (hst : St W g n E d w) {i j : Nat} (hi : i < n) (hj : j < n) (m : Nat) (os : Array Obj) :
    Calls Yba.prog 10 #[.pointer (some ⟨E i, 0, none⟩), .pointer (some ⟨E j, 0, none⟩), .pointer (some ⟨rk, 0, none⟩)] (grow (w.drewN m) os) fun e w' => e = .returned (.int .i64 (cf i j)) ∧ ∃ q os', w' = grow ((grow (w.drewN m) os).drewN q) os' :=
  h _ ((hst.drewN m).grow os).kept i j hi hj

theorem St.cellG {W : World} {g n : Nat} {E d : Nat → Nat} {w : World} (h : St W g n E d w) {k : Nat} (hk : k < n) (m : Nat) (os : Array Obj) : (Sort.grow (w.drewN m) os).cell? ⟨g, k, none⟩ = some (.pointer (some ⟨E (d k), 0, none⟩)) :=
  ((h.drewN m).grow os).row.cell hk

set_option maxRecDepth 100000 in
set_option maxHeartbeats 4000000 in
theorem insertion_walk (W : World) (g n : Nat) (E : Nat → Nat) (rk : Nat) (cf : Nat → Nat → Int) (hc : CmpOk W g n E rk cf) (hw : Weak (ltOf cf)) (cap a b : Nat) (d : Nat → Nat) (w : World) (h : St W g n E d w) (hown : ∀ k, k < n → d k < n)
    (hinc : ∀ q r, a ≤ q → q < r → r < b → d q < d r) (hab : a ≤ b) (hbn : b ≤ n) (hn : n ≤ 300) :
    Calls Yba.prog 13 #[.slice (some ⟨g, 0, none⟩) n cap, .int .i64 a, .int .i64 b, .func (.func 10) #[] #[.pointer (some ⟨rk, 0, none⟩)]] w fun e w' => e = .returned (.tuple #[]) ∧ ∃ f, Merged (ltOf cf) a b d f ∧ St W g n E f w' := by
  have eg := enters_of Yba.func10 (by kernel_rfl) rfl
  have mixed : Yba.prog.follows .mixedOrders = true := by kernel_rfl
  go_enter Yba.func13, Yba.ntmps13
  go_wp2
  go_loopw [8, 9] (fun iv _ wr => ∃ i : Nat, iv = .int .i64 i ∧ a < i ∧ (i ≤ b ∨ i = a + 1) ∧ ∃ e, Hid (Outer (ltOf cf) a b i d e) ∧ St W g n E e wr) (fun iv _ _ => b - (intOf iv).toNat)
  case atStart => exact ⟨a + 1, by go_num, by omega, Or.inr rfl, d, Outer.start hinc, h⟩
  case round =>
    obtain ⟨i, rfl, hai, hib, e, HO, hst⟩ := hrel
    by_cases hlt : i < b
    · have hltz : (i : Int) < (b : Int) := by omega
      have HI : Hid (Inner (ltOf cf) a b i i d e) := HO.out.inner hlt
      clear HO h
      go_wp2
      go_loopw [9] (fun jv wr => ∃ j : Nat, jv = .int .i64 j ∧ a ≤ j ∧ j ≤ i ∧ ∃ e, Hid (Inner (ltOf cf) a b i j d e) ∧ St W g n E e wr) (fun jv _ => (intOf jv).toNat)
      case atStart => exact ⟨i, rfl, by omega, Nat.le_refl _, e, HI, hst⟩
      case round =>
        clear HI hst
        obtain ⟨j, rfl, haj, hji, e2, HI, hst⟩ := hrel
        by_cases hja : a < j
        · obtain ⟨jp, rfl⟩ : ∃ jp, j = jp + 1 := ⟨j - 1, by omega⟩
          have hjaz : (a : Int) < (jp : Int) + 1 := by omega
          have hwp : IntKind.i64.wrap (jp : Int) = (jp : Int) := by rw [IntKind.wrap_i64]; omega
          have jz : (jp : Int) + 1 < (n : Int) := by omega
          have jz1 : (jp : Int) < (n : Int) := by omega
          have p0 : (0 : Int) ≤ (jp : Int) + 1 := by omega
          have e0 : ((jp : Int) + 1).toNat = jp + 1 := by omega
          have hown2 := Own.sw hown HI.out.sw hbn
          have hcc := hc.at_ hst (hown2 (jp + 1) (by omega)) (hown2 jp (by omega))
          have c1 := fun m os => hst.cellG (show jp + 1 < n by omega) m os
          have c2 := fun m os => hst.cellG (show jp < n by omega) m os
          have HS : Hid (St W g n E e2 wr) := hst
          have HJ : Hid (ltOf cf (e2 (jp + 1)) (e2 jp) = decide (cf (e2 (jp + 1)) (e2 jp) < 0)) := rfl
          generalize hv : cf (e2 (jp + 1)) (e2 jp) = v at hcc HJ
          clear hst hv
          by_cases hl : v < 0
          · go_wp2_with fail
            go_quiet_grown (refine Calls.grown_of (hcc _ _))
            have hst2 : St W g n E e2 (Sort.grow (wr.drewN (GrownBy.mk nq osq).n) (GrownBy.mk nq osq).os) := (HS.out.drewN nq).grow osq
            clear hcc c1 c2 HS
            generalize Sort.grow (wr.drewN (GrownBy.mk nq osq).n) (GrownBy.mk nq osq).os = wq at hst2 ⊢
            have c1 : wq.cell? ⟨g, jp + 1, none⟩ = some (.pointer (some ⟨E (e2 (jp + 1)), 0, none⟩)) := hst2.row.cell (by omega)
            have c2 : wq.cell? ⟨g, jp, none⟩ = some (.pointer (some ⟨E (e2 jp), 0, none⟩)) := hst2.row.cell (by omega)
            have z1 := hst2.row.frozen (jp + 1)
            have z2 := hst2.row.frozen jp
            have HS : Hid (Inner (ltOf cf) a b i jp d (swp e2 (jp + 1) jp) ∧ St W g n E (swp e2 (jp + 1) jp) ((wq.setCell ⟨g, jp + 1, none⟩ (.pointer (some ⟨E (e2 jp), 0, none⟩))).setCell ⟨g, jp, none⟩ (.pointer (some ⟨E (e2 (jp + 1)), 0, none⟩)))) := ⟨HI.out.step (by omega) (by omega) hlt (by rw [HJ.out]; exact decide_eq_true hl), hst2.swap _ _⟩
            clear hst2 HI HJ
            go_wp2_with fail
            go_region
            go_wp2
            go_roundw
            case rel => exact ⟨jp, by go_num, by omega, by omega, _, HS.out.1, HS.out.2.drew⟩
            case measure => simp [intOf]
          · go_wp2_with fail
            go_quiet_grown (refine Calls.grown_of (hcc _ _))
            have hst2 : St W g n E e2 (Sort.grow (wr.drewN (GrownBy.mk nq osq).n) (GrownBy.mk nq osq).os) := (HS.out.drewN nq).grow osq
            clear hcc c1 c2 HS
            generalize Sort.grow (wr.drewN (GrownBy.mk nq osq).n) (GrownBy.mk nq osq).os = wq at hst2 ⊢
            have HO : Hid (Outer (ltOf cf) a b (i + 1) d e2) := HI.out.stop hw (by omega) hji (Or.inr (by simp only [Nat.add_sub_cancel]; rw [HJ.out]; exact decide_eq_false (by omega)))
            go_wp2
            go_roundw
            case rel => exact ⟨i + 1, by go_num, by omega, Or.inl (by omega), e2, HO, hst2⟩
            case measure => simp [intOf]; omega
        · obtain rfl : j = a := by omega
          have hjaz : decide ((j : Int) > (j : Int)) = false := decide_eq_false (by omega)
          have hjaz' : ¬ (j : Int) < (j : Int) := by omega
          have HO : Hid (Outer (ltOf cf) j b (i + 1) d e2) := HI.out.stop hw (by omega) hji (Or.inl rfl)
          go_wp2_with fail
          go_region
          go_wp2
          go_roundw
          case rel => exact ⟨i + 1, by go_num, by omega, Or.inl (by omega), e2, HO, hst.drew⟩
          case measure => simp [intOf]; omega
    · have hltz : ¬ (i : Int) < (b : Int) := by omega
      go_wp2
      go_end0
      refine ⟨rfl, e, ⟨HO.out.sw, ?_⟩, hst⟩
      exact fun p q h1 h2 h3 => HO.out.sorted p q h1 h2 (by omega)
end Go.Proofs.Ybulkaaso
