/-
  BOrder: the walks of Pos.Before (11) and of the comparison (10). Own work of this seat.
-/
import Derived.Test.YbulkaasoInsertion
namespace Go.Proofs.Ybulkaaso
open Go.ChangeShapes Go.WideShapes Go.ChangeAt Go.RowKit Go.Sort

/-- Pos.Before -/
def before (l c l' c' : Int) : Bool := decide (l < l') || (decide (l = l') && decide (c < c'))

set_option maxRecDepth 100000 in
set_option maxHeartbeats 2000000 in
theorem before_walk (l c l' c' : Int) (w : World) :
    Calls Yba.prog 11 #[.agg #[.int .i64 l, .int .i64 c], .agg #[.int .i64 l', .int .i64 c']] w fun e w' => e = .returned (.bool (before l c l' c')) ∧ w' = (w.alloc (.cells #[.int .i64 l, .int .i64 c] 40)).alloc (.cells #[.int .i64 l', .int .i64 c'] 40) := by
  rcases Int.lt_trichotomy l l' with h | h | h
  · have e : before l c l' c' = true := by simp [before, h]
    rw [e]
    go_enter Yba.func11, Yba.ntmps11
    go_wp2
    go_ret
    exact ⟨rfl, rfl⟩
  · subst h
    have hn : ¬ l < l := by omega
    have e : before l c l c' = decide (c < c') := by simp [before]
    rw [e]
    go_enter Yba.func11, Yba.ntmps11
    go_wp2
    all_goals (try (go_ret; exact ⟨rfl, rfl⟩))
    all_goals trace_state
  · have hn : ¬ l < l' := by omega
    have hn2 : ¬ l = l' := by omega
    have hn3 : (l == l') = false := by simp; omega
    have e : before l c l' c' = false := by simp [before, hn, hn2]
    rw [e]
    go_enter Yba.func11, Yba.ntmps11
    go_wp2
    all_goals (try (go_ret; exact ⟨rfl, rfl⟩))
    all_goals trace_state

theorem before_grown (l c l' c' : Int) (w : World) (n : Nat) (os : Array Obj) :
    Calls Yba.prog 11 #[.agg #[.int .i64 l, .int .i64 c], .agg #[.int .i64 l', .int .i64 c']] (grow (w.drewN n) os) fun e w' => e = .returned (.bool (before l c l' c')) ∧ ∃ q os', w' = grow ((grow (w.drewN n) os).drewN q) os' :=
  (before_walk l c l' c' _).mono fun _ _ ⟨he, hw⟩ => ⟨he, 0, #[.cells #[.int .i64 l, .int .i64 c] 40] ++ #[.cells #[.int .i64 l', .int .i64 c'] 40], by rw [hw, alloc_eq_grow, alloc_eq_grow, grow_grow]; rfl⟩

/-- what the comparison hands back -/
def cmpOf (ri li ci rj lj cj : Int) : Int := if ri - rj ≠ 0 then ri - rj else if before li ci lj cj = true then -1 else if before lj cj li ci = true then 1 else 0

set_option maxRecDepth 100000 in
set_option maxHeartbeats 2000000 in
theorem closure_walk (ei ej rk mb : Nat) (si sj : ByteArray) (ri li ci rj lj cj : Int) (w : World) (i0 : w.cell? ⟨ei, 0, none⟩ = some (.string si)) (i1 : w.cell? ⟨ei, 1, none⟩ = some (.int .i64 li)) (i2 : w.cell? ⟨ei, 2, none⟩ = some (.int .i64 ci))
    (j0 : w.cell? ⟨ej, 0, none⟩ = some (.string sj)) (j1 : w.cell? ⟨ej, 1, none⟩ = some (.int .i64 lj)) (j2 : w.cell? ⟨ej, 2, none⟩ = some (.int .i64 cj)) (hm : w.cell? ⟨rk, 0, none⟩ = some (.map (some mb)))
    (hli : ∀ n, (Instr.lookup 47 (.map (some mb)) (.string si) false).run Yba.prog (w.drewN n) = .ok (.int .i64 ri) (w.drewN n)) (hlj : ∀ n, (Instr.lookup 47 (.map (some mb)) (.string sj) false).run Yba.prog (w.drewN n) = .ok (.int .i64 rj) (w.drewN n))
    (hi0 : 0 ≤ ri) (hi1 : ri ≤ 1024) (hj0 : 0 ≤ rj) (hj1 : rj ≤ 1024) :
    Calls Yba.prog 10 #[.pointer (some ⟨ei, 0, none⟩), .pointer (some ⟨ej, 0, none⟩), .pointer (some ⟨rk, 0, none⟩)] w fun e w' => e = .returned (.int .i64 (cmpOf ri li ci rj lj cj)) ∧ ∃ q os, w' = grow (w.drewN q) os := by
  have mixed : Yba.prog.follows .mixedOrders = true := by kernel_rfl
  by_cases hd : ri - rj = 0
  · have hd' : ((ri - rj) != 0) = false := by simpa using hd
    have facts : ∀ w1 : World, w1.cell? ⟨ei, 1, none⟩ = some (.int .i64 li) → w1.cell? ⟨ei, 2, none⟩ = some (.int .i64 ci) → w1.cell? ⟨ej, 1, none⟩ = some (.int .i64 lj) → w1.cell? ⟨ej, 2, none⟩ = some (.int .i64 cj) →
        (∀ n os, (Sort.grow (w1.drewN n) os).cell? ⟨ei, 1, none⟩ = some (.int .i64 li)) ∧ (∀ n os, (Sort.grow (w1.drewN n) os).cell? ⟨ei, 2, none⟩ = some (.int .i64 ci)) ∧ (∀ n os, (Sort.grow (w1.drewN n) os).cell? ⟨ej, 1, none⟩ = some (.int .i64 lj)) ∧ (∀ n os, (Sort.grow (w1.drewN n) os).cell? ⟨ej, 2, none⟩ = some (.int .i64 cj)) ∧
        (∀ n os, Calls Yba.prog 11 #[.agg #[.int .i64 li, .int .i64 ci], .agg #[.int .i64 lj, .int .i64 cj]] (Sort.grow (w1.drewN n) os) fun e w' => e = .returned (.bool (before li ci lj cj)) ∧ ∃ q os', w' = Sort.grow ((Sort.grow (w1.drewN n) os).drewN q) os') ∧
        (∀ n os, Calls Yba.prog 11 #[.agg #[.int .i64 lj, .int .i64 cj], .agg #[.int .i64 li, .int .i64 ci]] (Sort.grow (w1.drewN n) os) fun e w' => e = .returned (.bool (before lj cj li ci)) ∧ ∃ q os', w' = Sort.grow ((Sort.grow (w1.drewN n) os).drewN q) os') := fun w1 h1 h2 h3 h4 => by
      have lt : ∀ b o v, w1.cell? ⟨b, o, none⟩ = some v → b < w1.heap.size := fun b o v h => by
        rcases Nat.lt_or_ge b w1.heap.size with h' | h'
        · exact h'
        · simp [World.cell?, Array.getElem?_eq_none h'] at h
      exact ⟨fun n os => cell_grown (lt _ _ _ h1) h1 n os, fun n os => cell_grown (lt _ _ _ h2) h2 n os, fun n os => cell_grown (lt _ _ _ h3) h3 n os, fun n os => cell_grown (lt _ _ _ h4) h4 n os, fun n os => before_grown li ci lj cj w1 n os, fun n os => before_grown lj cj li ci w1 n os⟩
    cases hb : before li ci lj cj with
    | true =>
      have HC : Hid (cmpOf ri li ci rj lj cj = -1) := by show _ = _; unfold cmpOf; rw [if_neg (by omega), if_pos hb]
      rw [hb] at facts
      clear hb
      go_enter Yba.func10, Yba.ntmps10
      go_wp2_with fail
      go_quiet (fail)
      obtain ⟨gi1, gi2, gj1, gj2, hbf, hbg⟩ := facts _ (show (w.drewN nq).cell? ⟨ei, 1, none⟩ = _ from i1) i2 j1 j2
      have HW : Hid (∃ q, w.drewN nq = w.drewN q) := ⟨nq, rfl⟩
      clear hli hlj i0 j0 i1 i2 j1 j2 hm facts
      generalize w.drewN nq = w1 at gi1 gi2 gj1 gj2 hbf hbg HW ⊢
      go_wp2_with fail
      go_quiet_grown (refine Calls.grown_of (hbf _ _))
      have HW2 : Hid (∃ q os, Sort.grow (w1.drewN (GrownBy.mk nq osq).n) (GrownBy.mk nq osq).os = Sort.grow (w.drewN q) os) := by
        obtain ⟨q, hq⟩ := HW.out
        exact ⟨q + nq, osq, by rw [hq]; show Sort.grow ((w.drewN q).drewN nq) osq = _; rw [World.drewN_drewN]⟩
      clear gi1 gi2 gj1 gj2 hbf hbg HW
      generalize Sort.grow (w1.drewN (GrownBy.mk nq osq).n) (GrownBy.mk nq osq).os = w2 at HW2 ⊢
      go_wp2
      go_ret
      exact ⟨by rw [HC.out]; rfl, HW2.out⟩
    | false =>
      cases hb2 : before lj cj li ci with
      | true =>
        have HC : Hid (cmpOf ri li ci rj lj cj = 1) := by show _ = _; unfold cmpOf; rw [if_neg (by omega), if_neg (by simp [hb]), if_pos hb2]
        rw [hb, hb2] at facts
        have facts2 := facts
        clear hb hb2
        go_enter Yba.func10, Yba.ntmps10
        go_wp2_with fail
        go_quiet (fail)
        obtain ⟨gi1, gi2, gj1, gj2, hbf, hbg⟩ := facts _ (show (w.drewN nq).cell? ⟨ei, 1, none⟩ = _ from i1) i2 j1 j2
        have HW : Hid (∃ q, w.drewN nq = w.drewN q) := ⟨nq, rfl⟩
        clear hli hlj i0 j0 i1 i2 j1 j2 hm facts
        generalize w.drewN nq = w1 at gi1 gi2 gj1 gj2 hbf hbg HW ⊢
        go_wp2_with fail
        go_quiet_grown (refine Calls.grown_of (hbf _ _))
        have hbg2 : ∀ n os, _ := fun n os => before_grown lj cj li ci (Sort.grow (w1.drewN (GrownBy.mk nq osq).n) (GrownBy.mk nq osq).os) n os
        have kk := fun n os => gi1 n os
        obtain ⟨hi1', hi2', hj1', hj2'⟩ : (Sort.grow (w1.drewN (GrownBy.mk nq osq).n) (GrownBy.mk nq osq).os).cell? ⟨ei, 1, none⟩ = some (.int .i64 li) ∧ (Sort.grow (w1.drewN (GrownBy.mk nq osq).n) (GrownBy.mk nq osq).os).cell? ⟨ei, 2, none⟩ = some (.int .i64 ci) ∧ (Sort.grow (w1.drewN (GrownBy.mk nq osq).n) (GrownBy.mk nq osq).os).cell? ⟨ej, 1, none⟩ = some (.int .i64 lj) ∧ (Sort.grow (w1.drewN (GrownBy.mk nq osq).n) (GrownBy.mk nq osq).os).cell? ⟨ej, 2, none⟩ = some (.int .i64 cj) := ⟨gi1 _ _, gi2 _ _, gj1 _ _, gj2 _ _⟩
        obtain ⟨q, hq⟩ := HW.out
        have HW2 : Hid (∃ q os, Sort.grow (w1.drewN (GrownBy.mk nq osq).n) (GrownBy.mk nq osq).os = Sort.grow (w.drewN q) os) := ⟨q + nq, osq, by rw [hq]; show Sort.grow ((w.drewN q).drewN nq) osq = _; rw [World.drewN_drewN]⟩
        obtain ⟨gi1', gi2', gj1', gj2', hbf', hbg'⟩ := facts2 _ hi1' hi2' hj1' hj2'
        clear gi1 gi2 gj1 gj2 hbf hbg HW hq hi1' hi2' hj1' hj2' kk hbg2 facts2
        generalize Sort.grow (w1.drewN (GrownBy.mk nq osq).n) (GrownBy.mk nq osq).os = w2 at gi1' gi2' gj1' gj2' hbf' hbg' HW2 ⊢
        go_wp2_with fail
        go_quiet_grown (refine Calls.grown_of (hbg' _ _))
        obtain ⟨q2, os2, hq2⟩ := HW2.out
        have HW3 : Hid (∃ q os, Sort.grow (w2.drewN (GrownBy.mk nq osq).n) (GrownBy.mk nq osq).os = Sort.grow (w.drewN q) os) := ⟨q2 + nq, os2 ++ osq, by rw [hq2]; show Sort.grow (Sort.grow ((w.drewN q2).drewN nq) os2) osq = _; rw [grow_grow, World.drewN_drewN]⟩
        clear HW2 hq2 gi1' gi2' gj1' gj2' hbf' hbg'
        generalize Sort.grow (w2.drewN (GrownBy.mk nq osq).n) (GrownBy.mk nq osq).os = w3 at HW3 ⊢
        go_wp2
        go_ret
        exact ⟨by rw [HC.out]; rfl, HW3.out⟩
      | false =>
        have HC : Hid (cmpOf ri li ci rj lj cj = 0) := by show _ = _; unfold cmpOf; rw [if_neg (by omega), if_neg (by simp [hb]), if_neg (by simp [hb2])]
        rw [hb, hb2] at facts
        have facts2 := facts
        clear hb hb2
        go_enter Yba.func10, Yba.ntmps10
        go_wp2_with fail
        go_quiet (fail)
        obtain ⟨gi1, gi2, gj1, gj2, hbf, hbg⟩ := facts _ (show (w.drewN nq).cell? ⟨ei, 1, none⟩ = _ from i1) i2 j1 j2
        have HW : Hid (∃ q, w.drewN nq = w.drewN q) := ⟨nq, rfl⟩
        clear hli hlj i0 j0 i1 i2 j1 j2 hm facts
        generalize w.drewN nq = w1 at gi1 gi2 gj1 gj2 hbf hbg HW ⊢
        go_wp2_with fail
        go_quiet_grown (refine Calls.grown_of (hbf _ _))
        have hbg2 : ∀ n os, _ := fun n os => before_grown lj cj li ci (Sort.grow (w1.drewN (GrownBy.mk nq osq).n) (GrownBy.mk nq osq).os) n os
        have kk := fun n os => gi1 n os
        obtain ⟨hi1', hi2', hj1', hj2'⟩ : (Sort.grow (w1.drewN (GrownBy.mk nq osq).n) (GrownBy.mk nq osq).os).cell? ⟨ei, 1, none⟩ = some (.int .i64 li) ∧ (Sort.grow (w1.drewN (GrownBy.mk nq osq).n) (GrownBy.mk nq osq).os).cell? ⟨ei, 2, none⟩ = some (.int .i64 ci) ∧ (Sort.grow (w1.drewN (GrownBy.mk nq osq).n) (GrownBy.mk nq osq).os).cell? ⟨ej, 1, none⟩ = some (.int .i64 lj) ∧ (Sort.grow (w1.drewN (GrownBy.mk nq osq).n) (GrownBy.mk nq osq).os).cell? ⟨ej, 2, none⟩ = some (.int .i64 cj) := ⟨gi1 _ _, gi2 _ _, gj1 _ _, gj2 _ _⟩
        obtain ⟨q, hq⟩ := HW.out
        have HW2 : Hid (∃ q os, Sort.grow (w1.drewN (GrownBy.mk nq osq).n) (GrownBy.mk nq osq).os = Sort.grow (w.drewN q) os) := ⟨q + nq, osq, by rw [hq]; show Sort.grow ((w.drewN q).drewN nq) osq = _; rw [World.drewN_drewN]⟩
        obtain ⟨gi1', gi2', gj1', gj2', hbf', hbg'⟩ := facts2 _ hi1' hi2' hj1' hj2'
        clear gi1 gi2 gj1 gj2 hbf hbg HW hq hi1' hi2' hj1' hj2' kk hbg2 facts2
        generalize Sort.grow (w1.drewN (GrownBy.mk nq osq).n) (GrownBy.mk nq osq).os = w2 at gi1' gi2' gj1' gj2' hbf' hbg' HW2 ⊢
        go_wp2_with fail
        go_quiet_grown (refine Calls.grown_of (hbg' _ _))
        obtain ⟨q2, os2, hq2⟩ := HW2.out
        have HW3 : Hid (∃ q os, Sort.grow (w2.drewN (GrownBy.mk nq osq).n) (GrownBy.mk nq osq).os = Sort.grow (w.drewN q) os) := ⟨q2 + nq, os2 ++ osq, by rw [hq2]; show Sort.grow (Sort.grow ((w.drewN q2).drewN nq) os2) osq = _; rw [grow_grow, World.drewN_drewN]⟩
        clear HW2 hq2 gi1' gi2' gj1' gj2' hbf' hbg'
        generalize Sort.grow (w2.drewN (GrownBy.mk nq osq).n) (GrownBy.mk nq osq).os = w3 at HW3 ⊢
        go_wp2
        go_ret
        exact ⟨by rw [HC.out]; rfl, HW3.out⟩
  · have HC : Hid (cmpOf ri li ci rj lj cj = ri - rj) := if_pos hd
    have hd' : ((ri - rj) != 0) = true := by simpa using hd
    go_enter Yba.func10, Yba.ntmps10
    go_wp2_with fail
    go_quiet (fail)
    go_wp2
    go_ret
    exact ⟨by rw [HC.out]; rfl, nq, #[], by simp⟩
end Go.Proofs.Ybulkaaso
