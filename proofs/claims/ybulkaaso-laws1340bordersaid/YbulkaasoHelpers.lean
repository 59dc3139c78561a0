/-
  BOrder: the walks of zzs1340bpath (4), zzs1340brank (5), zzs1340bless (6). Own work of this seat.
-/
import Derived.Test.YbulkaasoErrors
namespace Go.Proofs.Ybulkaaso
open Go.ChangeShapes Go.WideShapes Go.ChangeAt Go.RowKit Go.Sort Go.Maps

/-- a slice's cells -/
def At (w : World) (a : Option Addr) (len : Nat) (f : Nat → Value) : Prop :=
  ∀ i, i < len → ∃ b off, a = some ⟨b, off, none⟩ ∧ w.cell? ⟨b, off + i, none⟩ = some (f i)

theorem bytes_eq {x y : ByteArray} : x = y ↔ x.data.toList = y.data.toList := by
  constructor
  · rintro rfl; rfl
  · intro h
    cases x; cases y
    simp only [ByteArray.mk.injEq]
    exact Array.toList_inj.1 h

set_option maxRecDepth 100000 in
set_option maxHeartbeats 2000000 in
theorem rank_walk (a : Option Addr) (m cap : Nat) (Q : Nat → ByteArray) (s : ByteArray) (w : World) (h : At w a m (fun k => .string (Q k))) (hm : m ≤ 1024) :
    Calls Yba.prog 5 #[.slice a m cap, .string s] w fun e w' => e = .returned (.int .i64 (rankUp Q m s.data.toList)) ∧ w' = w := by
  have HA : Hid (At w a m (fun k => .string (Q k))) := h
  clear h
  go_enter Yba.func5, Yba.ntmps5
  go_wp2
  go_loopw [5, 6] (fun rv iv wr => ∃ k : Nat, k ≤ m ∧ iv = .int .i64 k ∧ rv = .int .i64 (rankUp Q k s.data.toList) ∧ wr = w) (fun _ iv _ => m - (intOf iv).toNat)
  case atStart => exact ⟨0, Nat.zero_le _, rfl, rfl, rfl⟩
  case round =>
    obtain ⟨k, hk, rfl, rfl, hwr⟩ := hrel
    subst hwr
    by_cases hlt : k < m
    · have hltz : (k : Int) < (m : Int) := by omega
      obtain ⟨b, off, rfl, hc⟩ := HA.out k hlt
      have hc' : wr.cell? ⟨b, off + k, none⟩ = some (.string (Q k)) := hc
      clear hc
      have HR : Hid (rankUp Q (k + 1) s.data.toList = if (Q k).data.toList = s.data.toList then (k : Int) else rankUp Q k s.data.toList) := rfl
      by_cases he : Q k = s
      · have HR2 : Hid (rankUp Q (k + 1) s.data.toList = (k : Int)) := by show _ = _; rw [HR.out, if_pos (bytes_eq.1 he)]
        have he' : ((Q k).toList == s.toList) = true := by rw [he]; simp
        clear HR he
        go_wp2
        go_roundw
        case rel => exact ⟨k + 1, by omega, by go_num, by rw [HR2.out], by first | rfl | trivial⟩
        case measure => simp [intOf]; omega
      · have HR2 : Hid (rankUp Q (k + 1) s.data.toList = rankUp Q k s.data.toList) := by show _ = _; rw [HR.out, if_neg (fun e => he (bytes_eq.2 e))]
        have he' : ((Q k).toList == s.toList) = false := by
          rw [beq_eq_false_iff_ne]
          intro e
          rw [ByteArray.toList_eq, ByteArray.toList_eq] at e
          exact he (bytes_eq.2 e)
        clear HR he
        go_wp2
        go_roundw
        case rel => exact ⟨k + 1, by omega, by go_num, by rw [HR2.out], by first | rfl | trivial⟩
        case measure => simp [intOf]; omega
    · obtain rfl : k = m := by omega
      have hk0 : ¬ (k : Int) < (k : Int) := by omega
      go_wp2
      go_ret
      exact ⟨rfl, rfl⟩

def missing : ByteArray := { data := #[122, 122, 63, 109, 105, 115, 115, 105, 110, 103] }
def pathOf (Q : Nat → ByteArray) (m : Nat) (p : Nat) : ByteArray := if p % (m + 1) < m then Q (p % (m + 1)) else missing

set_option maxRecDepth 100000 in
theorem path_walk (a : Option Addr) (m cap : Nat) (Q : Nat → ByteArray) (p : Int) (w : World) (h : At w a m (fun k => .string (Q k))) (hm : m ≤ 1024) (hp0 : 0 ≤ p) (hp1 : p ≤ 255) :
    Calls Yba.prog 4 #[.slice a m cap, .int .u8 p] w fun e w' => e = .returned (.string (pathOf Q m p.toNat)) ∧ w' = w := by
  obtain ⟨q, rfl⟩ : ∃ q : Nat, p = (q : Int) := ⟨p.toNat, by omega⟩
  rw [show ((q : Int)).toNat = q from by omega]
  obtain ⟨r, hr⟩ : ∃ r, r = q % (m + 1) := ⟨_, rfl⟩
  have er : Int.tmod (q : Int) ((m : Int) + 1) = (r : Int) := by
    rw [hr, show ((m : Int) + 1) = ((m + 1 : Nat) : Int) from by omega]
    rfl
  have hrm : r ≤ m := by have := Nat.mod_lt q (show 0 < m + 1 by omega); omega
  have hnz : ¬ ((m : Int) + 1) = 0 := by omega
  have hnz2 : (((m : Int) + 1) == 0) = false := by simpa using hnz
  by_cases c : r < m
  · have HP : Hid (pathOf Q m q = Q r) := by show _ = _; unfold pathOf; rw [← hr, if_pos c]
    have cz : (r : Int) < (m : Int) := by omega
    obtain ⟨b, off, rfl, hc⟩ := h r c
    have hc' : w.cell? ⟨b, off + r, none⟩ = some (.string (Q r)) := hc
    clear hc h hr
    go_enter Yba.func4, Yba.ntmps4
    go_wp2
    go_ret
    exact ⟨by rw [HP.out]; rfl, rfl⟩
  · have HP : Hid (pathOf Q m q = missing) := by show _ = _; unfold pathOf; rw [← hr, if_neg c]
    have cz : ¬ (r : Int) < (m : Int) := by omega
    clear h hr
    go_enter Yba.func4, Yba.ntmps4
    go_wp2
    go_ret
    exact ⟨by rw [HP.out]; rfl, rfl⟩

set_option maxRecDepth 100000 in
set_option maxHeartbeats 2000000 in
theorem less_walk (ri rj : Int) (ei ej : Nat) (li ci lj cj : Int) (w : World) (i1 : w.cell? ⟨ei, 1, none⟩ = some (.int .i64 li)) (i2 : w.cell? ⟨ei, 2, none⟩ = some (.int .i64 ci)) (j1 : w.cell? ⟨ej, 1, none⟩ = some (.int .i64 lj)) (j2 : w.cell? ⟨ej, 2, none⟩ = some (.int .i64 cj)) :
    Calls Yba.prog 6 #[.int .i64 ri, .int .i64 rj, .pointer (some ⟨ei, 0, none⟩), .pointer (some ⟨ej, 0, none⟩)] w fun e w' => e = .returned (.bool (decide (cmpOf ri li ci rj lj cj < 0))) ∧ ∃ q, w' = w.drewN q := by
  have mixed : Yba.prog.follows .mixedOrders = true := by kernel_rfl
  by_cases hr : ri = rj
  · subst hr
    have hr' : (ri != ri) = false := by simp
    by_cases hl : li = lj
    · subst hl
      have hl' : (li != li) = false := by simp
      have HC : Hid (decide (cmpOf ri li ci ri li cj < 0) = decide (ci < cj)) := by show _ = _; rw [decide_eq_decide, cmp_neg]; omega
      go_enter Yba.func6, Yba.ntmps6
      go_wp2_with fail
      go_quiet (fail)
      have i2' : (w.drewN nq).cell? ⟨ei, 2, none⟩ = some (.int .i64 ci) := i2
      have j2' : (w.drewN nq).cell? ⟨ej, 2, none⟩ = some (.int .i64 cj) := j2
      have HW : Hid (∃ q, w.drewN nq = w.drewN q) := ⟨nq, rfl⟩
      clear i1 i2 j1 j2
      generalize w.drewN nq = w1 at i2' j2' HW ⊢
      go_wp2_with fail
      go_quiet (fail)
      go_wp2
      go_ret
      obtain ⟨q, hq⟩ := HW.out
      exact ⟨by rw [HC.out]; rfl, q + nq, by rw [hq, World.drewN_drewN]⟩
    · have hl' : (li != lj) = true := by simpa using hl
      have HC : Hid (decide (cmpOf ri li ci ri lj cj < 0) = decide (li < lj)) := by show _ = _; rw [decide_eq_decide, cmp_neg]; omega
      go_enter Yba.func6, Yba.ntmps6
      go_wp2_with fail
      go_quiet (fail)
      have i1' : (w.drewN nq).cell? ⟨ei, 1, none⟩ = some (.int .i64 li) := i1
      have j1' : (w.drewN nq).cell? ⟨ej, 1, none⟩ = some (.int .i64 lj) := j1
      have HW : Hid (∃ q, w.drewN nq = w.drewN q) := ⟨nq, rfl⟩
      clear i1 i2 j1 j2
      generalize w.drewN nq = w1 at i1' j1' HW ⊢
      go_wp2_with fail
      go_quiet (fail)
      go_wp2
      go_ret
      obtain ⟨q, hq⟩ := HW.out
      exact ⟨by rw [HC.out]; rfl, q + nq, by rw [hq, World.drewN_drewN]⟩
  · have hr' : (ri != rj) = true := by simpa using hr
    have HC : Hid (decide (cmpOf ri li ci rj lj cj < 0) = decide (ri < rj)) := by show _ = _; rw [decide_eq_decide, cmp_neg]; omega
    go_enter Yba.func6, Yba.ntmps6
    go_wp2
    go_ret
    exact ⟨by rw [HC.out]; rfl, 0, rfl⟩
end Go.Proofs.Ybulkaaso
