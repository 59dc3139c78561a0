/-
  The digits of an ident: contracts of digit (10) and sharedDigits (7), and the plain laws beneath. Own work of this seat.
-/
import Derived.Test.YbulkaatqRows
import Derived.WalkKit
import Derived.ProofKit
import Derived.Laws.BitsAllLaws
import Derived.BigQuiet
import Derived.Deep.QuietTactic
namespace Go.Proofs.Ybulkaatq
open Go.ChangeShapes Go.WideShapes Go.ChangeAt Go.RowKit

/-- the digit of x at place i -/
def dg (x i : Int) : Int := x / 2 ^ (28 - 4 * i).toNat % 16

theorem dg_le (x i : Int) : 0 ≤ dg x i ∧ dg x i ≤ 15 := by unfold dg; omega

theorem div_le (x : Int) (n : Nat) (h0 : 0 ≤ x) (h1 : x ≤ 4294967295) : 0 ≤ x / 2 ^ n ∧ x / 2 ^ n ≤ 4294967295 := by
  have hp : (0 : Int) < 2 ^ n := Int.pow_pos (by omega)
  refine ⟨Int.ediv_nonneg h0 (by omega), ?_⟩
  exact Int.le_trans (Int.ediv_le_self _ h0) h1

theorem and15_i64 (a : Int) (h0 : 0 ≤ a) (h1 : a ≤ 4294967295) : bits .and .i64 (wrap64 a) 15 = a % 16 := by
  obtain ⟨n, rfl⟩ := Int.eq_ofNat_of_zero_le h0
  rw [IntWalk.wrap64_in _ (by omega)]
  show IntKind.i64.wrap ((BitVec.ofInt 64 (n : Int) &&& BitVec.ofInt 64 ((15 : Nat) : Int)).toNat : Int) = _
  rw [BitVec.toNat_and, ofInt_u64 n (by omega), ofInt_u64 15 (by omega), nat_mask4]
  simp only [IntKind.wrap, IntKind.bits, IntKind.signed]
  simp
  split <;> omega

theorem digit_any (x i : Int) (h0 : 0 ≤ x) (h1 : x ≤ 4294967295) (hi0 : 0 ≤ i) (hi1 : i ≤ 7) (w : World) :
    Calls Yba.prog 10 #[.int .u32 x, .int .i64 i] w fun e w' => e = .returned (.int .i64 (dg x i)) ∧ w' = w := by
  have e := and15_i64 (x / 2 ^ (28 - 4 * i).toNat) (div_le _ _ h0 h1).1 (div_le _ _ h0 h1).2
  have H : Hid (bits .and .i64 (wrap64 (x / 2 ^ (28 - 4 * i).toNat)) 15 = dg x i) := e
  clear e
  go_enter Yba.func10, Yba.ntmps10
  go_wp2
  go_ret
  exact ⟨by show Ending.returned (.int .i64 _) = _; rw [H.out], rfl⟩

theorem all_dg (x y : Int) (h0 : 0 ≤ x) (h1 : x ≤ 4294967295) (k0 : 0 ≤ y) (k1 : y ≤ 4294967295) (h : ∀ j : Int, 0 ≤ j → j < 8 → dg x j = dg y j) : x = y := by
  have a0 := h 0 (by omega) (by omega); have a1 := h 1 (by omega) (by omega); have a2 := h 2 (by omega) (by omega); have a3 := h 3 (by omega) (by omega)
  have a4 := h 4 (by omega) (by omega); have a5 := h 5 (by omega) (by omega); have a6 := h 6 (by omega) (by omega); have a7 := h 7 (by omega) (by omega)
  clear h
  simp [dg] at a0 a1 a2 a3 a4 a5 a6 a7
  omega

/-- what sharedDigits answers: the first place at which the digits part -/
structure First (x y : Int) (r : Nat) : Prop where
  le : r ≤ 7
  same : ∀ j : Nat, j < r → dg x j = dg y j
  parts : dg x r ≠ dg y r

theorem First.one {x y : Int} {r s : Nat} (h : First x y r) (k : First x y s) : r = s := by
  rcases Nat.lt_trichotomy r s with hl | he | hl
  · exact absurd (k.same r hl) h.parts
  · exact he
  · exact absurd (h.same s hl) k.parts
theorem First.symm {x y : Int} {r : Nat} (h : First x y r) : First y x r := ⟨h.le, fun j hj => (h.same j hj).symm, fun e => h.parts e.symm⟩

theorem shared_any (x y : Int) (h0 : 0 ≤ x) (h1 : x ≤ 4294967295) (k0 : 0 ≤ y) (k1 : y ≤ 4294967295) (hne : x ≠ y) (w : World) :
    Calls Yba.prog 7 #[.int .u32 x, .int .u32 y] w fun e w' => ∃ r : Nat, First x y r ∧ e = .returned (.int .i64 r) ∧ w' = w := by
  go_enter Yba.func7, Yba.ntmps7
  go_wp2
  go_loop [5] (fun i => ∃ k : Nat, k ≤ 7 ∧ i = .int .i64 k ∧ Hid (∀ j : Nat, j < k → dg x j = dg y j)) (fun i => 8 - (intOf i).toNat)
  case atStart => exact ⟨0, by omega, rfl, fun j hj => by omega⟩
  case round =>
    obtain ⟨k, hk, rfl, hsame⟩ := hrel
    by_cases hd : dg x k = dg y k
    · have hlt : k < 7 := by
        rcases Nat.lt_or_ge k 7 with h | h
        · exact h
        · exfalso; apply hne; apply all_dg x y h0 h1 k0 k1
          intro j j0 j1
          obtain ⟨m, rfl⟩ := Int.eq_ofNat_of_zero_le j0
          by_cases hm : m < k
          · exact hsame.out m hm
          · have : m = k := by omega
            subst this; exact hd
      have Hd : Hid (dg x k = dg y k) := hd
      have hb : (dg x k == dg y k) = true := by simp [hd]
      clear hd
      go_wp2_with (first | (go_at_call 10; refine (digit_any _ _ (by omega) (by omega) (by omega) (by omega) _).mono ?_; rintro e w' ⟨rfl, rfl⟩))
      go_round
      case rel => exact ⟨k + 1, by omega, by go_num, fun j hj => by
        by_cases hj' : j < k
        · exact hsame.out j hj'
        · have : j = k := by omega
          subst this; exact Hd.out⟩
      case measure => simp [intOf]; omega
    · have Hd : Hid (dg x k ≠ dg y k) := hd
      have hb : (dg x k == dg y k) = false := by simp [hd]
      clear hd
      go_wp2_with (first | (go_at_call 10; refine (digit_any _ _ (by omega) (by omega) (by omega) (by omega) _).mono ?_; rintro e w' ⟨rfl, rfl⟩))
      go_ret
      exact ⟨k, ⟨hk, hsame.out, Hd.out⟩, rfl, rfl⟩

end Go.Proofs.Ybulkaatq
