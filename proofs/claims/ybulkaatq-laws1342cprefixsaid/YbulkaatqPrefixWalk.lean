/-
  The walk of LawS1342CPrefix (5). Own work of this seat.
-/
import Derived.Test.YbulkaatqDigits2
namespace Go.Proofs.Ybulkaatq
open Go.ChangeShapes Go.WideShapes Go.ChangeAt Go.RowKit

set_option maxHeartbeats 400000 in
theorem prefix_walk (x y : Int) (h0 : 0 ≤ x) (h1 : x ≤ 4294967295) (k0 : 0 ≤ y) (k1 : y ≤ 4294967295) (w : World) :
    Calls Yba.prog 5 #[.int .u32 x, .int .u32 y] w fun e w' => e = .returned (.bool true) ∧ Grown w w' := by
  by_cases hxy : x = y
  · have hb : (x == y) = true := by simp [hxy]
    clear hxy
    go_enter Yba.func5, Yba.ntmps5
    go_wp2
    go_ret
    exact ⟨rfl, Grown.refl _⟩
  · have hb : (x == y) = false := by simp [hxy]
    have hyx : y ≠ x := fun e => hxy e.symm
    go_enter Yba.func5, Yba.ntmps5
    go_wp2_with fail
    refine (shared_any x y h0 h1 k0 k1 hxy _).mono ?_
    rintro e w' ⟨r, hr, rfl, rfl⟩
    have hle := hr.le
    have hr0 : ¬ (r : Int) < 0 := by omega
    have hr7 : ¬ (7 : Int) < (r : Int) := by omega
    go_wp2_with fail
    refine (shared_any y x k0 k1 h0 h1 hyx _).mono ?_
    rintro e w' ⟨r2, hr2, rfl, rfl⟩
    obtain rfl : r = r2 := hr.one hr2.symm
    have hh := hr.head h0 h1 k0 k1
    have hne : ((r : Int) != (r : Int)) = false := by simp
    have HB : Hid ((bits .and .u32 (x / 2 ^ (28 - 4 * r)) 15 != bits .and .u32 (y / 2 ^ (28 - 4 * r)) 15) = true) := by
      show (bits .and .u32 (x / 2 ^ (28 - 4 * r)) 15 != bits .and .u32 (y / 2 ^ (28 - 4 * r)) 15) = true
      have hp := hr.parts
      unfold dg at hp
      rw [show (28 - 4 * (r : Int)).toNat = 28 - 4 * r from by omega] at hp
      rw [and15_u32 _ (div_le _ _ h0 h1).1 (div_le _ _ h0 h1).2, and15_u32 _ (div_le _ _ k0 k1).1 (div_le _ _ k0 k1).2]
      simpa using hp
    rcases Nat.eq_zero_or_pos r with hz | hz
    · have hz' : ¬ (0 : Int) < (r : Int) := by omega
      go_wp2_with fail
      go_ret
      have HC := HB.out
      rw [hz] at HC
      exact ⟨congrArg (fun b => Ending.returned (.bool b)) HC, Grown.refl _⟩
    · go_wp2_with fail
      go_ret
      exact ⟨by show Ending.returned (.bool _) = _; rw [HB.out], Grown.refl _⟩
end Go.Proofs.Ybulkaatq
