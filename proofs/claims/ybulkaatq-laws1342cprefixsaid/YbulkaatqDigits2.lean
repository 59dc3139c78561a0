/-
  Plain laws on the first parting digit. Own work of this seat.
-/
import Derived.Test.YbulkaatqDigits
namespace Go.Proofs.Ybulkaatq
open Go.ChangeShapes Go.WideShapes Go.ChangeAt Go.RowKit
theorem and15_u32 (a : Int) (h0 : 0 ≤ a) (h1 : a ≤ 4294967295) : bits .and .u32 a 15 = a % 16 := by
  rw [u32_and a 15 h0 (by omega) (by omega) (by omega)]
  rw [show (15 : Int).toNat = 15 from rfl, nat_mask4]; omega

/-- the digits ahead of the first parting one are one number -/
theorem First.head {x y : Int} {r : Nat} (h : First x y r) (h0 : 0 ≤ x) (h1 : x ≤ 4294967295) (k0 : 0 ≤ y) (k1 : y ≤ 4294967295) : x / 2 ^ (32 - 4 * (r : Int)).toNat = y / 2 ^ (32 - 4 * (r : Int)).toNat := by
  obtain ⟨le, same, _⟩ := h
  match r, le with
  | 0, _ => simp; omega
  | 1, _ => have a0 := same 0 (by omega); simp [dg] at a0; simp; omega
  | 2, _ => have a0 := same 0 (by omega); have a1 := same 1 (by omega); simp [dg] at a0 a1; simp; omega
  | 3, _ => have a0 := same 0 (by omega); have a1 := same 1 (by omega); have a2 := same 2 (by omega); simp [dg] at a0 a1 a2; simp; omega
  | 4, _ => have a0 := same 0 (by omega); have a1 := same 1 (by omega); have a2 := same 2 (by omega); have a3 := same 3 (by omega); simp [dg] at a0 a1 a2 a3; simp; omega
  | 5, _ => have a0 := same 0 (by omega); have a1 := same 1 (by omega); have a2 := same 2 (by omega); have a3 := same 3 (by omega); have a4 := same 4 (by omega); simp [dg] at a0 a1 a2 a3 a4; simp; omega
  | 6, _ => have a0 := same 0 (by omega); have a1 := same 1 (by omega); have a2 := same 2 (by omega); have a3 := same 3 (by omega); have a4 := same 4 (by omega); have a5 := same 5 (by omega); simp [dg] at a0 a1 a2 a3 a4 a5; simp; omega
  | 7, _ => have a0 := same 0 (by omega); have a1 := same 1 (by omega); have a2 := same 2 (by omega); have a3 := same 3 (by omega); have a4 := same 4 (by omega); have a5 := same 5 (by omega); have a6 := same 6 (by omega); simp [dg] at a0 a1 a2 a3 a4 a5 a6; simp; omega

end Go.Proofs.Ybulkaatq
