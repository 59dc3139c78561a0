/-
  The walk of LawS1342CExact (4), and the plain law beneath: the first parting digit, out of the length of x ^ y. Own work of this seat.
-/
import Derived.Test.YbulkaatqDigits2
import Derived.Test.YbulkaatqShelf
import Derived.Lib.ItoaNum
namespace Go.Proofs.Ybulkaatq
open Go.ChangeShapes Go.WideShapes Go.ChangeAt Go.RowKit

theorem xor_div (a b k : Nat) : (a ^^^ b) / 2 ^ k = (a / 2 ^ k) ^^^ (b / 2 ^ k) := by
  rw [← Nat.shiftRight_eq_div_pow, ← Nat.shiftRight_eq_div_pow, ← Nat.shiftRight_eq_div_pow, Nat.shiftRight_xor_distrib]

theorem xor_zero_iff {a b : Nat} (h : a ^^^ b = 0) : a = b := by
  have h2 : (a ^^^ b) ^^^ b = b := by rw [h, Nat.zero_xor]
  rwa [Nat.xor_assoc, Nat.xor_self, Nat.xor_zero] at h2

/-- the length of x ^ y stands just below the first parting digit -/
theorem First.len {a b r : Nat} (h : First (a : Int) (b : Int) r) (ha : a < 4294967296) (hb : b < 4294967296) :
    28 - 4 * r < Lib.bitLen (a ^^^ b) ∧ Lib.bitLen (a ^^^ b) ≤ 32 - 4 * r := by
  have hle := h.le
  have hhd := h.head (by omega) (by omega) (by omega) (by omega)
  have hp := h.parts
  unfold dg at hp
  rw [show (32 - 4 * (r : Int)).toNat = 32 - 4 * r from by omega] at hhd
  rw [show (28 - 4 * (r : Int)).toNat = 28 - 4 * r from by omega] at hp
  have e1 : a / 2 ^ (32 - 4 * r) = b / 2 ^ (32 - 4 * r) := by
    have : ((a / 2 ^ (32 - 4 * r) : Nat) : Int) = ((b / 2 ^ (32 - 4 * r) : Nat) : Int) := by simpa using hhd
    omega
  have e2 : a / 2 ^ (28 - 4 * r) ≠ b / 2 ^ (28 - 4 * r) := fun e => hp (by
    have e' : ((a / 2 ^ (28 - 4 * r) : Nat) : Int) = ((b / 2 ^ (28 - 4 * r) : Nat) : Int) := by rw [e]
    have e3 : (a : Int) / 2 ^ (28 - 4 * r) = (b : Int) / 2 ^ (28 - 4 * r) := by simpa using e'
    rw [e3])
  have z1 : (a ^^^ b) / 2 ^ (32 - 4 * r) = 0 := by rw [xor_div, e1, Nat.xor_self]
  have z2 : (a ^^^ b) / 2 ^ (28 - 4 * r) ≠ 0 := fun e => e2 (xor_zero_iff (by rw [← xor_div]; exact e))
  have hx : a ^^^ b < 2 ^ 32 := Nat.xor_lt_two_pow (by omega) (by omega)
  have hlt : a ^^^ b < 2 ^ (32 - 4 * r) := by
    rcases Nat.lt_or_ge (a ^^^ b) (2 ^ (32 - 4 * r)) with g | g
    · exact g
    · have := Nat.div_pos g (Nat.two_pow_pos _); omega
  have hge : 2 ^ (28 - 4 * r) ≤ a ^^^ b := by
    rcases Nat.lt_or_ge (a ^^^ b) (2 ^ (28 - 4 * r)) with g | g
    · exact absurd (Nat.div_eq_of_lt g) z2
    · exact g
  have hne : a ^^^ b ≠ 0 := by have := Nat.two_pow_pos (28 - 4 * r); omega
  have bd := Lib.bitLenAux_bounds 64 (a ^^^ b) (Nat.lt_of_lt_of_le hx (by decide)) hne
  refine ⟨?_, Lib.bitLen_le _ _ (by omega) hlt⟩
  rcases Nat.lt_or_ge (28 - 4 * r) (Lib.bitLen (a ^^^ b)) with g | g
  · exact g
  · have := Nat.pow_le_pow_right (n := 2) (by omega) g
    have h3 := bd.2.2
    unfold Lib.bitLen at this
    omega

set_option maxHeartbeats 400000 in
theorem exact_walk (x y : Int) (h0 : 0 ≤ x) (h1 : x ≤ 4294967295) (k0 : 0 ≤ y) (k1 : y ≤ 4294967295) (w : World) :
    Calls Yba.prog 4 #[.int .u32 x, .int .u32 y] w fun e w' => e = .returned (.bool true) ∧ Grown w w' := by
  by_cases hxy : x = y
  · have hb : (x == y) = true := by simp [hxy]
    clear hxy
    go_enter Yba.func4, Yba.ntmps4
    go_wp2
    go_ret
    exact ⟨rfl, Grown.refl _⟩
  · have hb : (x == y) = false := by simp [hxy]
    have hx := u32_xor x y h0 (by omega) k0 (by omega)
    go_enter Yba.func4, Yba.ntmps4
    go_wp2_with fail
    refine (shared_any x y h0 h1 k0 k1 hxy _).mono ?_
    rintro e w' ⟨r, hr, rfl, rfl⟩
    have hle := hr.le
    have hlen := First.len (a := x.toNat) (b := y.toNat) (by rw [Int.toNat_of_nonneg h0, Int.toNat_of_nonneg k0]; exact hr) (by omega) (by omega)
    have hlt : x.toNat ^^^ y.toNat < 2 ^ 32 := Nat.xor_lt_two_pow (by omega) (by omega)
    generalize x.toNat ^^^ y.toNat = z at hx hlen hlt
    have hz0 : (0 : Int) ≤ z := by omega
    have hz1 : (z : Int) ≤ 4294967295 := by omega
    go_wp2_with fail
    refine (Yba.bits_LeadingZeros64 _ _ (by omega) (by omega)).mono ?_
    rintro e w' ⟨rfl, rfl⟩
    rw [Int.toNat_natCast]
    generalize Lib.bitLen z = l at hlen ⊢
    obtain ⟨hl0, hl1⟩ := hlen
    have HE : Hid (((r : Int) == (64 - (l : Int) - 32) / 4) = true) := by
      show ((r : Int) == (64 - (l : Int) - 32) / 4) = true
      simp; omega
    have hl2 : (l : Int) ≤ 32 := by omega
    have hl3 : (1 : Int) ≤ l := by omega
    go_wp2_with fail
    go_ret
    exact ⟨congrArg (fun b => Ending.returned (.bool b)) HE.out, Grown.refl _⟩
end Go.Proofs.Ybulkaatq
