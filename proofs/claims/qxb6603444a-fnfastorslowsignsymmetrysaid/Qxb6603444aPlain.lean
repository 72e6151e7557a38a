/-
  The plain law of the floats on the road of FnFastOrSlowSignSymmetry: what the sign bit's turn does to a word's datum, and how the word and its opposite stand to zero. No Go in sight.
-/
import Ieee.Arith
import GoSem.Op.Unary
namespace Go.Proofs.Qxb6603444a.Plain
open Go

theorem flip_mod (x : Nat) : (x ^^^ 9223372036854775808) % 9223372036854775808 = x % 9223372036854775808 := by
  have h := Nat.xor_mod_two_pow (a := x) (b := 2 ^ 63) (n := 63)
  rw [Nat.mod_self, Nat.xor_zero] at h
  exact h

theorem flip_div (x : Nat) : (x ^^^ 9223372036854775808) / 9223372036854775808 % 2 = 1 - x / 9223372036854775808 % 2 := by
  have h : (x ^^^ 2 ^ 63) >>> 63 = (x >>> 63) ^^^ ((2 ^ 63) >>> 63) := Nat.shiftRight_xor_distrib
  rw [Nat.shiftRight_eq_div_pow, Nat.shiftRight_eq_div_pow, Nat.shiftRight_eq_div_pow, Nat.div_self (by decide)] at h
  have h2 := Nat.xor_mod_two_pow (a := x / 2 ^ 63) (b := 1) (n := 1)
  rw [← h] at h2
  have h3 : x / 2 ^ 63 % 2 ^ 1 = 0 ∨ x / 2 ^ 63 % 2 ^ 1 = 1 := by omega
  rcases h3 with h3 | h3
  · rw [h3] at h2
    have h4 : (x ^^^ 2 ^ 63) / 2 ^ 63 % 2 ^ 1 = 1 := h2
    have e1 : (2 : Nat) ^ 63 = 9223372036854775808 := by decide
    have e2 : (2 : Nat) ^ 1 = 2 := by decide
    rw [e1, e2] at h4 h3
    omega
  · rw [h3] at h2
    have h4 : (x ^^^ 2 ^ 63) / 2 ^ 63 % 2 ^ 1 = 0 := h2
    have e1 : (2 : Nat) ^ 63 = 9223372036854775808 := by decide
    have e2 : (2 : Nat) ^ 1 = 2 := by decide
    rw [e1, e2] at h4 h3
    omega

theorem read_flip (x : Nat) : Ieee.double.read (Op.negFloat .f64 x) = (Ieee.double.read x).opposite := by
  have e : Op.negFloat .f64 x = x ^^^ 9223372036854775808 := rfl
  have w : Ieee.double.signWeight = 9223372036854775808 := by decide
  rw [e]
  unfold Ieee.Format.read
  rw [w, flip_mod, flip_div]
  have h3 : x / 9223372036854775808 % 2 = 0 ∨ x / 9223372036854775808 % 2 = 1 := by omega
  have hn : ((1 - x / 9223372036854775808 % 2 == 1) : Bool) = !(x / 9223372036854775808 % 2 == 1) := by
    rcases h3 with h3 | h3 <;> rw [h3] <;> rfl
  rw [hn]
  generalize x % 9223372036854775808 = r
  generalize (x / 9223372036854775808 % 2 == 1) = b
  dsimp only
  by_cases c1 : r < Ieee.double.binade
  · rw [if_pos c1, if_pos c1]; rfl
  · rw [if_neg c1, if_neg c1]
    by_cases c2 : r < Ieee.double.infRung
    · rw [if_pos c2, if_pos c2]; rfl
    · rw [if_neg c2, if_neg c2]
      by_cases c3 : r = Ieee.double.infRung
      · rw [if_pos c3, if_pos c3]; rfl
      · rw [if_neg c3, if_neg c3]; rfl

theorem read_zero : Ieee.double.read 0 = .number false 0 Ieee.double.leastPlace := by decide

theorem signed_zero (up : Nat) : Ieee.signed false 0 up = 0 := by simp [Ieee.signed]
theorem signed_nought (s : Bool) (up : Nat) : Ieee.signed s 0 up = 0 := by cases s <;> simp [Ieee.signed]
theorem shift_pos (m up : Nat) (h : m ≠ 0) : 0 < m <<< up := by
  rw [Nat.shiftLeft_eq]
  exact Nat.mul_pos (Nat.pos_of_ne_zero h) (Nat.pow_pos (by decide))
theorem compare_int_self (a : Int) : compare a a = .eq := by
  rw [Int.compare_eq_eq]

/-- The three ways: the word above zero and its opposite below; the other way round; neither above zero, and then the word is a zero or a NaN. -/
theorem ways (x : Nat) :
    (Ieee.double.order x 0 = some .gt ∧ Ieee.double.order (Op.negFloat .f64 x) 0 = some .lt ∧ Ieee.double.order x x = some .eq) ∨
    (Ieee.double.order x 0 = some .lt ∧ Ieee.double.order (Op.negFloat .f64 x) 0 = some .gt ∧ Ieee.double.order x x = some .eq) ∨
    (Ieee.double.order x 0 = some .eq ∧ Ieee.double.order (Op.negFloat .f64 x) 0 = some .eq) ∨
    (Ieee.double.order x 0 = none ∧ Ieee.double.order (Op.negFloat .f64 x) 0 = none ∧ Ieee.double.order x x = none) := by
  unfold Ieee.Format.order
  rw [read_flip, read_zero]
  generalize Ieee.double.read x = d
  generalize Ieee.double.leastPlace = p
  cases d with
  | nan s t => exact .inr (.inr (.inr ⟨rfl, rfl, rfl⟩))
  | infinity s =>
    cases s with
    | false => exact .inl ⟨rfl, rfl, rfl⟩
    | true => exact .inr (.inl ⟨rfl, rfl, rfl⟩)
  | number s m i =>
    simp only [Ieee.Datum.order, Ieee.Datum.opposite, signed_zero, compare_int_self]
    by_cases hm : m = 0
    · subst hm
      rw [signed_nought, signed_nought]
      exact .inr (.inr (.inl ⟨rfl, rfl⟩))
    · have hp := shift_pos m (i - min i p).toNat hm
      have ef : Ieee.signed false m (i - min i p).toNat = ((m <<< (i - min i p).toNat : Nat) : Int) := rfl
      have et : Ieee.signed true m (i - min i p).toNat = -((m <<< (i - min i p).toNat : Nat) : Int) := rfl
      have g : compare ((m <<< (i - min i p).toNat : Nat) : Int) 0 = .gt := Int.compare_eq_gt.2 (by omega)
      have l : compare (-((m <<< (i - min i p).toNat : Nat) : Int)) 0 = .lt := Int.compare_eq_lt.2 (by omega)
      cases s with
      | false =>
        refine .inl ⟨?_, ?_, trivial⟩
        · rw [ef, g]
        · show some (compare (Ieee.signed true m (i - min i p).toNat) 0) = _
          rw [et, l]
      | true =>
        refine .inr (.inl ⟨?_, ?_, trivial⟩)
        · rw [et, l]
        · show some (compare (Ieee.signed false m (i - min i p).toNat) 0) = _
          rw [ef, g]
end Go.Proofs.Qxb6603444a.Plain
