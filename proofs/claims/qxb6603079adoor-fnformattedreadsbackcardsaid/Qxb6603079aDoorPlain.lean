/-
  THE PLAIN FUNCTION (no Go in sight): what formatted writes, and how long it is.
-/
import Derived.Lib.ItoaNum
namespace Go.Proofs.Qxb6603079aDoor.Plain
open Go

def sgn (neg : Bool) : List UInt8 := if neg then [45] else []

/-- digits times ten to exp: in full where that takes at most 100000 digits, else with an exponent. -/
def body (d : List UInt8) (exp : Int) : List UInt8 :=
  if 0 ≤ exp ∧ (d.length : Int) + exp ≤ 100000 then d ++ List.replicate exp.toNat 48
  else if exp < 0 ∧ 0 < (d.length : Int) + exp then d.take ((d.length : Int) + exp).toNat ++ 46 :: d.drop ((d.length : Int) + exp).toNat
  else if exp < 0 ∧ 1 - exp ≤ 100000 then [48, 46] ++ List.replicate (-((d.length : Int) + exp)).toNat 48 ++ d
  else d.take 1 ++ (if 1 < d.length then 46 :: d.drop 1 else []) ++ [101] ++ (if 0 < (d.length : Int) + exp then [43] else []) ++ Lib.itoa ((d.length : Int) + exp - 1)

def text (neg : Bool) (d : List UInt8) (exp : Int) : List UInt8 := sgn neg ++ body d exp

theorem itoa_pos (n : Int) : 1 ≤ (Lib.itoa n).length := by
  unfold Lib.itoa
  split
  · simp
  · rw [Lib.decDigits_length]; exact Lib.nDigits_pos _

/-- A number below 10^19 has at most 19 digits. -/
theorem nDigits_le19 (u : Nat) (h : u < 10000000000000000000) : Lib.nDigits u ≤ 19 := by
  by_cases h0 : u = 0
  · subst h0; rw [Lib.nDigits_small (by omega)]; omega
  · have h1 := Lib.numDigits_eq u (by omega) (by omega)
    rcases Nat.lt_or_ge 19 (Lib.nDigits u) with hh | hh
    · exfalso
      obtain ⟨e, hl⟩ := h1
      split at e
      · rename_i hp
        have h19 : Lib.l10 (Lib.bitLen u) = 19 := by omega
        rw [h19] at hp
        have e19 : (10 : Nat) ^ 19 = 10000000000000000000 := by decide
        omega
      · omega
    · exact hh

theorem itoa_len20 (n : Int) (h0 : -4611686018427487904 ≤ n) (h1 : n ≤ 4611686018427487904) : (Lib.itoa n).length ≤ 20 := by
  unfold Lib.itoa
  split
  · rw [List.length_cons, Lib.decDigits_length]
    have := nDigits_le19 n.natAbs (by omega)
    omega
  · rw [Lib.decDigits_length]
    have := nDigits_le19 n.toNat (by omega)
    omega

theorem itoa_len19 (n : Int) (h0 : 0 ≤ n) (h1 : n ≤ 4611686018427487904) : (Lib.itoa n).length ≤ 19 := by
  unfold Lib.itoa
  rw [if_neg (by omega), Lib.decDigits_length]
  exact nDigits_le19 n.toNat (by omega)

theorem sgn_len (neg : Bool) : (sgn neg).length = if neg then 1 else 0 := by cases neg <;> rfl

/-- The text's length: at least the digits', at most 100023 behind the sign's. -/
theorem body_len (d : List UInt8) (exp : Int) (h1 : 1 ≤ d.length) (h2 : d.length ≤ 100000) (h3 : exp ≤ 4611686018427387904) (h4 : -4611686018427387904 ≤ exp) :
    d.length ≤ (body d exp).length ∧ (body d exp).length ≤ 100023 := by
  unfold body
  by_cases c1 : 0 ≤ exp ∧ (d.length : Int) + exp ≤ 100000
  · rw [if_pos c1]
    simp only [List.length_append, List.length_replicate]
    omega
  · rw [if_neg c1]
    by_cases c2 : exp < 0 ∧ 0 < (d.length : Int) + exp
    · rw [if_pos c2]
      simp only [List.length_append, List.length_cons, List.length_take, List.length_drop]
      omega
    · rw [if_neg c2]
      by_cases c3 : exp < 0 ∧ 1 - exp ≤ 100000
      · rw [if_pos c3]
        simp only [List.length_append, List.length_cons, List.length_nil, List.length_replicate]
        omega
      · rw [if_neg c3]
        have p := itoa_pos ((d.length : Int) + exp - 1)
        by_cases e1 : 0 < (d.length : Int) + exp
        · have q := itoa_len19 ((d.length : Int) + exp - 1) (by omega) (by omega)
          rw [if_pos e1]
          by_cases e2 : 1 < d.length
          · rw [if_pos e2]
            simp only [List.length_append, List.length_cons, List.length_nil, List.length_take, List.length_drop]
            omega
          · rw [if_neg e2]
            simp only [List.length_append, List.length_cons, List.length_nil, List.length_take]
            omega
        · have q := itoa_len20 ((d.length : Int) + exp - 1) (by omega) (by omega)
          rw [if_neg e1]
          by_cases e2 : 1 < d.length
          · rw [if_pos e2]
            simp only [List.length_append, List.length_cons, List.length_nil, List.length_take, List.length_drop]
            omega
          · rw [if_neg e2]
            simp only [List.length_append, List.length_cons, List.length_nil, List.length_take]
            omega
end Go.Proofs.Qxb6603079aDoor.Plain
