/-
  THE PLAIN LAW of FnFormattedPositional: the number written power of ten by power of ten is the text that formatted writes.
-/
import Derived.Test.Qxb6603079aDoorPlain
namespace Go.Proofs.Qxb6603079aDoor.Plain
open Go

/-- The byte at the power p. -/
def dgAt (d : List UInt8) (exp p : Int) : UInt8 :=
  if 0 ≤ (d.length : Int) - 1 - (p - exp) ∧ (d.length : Int) - 1 - (p - exp) < d.length then d.getD ((d.length : Int) - 1 - (p - exp)).toNat 0 else 48

/-- What one round writes. -/
def emit (d : List UInt8) (exp lo p : Int) : List UInt8 := if p = 0 ∧ lo < 0 then [dgAt d exp p, 46] else [dgAt d exp p]

/-- m rounds, from the power p downwards. -/
def emits (d : List UInt8) (exp lo : Int) : Nat → Int → List UInt8
  | 0, _ => []
  | m + 1, p => emit d exp lo p ++ emits d exp lo m (p - 1)

theorem emits_add (d : List UInt8) (exp lo : Int) : ∀ (a b : Nat) (p : Int), emits d exp lo (a + b) p = emits d exp lo a p ++ emits d exp lo b (p - a)
  | 0, b, p => by simp [emits]
  | a + 1, b, p => by
    have e : a + 1 + b = (a + b) + 1 := by omega
    rw [e, emits, emits, emits_add d exp lo a b (p - 1), List.append_assoc]
    have e2 : p - 1 - (a : Int) = p - ((a + 1 : Nat) : Int) := by omega
    rw [e2]

/-- Rounds at places that the digits fill, none of them the point's. -/
theorem emits_digits (d : List UInt8) (exp lo : Int) : ∀ (m i : Nat) (p : Int), (d.length : Int) - 1 - (p - exp) = i → i + m ≤ d.length → (0 ≤ lo ∨ p < 0 ∨ (m : Int) ≤ p) → emits d exp lo m p = (d.drop i).take m
  | 0, i, p, _, _, _ => by simp [emits]
  | m + 1, i, p, hi, hm, hp => by
    have hlt : i < d.length := by omega
    have hd : dgAt d exp p = d[i] := by
      unfold dgAt
      rw [hi, if_pos (by omega)]
      simp [hlt]
    rw [emits, emit, if_neg (by omega), hd, emits_digits d exp lo m (i + 1) (p - 1) (by omega) (by omega) (by omega), List.drop_eq_getElem_cons hlt]
    rfl

/-- Rounds at places that the digits do not fill, none of them the point's. -/
theorem emits_zeros (d : List UInt8) (exp lo : Int) : ∀ (m : Nat) (p : Int), ((d.length : Int) ≤ (d.length : Int) - 1 - (p - exp) ∨ (d.length : Int) - 1 - (p - exp) + m ≤ 0) → (0 ≤ lo ∨ p < 0 ∨ (m : Int) ≤ p) → emits d exp lo m p = List.replicate m 48
  | 0, p, _, _ => by simp [emits]
  | m + 1, p, hi, hp => by
    have hd : dgAt d exp p = 48 := by
      unfold dgAt
      rw [if_neg (by omega)]
    rw [emits, emit, if_neg (by omega), hd, emits_zeros d exp lo m (p - 1) (by omega) (by omega)]
    rfl

theorem emits_point (d : List UInt8) (exp lo : Int) (hlo : lo < 0) : emits d exp lo 1 0 = [dgAt d exp 0, 46] := by
  simp [emits, emit, hlo]

/-- exp at least 0. -/
theorem pos_full (d : List UInt8) (c : Nat) : emits d c 0 (d.length + c) ((d.length : Int) + c - 1) = d ++ List.replicate c 48 := by
  rw [emits_add, emits_digits d c 0 d.length 0 _ (by omega) (by omega) (by omega), emits_zeros d c 0 c _ (by omega) (by omega)]
  simp

/-- exp below 0, the point inside the digits. -/
theorem pos_point (d : List UInt8) (exp : Int) (p : Nat) (hp : (d.length : Int) + exp = p) (hp0 : 0 < p) (he : exp < 0) :
    emits d exp exp d.length ((p : Int) - 1) = d.take p ++ 46 :: d.drop p := by
  obtain ⟨k, rfl⟩ : ∃ k, p = k + 1 := ⟨p - 1, by omega⟩
  obtain ⟨r, hr⟩ : ∃ r : Nat, d.length = k + (1 + r) := ⟨d.length - (k + 1), by omega⟩
  have e1 : emits d exp exp d.length (((k + 1 : Nat) : Int) - 1) = emits d exp exp (k + (1 + r)) (((k + 1 : Nat) : Int) - 1) := by rw [← hr]
  have hlt : k < d.length := by omega
  have hd : dgAt d exp 0 = d[k] := by
    unfold dgAt
    have e2 : (d.length : Int) - 1 - (0 - exp) = (k : Int) := by omega
    rw [e2, if_pos (by omega)]
    simp [hlt]
  have e3 : ((k + 1 : Nat) : Int) - 1 - (k : Int) = 0 := by omega
  rw [e1, emits_add, emits_add, emits_digits d exp exp k 0 _ (by omega) (by omega) (by omega), e3, emits_point d exp exp he, hd,
    emits_digits d exp exp r (k + 1) _ (by omega) (by omega) (by omega), List.drop_zero, List.take_of_length_le (i := r) (by rw [List.length_drop]; omega)]
  have e4 : d.take (k + 1) = d.take k ++ [d[k]] := List.take_succ_eq_append_getElem hlt
  rw [e4, List.append_assoc]
  rfl

/-- exp below 0, the digits behind the point. -/
theorem pos_small (d : List UInt8) (exp : Int) (q : Nat) (hq : (d.length : Int) + exp = -(q : Int)) (he : exp < 0) :
    emits d exp exp (1 + (q + d.length)) 0 = [48, 46] ++ List.replicate q 48 ++ d := by
  have hd : dgAt d exp 0 = 48 := by
    unfold dgAt
    rw [if_neg (by omega)]
  rw [emits_add, emits_add, emits_point d exp exp he, hd, emits_zeros d exp exp q _ (by omega) (by omega),
    emits_digits d exp exp d.length 0 _ (by omega) (by omega) (by omega)]
  simp

/-! ### What zzPositional's numbers are -/
def hiOf (n exp : Int) : Int := if n + exp - 1 < 0 then 0 else n + exp - 1
def loOf (exp : Int) : Int := if 0 < exp then 0 else exp

/-- THE LAW where the rounds are at most 100000. -/
theorem pos_law (d : List UInt8) (exp : Int) (m : Nat) (h1 : 1 ≤ d.length) (h2 : d.length ≤ 100000) (hm : (m : Int) = hiOf d.length exp - loOf exp + 1) (hm1 : m ≤ 100000) :
    emits d exp (loOf exp) m (hiOf d.length exp) = body d exp := by
  by_cases c1 : 0 ≤ exp
  · obtain ⟨c, rfl⟩ : ∃ c : Nat, exp = c := ⟨exp.toNat, by omega⟩
    have ehi : hiOf d.length c = (d.length : Int) + c - 1 := by unfold hiOf; rw [if_neg (by omega)]
    have elo : loOf (c : Int) = 0 := by unfold loOf; split <;> omega
    rw [ehi, elo] at hm ⊢
    obtain rfl : m = d.length + c := by omega
    rw [pos_full d c]
    unfold body
    rw [if_pos (by omega)]
    rfl
  · have elo : loOf exp = exp := by unfold loOf; rw [if_neg (by omega)]
    by_cases c2 : 0 < (d.length : Int) + exp
    · obtain ⟨p, hp⟩ : ∃ p : Nat, (d.length : Int) + exp = p := ⟨((d.length : Int) + exp).toNat, by omega⟩
      have ehi : hiOf d.length exp = (p : Int) - 1 := by unfold hiOf; rw [if_neg (by omega), hp]
      rw [ehi, elo] at hm ⊢
      obtain rfl : m = d.length := by omega
      rw [pos_point d exp p hp (by omega) (by omega)]
      unfold body
      rw [if_neg (by omega), if_pos (by omega), hp]
      rfl
    · obtain ⟨q, hq⟩ : ∃ q : Nat, (d.length : Int) + exp = -(q : Int) := ⟨(-((d.length : Int) + exp)).toNat, by omega⟩
      have ehi : hiOf d.length exp = 0 := by unfold hiOf; rw [if_pos (by omega)]
      rw [ehi, elo] at hm ⊢
      obtain rfl : m = 1 + (q + d.length) := by omega
      rw [pos_small d exp q hq (by omega)]
      unfold body
      rw [if_neg (by omega), if_neg (by omega), if_pos (by omega), hq, Int.neg_neg]
      rfl

/-- .. and where they are more: the text with an exponent. -/
theorem sci_law (d : List UInt8) (exp : Int) (h1 : 1 ≤ d.length) (h2 : d.length ≤ 100000) (hm : 100000 < hiOf d.length exp - loOf exp + 1) :
    body d exp = d.take 1 ++ (if 1 < d.length then 46 :: d.drop 1 else []) ++ [101] ++ (if 0 ≤ (d.length : Int) + exp - 1 then [43] else []) ++ Lib.itoa ((d.length : Int) + exp - 1) := by
  unfold body
  unfold hiOf loOf at hm
  have e : (if 0 < (d.length : Int) + exp then ([43] : List UInt8) else []) = (if 0 ≤ (d.length : Int) + exp - 1 then [43] else []) := by
    by_cases h : 0 < (d.length : Int) + exp
    · rw [if_pos h, if_pos (by omega)]
    · rw [if_neg h, if_neg (by omega)]
  by_cases g1 : (d.length : Int) + exp - 1 < 0
  · rw [if_pos g1] at hm
    by_cases g2 : 0 < exp
    · omega
    · rw [if_neg g2] at hm
      rw [if_neg (by omega), if_neg (by omega), if_neg (by omega), e]
  · rw [if_neg g1] at hm
    by_cases g2 : 0 < exp
    · rw [if_pos g2] at hm
      rw [if_neg (by omega), if_neg (by omega), if_neg (by omega), e]
    · rw [if_neg g2] at hm
      omega
end Go.Proofs.Qxb6603079aDoor.Plain
