/-
  THE PLAIN LAW (no Go in sight): numerals in a base, the shortlex order of texts, and that numerals behind one and the same head stand in shortlex order as their numbers stand.
-/
import Derived.Lib.ItoaNum
namespace Go.Proofs.Qxb6603072aDoor.Plain
open Go

/-- The digit's byte: '0' to '9', then 'a' on. -/
def dgt (d : Nat) : UInt8 := UInt8.ofNat (if d < 10 then 48 + d else 87 + d)

theorem dgt_toNat (d : Nat) (h : d < 36) : (dgt d).toNat = if d < 10 then 48 + d else 87 + d := by
  unfold dgt
  split <;> simp [UInt8.toNat_ofNat] <;> omega

theorem dgt_lt (c d : Nat) (h : c < d) (hd : d < 36) : (dgt c).toNat < (dgt d).toNat := by
  rw [dgt_toNat c (by omega), dgt_toNat d hd]
  split <;> split <;> omega

def numF (b : Nat) : Nat → Nat → List UInt8
  | 0, _ => []
  | f + 1, u => if u < b then [dgt u] else numF b f (u / b) ++ [dgt (u % b)]

/-- u's numeral in base b, the first digit ahead. -/
def num (b u : Nat) : List UInt8 := numF b (u + 1) u

theorem div_lt (b u : Nat) (hb : 2 ≤ b) (h : ¬ u < b) : u / b < u := Nat.div_lt_self (by omega) (by omega)

theorem numF_fuel (b : Nat) (hb : 2 ≤ b) : ∀ f u, u < f → ∀ g, u < g → numF b f u = numF b g u
  | 0, _, h, _, _ => absurd h (Nat.not_lt_zero _)
  | f + 1, u, hf, 0, hg => absurd hg (Nat.not_lt_zero _)
  | f + 1, u, hf, g + 1, hg => by
    unfold numF
    by_cases h : u < b
    · rw [if_pos h, if_pos h]
    · have := div_lt b u hb h
      rw [if_neg h, if_neg h, numF_fuel b hb f (u / b) (by omega) g (by omega)]

theorem num_small (b u : Nat) (h : u < b) : num b u = [dgt u] := by
  unfold num numF
  rw [if_pos h]

theorem num_big (b u : Nat) (hb : 2 ≤ b) (h : ¬ u < b) : num b u = num b (u / b) ++ [dgt (u % b)] := by
  have hl := div_lt b u hb h
  have e : num b u = numF b u (u / b) ++ [dgt (u % b)] := by
    unfold num
    rw [numF, if_neg h]
  rw [e, numF_fuel b hb u (u / b) hl (u / b + 1) (by omega)]
  rfl

theorem num_pos (b u : Nat) (hb : 2 ≤ b) : 1 ≤ (num b u).length := by
  by_cases h : u < b
  · rw [num_small b u h]; exact Nat.le_refl _
  · rw [num_big b u hb h, List.length_append]; simp

theorem num_len (b : Nat) (hb : 2 ≤ b) : ∀ k u, u < b ^ (k + 1) → (num b u).length ≤ k + 1
  | 0, u, h => by
    rw [num_small b u (by simpa using h)]; exact Nat.le_refl _
  | k + 1, u, h => by
    by_cases h1 : u < b
    · rw [num_small b u h1]; simp
    · rw [num_big b u hb h1, List.length_append]
      have hd : u / b < b ^ (k + 1) := by
        rw [Nat.div_lt_iff_lt_mul (by omega)]
        rw [Nat.pow_succ] at h
        exact h
      have := num_len b hb k (u / b) hd
      simp only [List.length_cons, List.length_nil]
      omega

theorem num_len64 (b u : Nat) (hb : 2 ≤ b) (hu : u < 18446744073709551616) : (num b u).length ≤ 64 :=
  num_len b hb 63 u (Nat.lt_of_lt_of_le hu (by
    have := Nat.pow_le_pow_left hb 64
    have e : (2 : Nat) ^ 64 = 18446744073709551616 := by decide
    omega))

/-- The decimal numeral of the library is the numeral in base 10. -/
theorem decDigits_num : ∀ f u, u < f → Lib.decDigits u = num 10 u
  | 0, _, h => absurd h (Nat.not_lt_zero _)
  | f + 1, u, h => by
    rw [Lib.decDigits]
    by_cases h1 : u < 10
    · rw [dif_pos h1, num_small 10 u h1]
      unfold dgt
      rw [if_pos h1]
    · rw [dif_neg h1, num_big 10 u (by omega) h1, decDigits_num f (u / 10) (by omega)]
      unfold dgt
      rw [if_pos (by omega)]

theorem dec_num (u : Nat) : Lib.decDigits u = num 10 u := decDigits_num (u + 1) u (by omega)

/-! ### Shortlex -/

/-- Byte by byte, as far as both reach. -/
def cmpL : List UInt8 → List UInt8 → Int
  | a :: l, b :: m => if a.toNat < b.toNat then -1 else if b.toNat < a.toNat then 1 else cmpL l m
  | _, _ => 0

/-- Shorter first, then byte by byte. -/
def shortlex (x y : List UInt8) : Int := if x.length < y.length then -1 else if y.length < x.length then 1 else cmpL x y

theorem cmpL_self : ∀ l, cmpL l l = 0
  | [] => rfl
  | a :: l => by simp [cmpL, cmpL_self l]

theorem cmpL_swap : ∀ l m, cmpL m l = -(cmpL l m)
  | [], [] => rfl
  | [], _ :: _ => rfl
  | _ :: _, [] => rfl
  | a :: l, b :: m => by
    unfold cmpL
    by_cases h1 : a.toNat < b.toNat
    · rw [if_pos h1, if_neg (by omega), if_pos h1]; rfl
    · by_cases h2 : b.toNat < a.toNat
      · rw [if_pos h2, if_neg h1, if_pos h2]
      · rw [if_neg h2, if_neg h1, if_neg h1, if_neg h2]
        exact cmpL_swap l m

theorem shortlex_swap (x y : List UInt8) : shortlex y x = -(shortlex x y) := by
  unfold shortlex
  by_cases h1 : x.length < y.length
  · rw [if_pos h1, if_neg (by omega), if_pos h1]; rfl
  · by_cases h2 : y.length < x.length
    · rw [if_pos h2, if_neg h1, if_pos h2]
    · rw [if_neg h2, if_neg h1, if_neg h1, if_neg h2]
      exact cmpL_swap x y

theorem cmpL_prefix : ∀ p l m, cmpL (p ++ l) (p ++ m) = cmpL l m
  | [], _, _ => rfl
  | a :: p, l, m => by
    rw [List.cons_append, List.cons_append, cmpL, if_neg (by omega), if_neg (by omega)]
    exact cmpL_prefix p l m

theorem shortlex_prefix (p l m : List UInt8) : shortlex (p ++ l) (p ++ m) = shortlex l m := by
  unfold shortlex
  rw [cmpL_prefix, List.length_append, List.length_append]
  by_cases h1 : l.length < m.length
  · rw [if_pos h1, if_pos (by omega)]
  · by_cases h2 : m.length < l.length
    · rw [if_neg h1, if_neg (by omega), if_pos h2, if_pos (by omega)]
    · rw [if_neg h1, if_neg (by omega), if_neg h2, if_neg (by omega)]

theorem cmpL_snoc : ∀ l m c d, l.length = m.length → cmpL l m = -1 → cmpL (l ++ [c]) (m ++ [d]) = -1
  | [], [], _, _, _, h => by simp [cmpL] at h
  | [], _ :: _, _, _, h, _ => by simp at h
  | _ :: _, [], _, _, h, _ => by simp at h
  | a :: l, b :: m, c, d, hl, h => by
    rw [List.cons_append, List.cons_append]
    unfold cmpL at h ⊢
    by_cases h1 : a.toNat < b.toNat
    · rw [if_pos h1]
    · rw [if_neg h1] at h ⊢
      by_cases h2 : b.toNat < a.toNat
      · rw [if_pos h2] at h; simp at h
      · rw [if_neg h2] at h ⊢
        exact cmpL_snoc l m c d (by simpa using hl) h

/-- Numerals stand in shortlex order as their numbers do. -/
theorem num_lt (b : Nat) (hb : 2 ≤ b) (h36 : b ≤ 36) : ∀ f y, y < f → ∀ x, x < y →
    (num b x).length < (num b y).length ∨ ((num b x).length = (num b y).length ∧ cmpL (num b x) (num b y) = -1)
  | 0, _, h, _, _ => absurd h (Nat.not_lt_zero _)
  | f + 1, y, hf, x, hx => by
    by_cases hy : y < b
    · rw [num_small b y hy, num_small b x (by omega)]
      refine .inr ⟨rfl, ?_⟩
      unfold cmpL
      rw [if_pos (dgt_lt x y hx (by omega))]
    · have hly := div_lt b y hb hy
      rw [num_big b y hb hy]
      by_cases hxb : x < b
      · rw [num_small b x hxb]
        have := num_pos b (y / b) hb
        refine .inl ?_
        simp only [List.length_append, List.length_cons, List.length_nil]
        omega
      · rw [num_big b x hb hxb]
        have hle : x / b ≤ y / b := Nat.div_le_div_right (by omega)
        by_cases he : x / b < y / b
        · rcases num_lt b hb h36 f (y / b) (by omega) (x / b) he with h | ⟨h1, h2⟩
          · refine .inl ?_
            simp only [List.length_append, List.length_cons, List.length_nil]
            omega
          · refine .inr ⟨?_, cmpL_snoc _ _ _ _ h1 h2⟩
            simp only [List.length_append, List.length_cons, List.length_nil]
            omega
        · have he' : x / b = y / b := by omega
          have hm : x % b < y % b := by
            have e1 := Nat.div_add_mod x b
            have e2 := Nat.div_add_mod y b
            rw [he'] at e1
            omega
          rw [he']
          refine .inr ⟨by simp, ?_⟩
          rw [cmpL_prefix]
          unfold cmpL
          rw [if_pos (dgt_lt _ _ hm (by have := Nat.mod_lt y (show 0 < b by omega); omega))]

theorem shortlex_lt (b x y : Nat) (p : List UInt8) (hb : 2 ≤ b) (h36 : b ≤ 36) (h : x < y) : shortlex (p ++ num b x) (p ++ num b y) = -1 := by
  rw [shortlex_prefix]
  unfold shortlex
  rcases num_lt b hb h36 (y + 1) y (by omega) x h with h1 | ⟨h1, h2⟩
  · rw [if_pos h1]
  · rw [if_neg (by omega), if_neg (by omega), h2]

theorem shortlex_gt (b x y : Nat) (p : List UInt8) (hb : 2 ≤ b) (h36 : b ≤ 36) (h : y < x) : shortlex (p ++ num b x) (p ++ num b y) = 1 := by
  rw [shortlex_swap, shortlex_lt b y x p hb h36 h]; rfl

theorem shortlex_self (l : List UInt8) : shortlex l l = 0 := by
  unfold shortlex
  rw [if_neg (by omega), if_neg (by omega), cmpL_self]

end Go.Proofs.Qxb6603072aDoor.Plain
