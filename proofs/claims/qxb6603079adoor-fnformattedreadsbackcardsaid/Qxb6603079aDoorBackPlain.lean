/-
  THE PLAIN LAW of FnFormattedReadsBack: trimming zeros, and that a text read back trims to the digits that were written.
-/
import Derived.Test.Qxb6603079aDoorPlain
namespace Go.Proofs.Qxb6603079aDoor.Plain
open Go

/-- Leading zeros struck. -/
def ltrim : List UInt8 → List UInt8
  | [] => []
  | c :: l => if c = 48 then ltrim l else c :: l

/-- Trailing zeros struck. -/
def rtrim (l : List UInt8) : List UInt8 := (ltrim l.reverse).reverse

/-- Both. -/
def core (l : List UInt8) : List UInt8 := rtrim (ltrim l)

/-- How many trailing zeros are struck behind the leading ones. -/
def tz (l : List UInt8) : Int := ((ltrim l).length : Int) - (core l).length

theorem ltrim_zero (l : List UInt8) : ltrim (48 :: l) = ltrim l := by rw [ltrim, if_pos rfl]
theorem ltrim_stop (c : UInt8) (l : List UInt8) (h : c ≠ 48) : ltrim (c :: l) = c :: l := by rw [ltrim, if_neg h]
theorem ltrim_zeros : ∀ (k : Nat) (l : List UInt8), ltrim (List.replicate k 48 ++ l) = ltrim l
  | 0, _ => rfl
  | k + 1, l => by rw [List.replicate_succ, List.cons_append, ltrim_zero]; exact ltrim_zeros k l
theorem ltrim_le : ∀ l : List UInt8, (ltrim l).length ≤ l.length
  | [] => Nat.le_refl _
  | c :: l => by
    rw [ltrim]
    split
    · have := ltrim_le l; simp; omega
    · exact Nat.le_refl _
theorem ltrim_append : ∀ (l m : List UInt8), ltrim l ≠ [] → ltrim (l ++ m) = ltrim l ++ m
  | [], _, h => absurd rfl h
  | c :: l, m, h => by
    rw [List.cons_append, ltrim, ltrim]
    by_cases hc : c = 48
    · rw [if_pos hc, if_pos hc]
      rw [ltrim, if_pos hc] at h
      exact ltrim_append l m h
    · rw [if_neg hc, if_neg hc]; rfl
theorem ltrim_append_nil : ∀ (l m : List UInt8), ltrim l = [] → ltrim (l ++ m) = ltrim m
  | [], _, _ => rfl
  | c :: l, m, h => by
    rw [List.cons_append, ltrim]
    rw [ltrim] at h
    by_cases hc : c = 48
    · rw [if_pos hc] at h ⊢; exact ltrim_append_nil l m h
    · rw [if_neg hc] at h; cases h

theorem rtrim_nil : rtrim [] = [] := rfl
theorem rtrim_zero (l : List UInt8) : rtrim (l ++ [48]) = rtrim l := by
  unfold rtrim
  rw [List.reverse_append, List.reverse_singleton, List.singleton_append, ltrim_zero]
theorem rtrim_stop (l : List UInt8) (c : UInt8) (h : c ≠ 48) : rtrim (l ++ [c]) = l ++ [c] := by
  unfold rtrim
  rw [List.reverse_append, List.reverse_singleton, List.singleton_append, ltrim_stop _ _ h]
  simp
theorem rtrim_zeros (l : List UInt8) : ∀ k : Nat, rtrim (l ++ List.replicate k 48) = rtrim l
  | 0 => by simp
  | k + 1 => by rw [List.replicate_succ', ← List.append_assoc, rtrim_zero]; exact rtrim_zeros l k
theorem rtrim_le (l : List UInt8) : (rtrim l).length ≤ l.length := by
  unfold rtrim
  rw [List.length_reverse]
  have := ltrim_le l.reverse
  rw [List.length_reverse] at this
  exact this

/-- What the law asks of a text's digits m and their power g, of digits d and power exp. -/
def Same (d : List UInt8) (exp : Int) (m : List UInt8) (g : Int) : Prop := core m = core d ∧ (core d ≠ [] → exp + tz d = g + tz m)

theorem same_refl (d : List UInt8) (exp : Int) : Same d exp d exp := ⟨rfl, fun _ => rfl⟩

theorem same_lead (d : List UInt8) (exp : Int) (k : Nat) : Same d exp (List.replicate k 48 ++ d) exp := by
  have e : ltrim (List.replicate k 48 ++ d) = ltrim d := ltrim_zeros k d
  unfold Same tz core
  rw [e]
  exact ⟨rfl, fun _ => rfl⟩

theorem same_tail (d : List UInt8) (c : Nat) : Same d (c : Int) (d ++ List.replicate c 48) 0 := by
  by_cases h : ltrim d = []
  · have e : ltrim (d ++ List.replicate c 48) = [] := by
      rw [ltrim_append_nil _ _ h]
      have := ltrim_zeros c []
      rw [List.append_nil] at this
      rw [this]; rfl
    unfold Same tz core
    rw [e, h]
    exact ⟨rfl, fun h' => absurd rfl h'⟩
  · have e : ltrim (d ++ List.replicate c 48) = ltrim d ++ List.replicate c 48 := ltrim_append _ _ h
    unfold Same tz core
    rw [e, rtrim_zeros]
    refine ⟨rfl, fun _ => ?_⟩
    rw [List.length_append, List.length_replicate]
    omega

/-- The value of decimal digits. -/
def val : List UInt8 → Nat := List.foldl (fun a c => a * 10 + (c.toNat - 48)) 0

theorem val_snoc (l : List UInt8) (c : UInt8) : val (l ++ [c]) = val l * 10 + (c.toNat - 48) := by
  unfold val; rw [List.foldl_append]; rfl

theorem foldl_ge (l : List UInt8) : ∀ a : Nat, a ≤ l.foldl (fun a c => a * 10 + (c.toNat - 48)) a := by
  induction l with
  | nil => intro a; exact Nat.le_refl _
  | cons c l ih => intro a; exact Nat.le_trans (by omega) (ih (a * 10 + (c.toNat - 48)))

/-- A head of the digits is at most a tenth of the whole. -/
theorem val_head (l m : List UInt8) (h : m ≠ []) : val l * 10 ≤ val (l ++ m) := by
  cases m with
  | nil => exact absurd rfl h
  | cons c m =>
    have e : l ++ c :: m = (l ++ [c]) ++ m := by simp
    rw [e]
    unfold val
    rw [List.foldl_append]
    refine Nat.le_trans ?_ (foldl_ge m _)
    have := val_snoc l c
    unfold val at this
    rw [this]
    omega

theorem val_dec : ∀ f u, u < f → val (Lib.decDigits u) = u
  | 0, _, h => absurd h (Nat.not_lt_zero _)
  | f + 1, u, h => by
    rw [Lib.decDigits]
    by_cases h1 : u < 10
    · rw [dif_pos h1]
      simp [val, UInt8.toNat_ofNat]
      omega
    · rw [dif_neg h1, val_snoc, val_dec f (u / 10) (by omega)]
      simp [UInt8.toNat_ofNat]
      omega

/-- The numeral's bytes are digits. -/
theorem dec_digit : ∀ f u, u < f → ∀ c ∈ Lib.decDigits u, 48 ≤ c.toNat ∧ c.toNat ≤ 57
  | 0, _, h => absurd h (Nat.not_lt_zero _)
  | f + 1, u, h => by
    rw [Lib.decDigits]
    by_cases h1 : u < 10
    · rw [dif_pos h1]
      intro c hc
      rw [List.mem_singleton] at hc
      subst hc
      simp [UInt8.toNat_ofNat]
      omega
    · rw [dif_neg h1]
      intro c hc
      rw [List.mem_append, List.mem_singleton] at hc
      rcases hc with hc | rfl
      · exact dec_digit f (u / 10) (by omega) c hc
      · simp [UInt8.toNat_ofNat]
        omega
end Go.Proofs.Qxb6603079aDoor.Plain
