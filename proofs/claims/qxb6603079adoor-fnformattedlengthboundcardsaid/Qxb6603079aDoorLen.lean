/-
  FnFormattedLengthBound, walked.
-/
import Derived.Test.Qxb6603079aDoorAll
namespace Go.Proofs.Qxb6603079aDoor
open Go.RowKit Plain

theorem bytes12_yes (neg : Bool) (dg : ByteArray) (exp : Int) (w : World) (h : dg.size ≤ 1048576) :
    Calls Tryd.prog 12 #[.bool neg, .string dg, .int .i64 exp] w fun e w' => e = .returned (.bool true) ∧ w' = w := by
  go_enter Tryd.func12, Tryd.ntmps12
  go_wp2
  go_ret
  exact ⟨rfl, rfl⟩
theorem bytes12_no (neg : Bool) (dg : ByteArray) (exp : Int) (w : World) (h : 1048576 < dg.size) (hm : dg.size ≤ 9223372036854775807) :
    Calls Tryd.prog 12 #[.bool neg, .string dg, .int .i64 exp] w fun e w' => e = .returned (.bool false) ∧ w' = w := by
  go_enter Tryd.func12, Tryd.ntmps12
  go_wp2
  go_ret
  exact ⟨rfl, rfl⟩

theorem len_out (neg : Bool) (dg : ByteArray) (exp : Int) (w : World) (hm : dg.size ≤ maxLen)
    (h : dg.size = 0 ∨ 100000 < dg.size ∨ 4611686018427387904 < exp ∨ exp < -4611686018427387904) :
    Calls Tryd.prog 5 #[.bool neg, .string dg, .int .i64 exp] w fun e w' => e = .returned (.bool true) ∧ Below w.heap.size w w' := by
  unfold maxLen at hm
  by_cases h0 : 1048576 < dg.size
  · clear h
    go_enter Tryd.func5, Tryd.ntmps5
    go_wp2_with (go_at_call 12; refine (bytes12_no _ _ _ _ h0 hm).mono ?_; rintro e w' ⟨rfl, rfl⟩)
    go_ret
    exact ⟨rfl, Below.refl _ _⟩
  · have h0' : dg.size ≤ 1048576 := by omega
    by_cases h1 : dg.size = 0
    · have h1' : ((dg.size : Int) == 0) = true := by rw [h1]; rfl
      clear h h1
      go_enter Tryd.func5, Tryd.ntmps5
      go_wp2_with (go_at_call 12; refine (bytes12_yes _ _ _ _ h0').mono ?_; rintro e w' ⟨rfl, rfl⟩)
      go_ret
      exact ⟨rfl, Below.refl _ _⟩
    · have h1' : ((dg.size : Int) == 0) = false := beq_eq_false_iff_ne.2 (by omega)
      by_cases h2 : 100000 < dg.size
      · clear h h1
        go_enter Tryd.func5, Tryd.ntmps5
        go_wp2_with (go_at_call 12; refine (bytes12_yes _ _ _ _ h0').mono ?_; rintro e w' ⟨rfl, rfl⟩)
        go_ret
        exact ⟨rfl, Below.refl _ _⟩
      · by_cases h3 : 4611686018427387904 < exp
        · clear h h1
          go_enter Tryd.func5, Tryd.ntmps5
          go_wp2_with (go_at_call 12; refine (bytes12_yes _ _ _ _ h0').mono ?_; rintro e w' ⟨rfl, rfl⟩)
          go_ret
          exact ⟨rfl, Below.refl _ _⟩
        · have h4 : exp < -4611686018427387904 := by omega
          clear h h1
          go_enter Tryd.func5, Tryd.ntmps5
          go_wp2_with (go_at_call 12; refine (bytes12_yes _ _ _ _ h0').mono ?_; rintro e w' ⟨rfl, rfl⟩)
          go_ret
          exact ⟨rfl, Below.refl _ _⟩

theorem text_len (neg : Bool) (d : List UInt8) (exp : Int) (h1 : 1 ≤ d.length) (h2 : d.length ≤ 100000) (h3 : exp ≤ 4611686018427387904) (h4 : -4611686018427387904 ≤ exp) :
    (if neg then d.length + 1 else d.length) ≤ (text neg d exp).length ∧ (text neg d exp).length ≤ 100024 := by
  have b := body_len d exp h1 h2 h3 h4
  unfold text
  rw [List.length_append, sgn_len]
  cases neg <;> simp <;> omega

theorem len_in (neg : Bool) (dg : ByteArray) (exp : Int) (w : World) (h1 : 1 ≤ dg.size) (h2 : dg.size ≤ 100000) (h3 : exp ≤ 4611686018427387904) (h4 : -4611686018427387904 ≤ exp) (ht : Tab w) :
    Calls Tryd.prog 5 #[.bool neg, .string dg, .int .i64 exp] w fun e w' => e = .returned (.bool true) ∧ Below w.heap.size w w' := by
  have h1' : ((dg.size : Int) == 0) = false := beq_eq_false_iff_ne.2 (by omega)
  have HL := text_len neg dg.data.toList exp (by rw [size_list]; exact h1) (by rw [size_list]; exact h2) h3 h4
  rw [size_list] at HL
  have HL2 := Lib.hid HL
  clear HL
  have HT : Hid (Tab w) := ht
  clear ht
  cases neg with
  | true =>
    go_enter Tryd.func5, Tryd.ntmps5
    go_wp2_with (go_at_call 12; refine (bytes12_yes _ _ _ _ (by omega)).mono ?_; rintro e w' ⟨rfl, rfl⟩)
    refine (zz_any _ _ _ _ h1 h2 h3 h4 HT.out).mono ?_
    rintro e w1 ⟨s, HS, rfl, hb⟩
    have hs1 : dg.size + 1 ≤ s.size := by have := HL2.out.1; rw [← HS.out, size_list] at this; exact this
    have hs2 : s.size ≤ 100024 := by have := HL2.out.2; rw [← HS.out, size_list] at this; exact this
    go_wp2
    go_ret
    exact ⟨ret_bool (a := decide ((s.size : Int) ≤ 100024)) (decide_eq_true (by omega)), hb⟩
  | false =>
    go_enter Tryd.func5, Tryd.ntmps5
    go_wp2_with (go_at_call 12; refine (bytes12_yes _ _ _ _ (by omega)).mono ?_; rintro e w' ⟨rfl, rfl⟩)
    refine (zz_any _ _ _ _ h1 h2 h3 h4 HT.out).mono ?_
    rintro e w1 ⟨s, HS, rfl, hb⟩
    have hs1 : dg.size ≤ s.size := by have := HL2.out.1; rw [← HS.out, size_list] at this; exact this
    have hs2 : s.size ≤ 100024 := by have := HL2.out.2; rw [← HS.out, size_list] at this; exact this
    go_wp2
    go_ret
    exact ⟨ret_bool (a := decide ((s.size : Int) ≤ 100024)) (decide_eq_true (by omega)), hb⟩

/-- THE LAW, walked. -/
theorem len_any (neg : Bool) (dg : ByteArray) (exp : Int) (w : World) (hm : dg.size ≤ maxLen) (_hx1 : -9223372036854775808 ≤ exp) (_hx2 : exp ≤ 9223372036854775807) (ht : Tab w) :
    Calls Tryd.prog 5 #[.bool neg, .string dg, .int .i64 exp] w fun e w' => e = .returned (.bool true) ∧ Below w.heap.size w w' := by
  by_cases h : dg.size = 0 ∨ 100000 < dg.size ∨ 4611686018427387904 < exp ∨ exp < -4611686018427387904
  · exact len_out neg dg exp w hm h
  · exact len_in neg dg exp w (by omega) (by omega) (by omega) (by omega) ht
end Go.Proofs.Qxb6603079aDoor
