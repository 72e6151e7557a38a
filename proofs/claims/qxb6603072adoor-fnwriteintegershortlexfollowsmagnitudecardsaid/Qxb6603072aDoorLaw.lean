/-
  writeInteger at every sign byte and base byte; ZZWriteInteger; the law.
-/
import Derived.Test.Qxb6603072aDoorWrite
namespace Go.Proofs.Qxb6603072aDoor
open Go.RowKit Plain

/-- All that is written for the magnitude u. -/
def written (neg : Bool) (sg bs : Int) (u : Nat) : List UInt8 := (sgn neg sg ++ lead bs) ++ num (baseOf bs) u

theorem wi_any (B b : Nat) (neg : Bool) (u : Nat) (sg bs : Int) (w : World) (hu : u < 18446744073709551616)
    (h : Lib.IsBuilderF 33 5 B b (Lib.byteCells []) w) (hBw : B ≤ w.heap.size) (hB : 2 < B) (ht : Tabs w) (hb : b < w.heap.size) :
    Calls Tryd.prog 10 #[.pointer (some ⟨b, 0, .none⟩), .agg #[.bool neg, .int .u64 u], .agg #[.int .u8 sg, .int .u8 bs]] w fun e w' =>
      e = .returned (.tuple #[]) ∧ Lib.IsBuilderF 33 5 B b (Lib.byteCells (written neg sg bs u)) w' ∧ Below B w w' := by
  by_cases h1 : bs = 1
  · subst h1
    cases neg with
    | true =>
      have e : written true sg 1 u = [] ++ [45] ++ [48] ++ num 8 u := by simp [written, sgn, lead, baseOf]
      rw [e]; exact wi_neg_8 B b [] u sg w hu (by simp) h hBw hB ht hb
    | false =>
      by_cases hs : sg = 1
      · subst hs
        have e : written false 1 1 u = [] ++ [43] ++ [48] ++ num 8 u := by simp [written, sgn, lead, baseOf]
        rw [e]; exact wi_plus_8 B b [] u w hu (by simp) h hBw hB ht hb
      · have e : written false sg 1 u = [] ++ [48] ++ num 8 u := by simp [written, sgn, lead, baseOf, hs]
        rw [e]; exact wi_bare_8 B b [] u sg w hu (by simp) (by simpa using hs) h hBw hB ht hb
  · by_cases h3 : bs = 3
    · subst h3
      cases neg with
      | true =>
        have e : written true sg 3 u = [] ++ [45] ++ [48, 120] ++ num 16 u := by simp [written, sgn, lead, baseOf]
        rw [e]; exact wi_neg_16 B b [] u sg w hu (by simp) h hBw hB ht hb
      | false =>
        by_cases hs : sg = 1
        · subst hs
          have e : written false 1 3 u = [] ++ [43] ++ [48, 120] ++ num 16 u := by simp [written, sgn, lead, baseOf]
          rw [e]; exact wi_plus_16 B b [] u w hu (by simp) h hBw hB ht hb
        · have e : written false sg 3 u = [] ++ [48, 120] ++ num 16 u := by simp [written, sgn, lead, baseOf, hs]
          rw [e]; exact wi_bare_16 B b [] u sg w hu (by simp) (by simpa using hs) h hBw hB ht hb
    · cases neg with
      | true =>
        have e : written true sg bs u = [] ++ [45] ++ num 10 u := by simp [written, sgn, lead, baseOf, h1, h3]
        rw [e]; exact wi_neg_10 B b [] u sg bs w hu (by simp) (by simpa using h1) (by simpa using h3) h hBw hB ht hb
      | false =>
        by_cases hs : sg = 1
        · subst hs
          have e : written false 1 bs u = [] ++ [43] ++ num 10 u := by simp [written, sgn, lead, baseOf, h1, h3]
          rw [e]; exact wi_plus_10 B b [] u bs w hu (by simp) (by simpa using h1) (by simpa using h3) h hBw hB ht hb
        · have e : written false sg bs u = [] ++ num 10 u := by simp [written, sgn, lead, baseOf, hs, h1, h3]
          rw [e]; exact wi_bare_10 B b [] u sg bs w hu (by simp) (by simpa using hs) (by simpa using h1) (by simpa using h3) h hBw hB ht hb

theorem baseOf_ge (bs : Int) : 2 ≤ baseOf bs := by unfold baseOf; split <;> (try split) <;> omega
theorem baseOf_le (bs : Int) : baseOf bs ≤ 36 := by unfold baseOf; split <;> (try split) <;> omega

theorem written_len (neg : Bool) (sg bs : Int) (u : Nat) (hu : u < 18446744073709551616) : (written neg sg bs u).length ≤ 100 := by
  have h := num_len64 (baseOf bs) u (baseOf_ge bs) hu
  have h1 : (sgn neg sg).length ≤ 1 := by unfold sgn; split <;> (try split) <;> simp
  have h2 : (lead bs).length ≤ 2 := by unfold lead; split <;> (try split) <;> simp
  unfold written
  simp only [List.length_append]
  omega

set_option maxHeartbeats 800000 in
/-- ZZWriteInteger behind the empty text. -/
theorem zz_any (neg : Bool) (u : Nat) (sg bs : Int) (w : World) (hu : u < 18446744073709551616) (ht : Tabs w) :
    Calls Tryd.prog 6 #[.string ⟨#[]⟩, .bool neg, .int .u64 u, .int .u8 sg, .int .u8 bs] w fun e w' =>
      e = .returned (.string ⟨(written neg sg bs u).toArray⟩) ∧ Below w.heap.size w w' := by
  have h2 := ht.1
  have hI0 : Lib.IsBuilderF 33 5 w.heap.size w.heap.size (Lib.byteCells []) (w.alloc (.cells #[.pointer .none, .slice .none 0 0] 33)) := Lib.IsBuilderF.of (Lib.fresh_isBuilder 33 5 w)
  have hb0 := below_alloc w (.cells #[.pointer .none, .slice .none 0 0] 33)
  have hT0 := ht.below hb0 h2
  have hz : (⟨#[]⟩ : ByteArray).size = 0 := rfl
  have HT : Hid (Tabs w) := ht
  clear ht
  go_enter Tryd.func6, Tryd.ntmps6
  go_wp2_with fail
  refine (Tryd.Builder_WriteString_k w.heap.size w.heap.size (Lib.byteCells []) ⟨#[]⟩ _ hI0 (by rw [hz]; simp [Lib.byteCells]) (by simp)).mono ?_
  rintro e W1 ⟨rfl, hI1, hb1, _⟩
  have hI1' : Lib.IsBuilderF 33 5 w.heap.size w.heap.size (Lib.byteCells []) W1 := .inr hI1
  have hs1 : w.heap.size < W1.heap.size := by have := hb1.size; simp at this; omega
  have hT1 := hT0.below hb1 h2
  go_wp2_with fail
  refine (wi_any w.heap.size w.heap.size neg u sg bs W1 hu hI1' (by omega) h2 hT1 hs1).mono ?_
  rintro e W2 ⟨rfl, hI2, hb2⟩
  have hs2 : w.heap.size ≤ W2.heap.size := by have := hb2.size; omega
  go_wp2_with fail
  refine (Tryd.Builder_String_any_k w.heap.size w.heap.size (written neg sg bs u) W2 hI2 hs2).mono ?_
  rintro e W3 ⟨rfl, _, hb3, _⟩
  go_wp2
  go_ret
  exact ⟨rfl, hb0.trans (hb1.trans (hb2.trans hb3))⟩

theorem ret_bool {a b : Bool} (h : a = b) : Ending.returned (.bool a) = .returned (.bool b) := by rw [h]
theorem below_drewN {B : Nat} {a w : World} (h : Below B a w) (n : Nat) : Below B a (w.drewN n) := ⟨h.os, h.tape, h.output, h.size, h.block⟩

set_option maxHeartbeats 1600000 in
theorem law_z (neg : Bool) (a b : Nat) (sg bs : Int) (w : World) (ha : a < 18446744073709551616) (hb : b < 18446744073709551616) (ht : Tabs w) (z : Int)
    (hz : shortlex (written neg sg bs a) (written neg sg bs b) = z) (hab : (a < b ∧ z = -1) ∨ (b < a ∧ z = 1) ∨ (a = b ∧ z = 0)) :
    Calls Tryd.prog 4 #[.bool neg, .int .u64 a, .int .u64 b, .int .u8 sg, .int .u8 bs] w fun e w' => e = .returned (.bool true) ∧ Below w.heap.size w w' := by
  have h2 := ht.1
  have la : (⟨(written neg sg bs a).toArray⟩ : ByteArray).size ≤ maxLen := Nat.le_trans (written_len neg sg bs a ha) (by unfold maxLen; omega)
  have lb : (⟨(written neg sg bs b).toArray⟩ : ByteArray).size ≤ maxLen := Nat.le_trans (written_len neg sg bs b hb) (by unfold maxLen; omega)
  have HZ : Hid (shortlex (⟨(written neg sg bs a).toArray⟩ : ByteArray).data.toList (⟨(written neg sg bs b).toArray⟩ : ByteArray).data.toList = z) := hz
  have HAB : Hid ((a < b ∧ z = -1) ∨ (b < a ∧ z = 1) ∨ (a = b ∧ z = 0)) := hab
  have HT : Hid (Tabs w) := ht
  clear ht hz hab
  go_enter Tryd.func4, Tryd.ntmps4
  go_wp2_with fail
  refine (zz_any neg a sg bs w ha HT.out).mono ?_
  rintro e W1 ⟨rfl, hb1⟩
  have hT1 : Hid (Tabs W1) := HT.out.below hb1 h2
  have hs1 := hb1.size
  go_wp2_with fail
  refine (zz_any neg b sg bs W1 hb hT1.out).mono ?_
  rintro e W2 ⟨rfl, hb2⟩
  have hbb := hb1.trans (hb2.mono hs1)
  go_wp2_with fail
  refine (lex_any _ _ W2 la lb).mono ?_
  rw [HZ.out]
  rintro e W3 ⟨rfl, n, rfl⟩
  have hfin := below_drewN hbb n
  clear la lb HZ
  rcases HAB.out with ⟨h, rfl⟩ | ⟨h, rfl⟩ | ⟨h, rfl⟩
  · go_wp2
    go_ret
    exact ⟨rfl, hfin⟩
  · have h' : ¬ a < b := by omega
    go_wp2
    go_ret
    exact ⟨rfl, hfin⟩
  · have h3 : ¬ a < b := by omega
    have h4 : ¬ b < a := by omega
    clear h
    go_wp2
    go_ret
    exact ⟨rfl, hfin⟩

/-- THE LAW, walked. -/
theorem law_any (neg : Bool) (a b : Nat) (sg bs : Int) (w : World) (ha : a < 18446744073709551616) (hb : b < 18446744073709551616) (ht : Tabs w) :
    Calls Tryd.prog 4 #[.bool neg, .int .u64 a, .int .u64 b, .int .u8 sg, .int .u8 bs] w fun e w' => e = .returned (.bool true) ∧ Below w.heap.size w w' := by
  by_cases h : a < b
  · exact law_z neg a b sg bs w ha hb ht (-1) (shortlex_lt _ a b _ (baseOf_ge bs) (baseOf_le bs) h) (.inl ⟨h, rfl⟩)
  · by_cases h' : b < a
    · exact law_z neg a b sg bs w ha hb ht 1 (shortlex_gt _ a b _ (baseOf_ge bs) (baseOf_le bs) h') (.inr (.inl ⟨h', rfl⟩))
    · have e : a = b := by omega
      exact law_z neg a b sg bs w ha hb ht 0 (by rw [e]; exact shortlex_self _) (.inr (.inr ⟨e, rfl⟩))
end Go.Proofs.Qxb6603072aDoor
