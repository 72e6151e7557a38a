/-
  zzPositional at every input that the law lets by; FnFormattedPositional, walked.
-/
import Derived.Test.Qxb6603079aDoorSciWalk
namespace Go.Proofs.Qxb6603079aDoor
open Go.RowKit Plain

theorem zp_conv {neg : Bool} {dg : ByteArray} {exp : Int} {w : World} {l l' : List UInt8} (h : Calls Tryd.prog 8 #[.bool neg, .string dg, .int .i64 exp] w fun e w' => ∃ s : ByteArray, Hid (s.data.toList = l) ∧ e = .returned (.string s) ∧ Below w.heap.size w w') (e : l = l') :
    Calls Tryd.prog 8 #[.bool neg, .string dg, .int .i64 exp] w fun e w' => ∃ s : ByteArray, Hid (s.data.toList = l') ∧ e = .returned (.string s) ∧ Below w.heap.size w w' := by
  subst e; exact h

theorem head_take (dg : ByteArray) (h0 : 0 < dg.size) : dg.data.toList.take 1 = [dg[0]] := by
  have h : 0 < dg.data.toList.length := by rw [size_list]; exact h0
  rw [List.take_succ_eq_append_getElem h]
  rfl

theorem zp_any (neg : Bool) (dg : ByteArray) (exp : Int) (w : World) (h1 : 1 ≤ dg.size) (h2 : dg.size ≤ 100000) (hx1 : exp ≤ 4611686018427387904) (hx2 : -4611686018427387904 ≤ exp) :
    Calls Tryd.prog 8 #[.bool neg, .string dg, .int .i64 exp] w fun e w' => ∃ s : ByteArray, Hid (s.data.toList = text neg dg.data.toList exp) ∧ e = .returned (.string s) ∧ Below w.heap.size w w' := by
  have hl := size_list dg
  have h0 : 0 < dg.size := h1
  unfold text
  by_cases hc : hiOf dg.size exp - loOf exp + 1 ≤ 100000
  · have hge : loOf exp ≤ hiOf dg.size exp := by unfold hiOf loOf; split <;> split <;> omega
    obtain ⟨M, hM⟩ : ∃ M : Nat, (M : Int) = hiOf dg.size exp - loOf exp + 1 := ⟨(hiOf dg.size exp - loOf exp + 1).toNat, by omega⟩
    have law := pos_law dg.data.toList exp M (by rw [hl]; exact h1) (by rw [hl]; exact h2) (by rw [hl]; exact hM) (by omega)
    rw [hl] at law
    have hM0 : 1 ≤ M := by omega
    have hM1 : M ≤ 100000 := by omega
    by_cases g1 : (dg.size : Int) + exp - 1 < 0
    · have g2 : ¬ 0 < exp := by omega
      have ehi : hiOf dg.size exp = 0 := by unfold hiOf; rw [if_pos g1]
      have elo : loOf exp = exp := by unfold loOf; rw [if_neg g2]
      rw [ehi, elo] at law hM
      cases neg with
      | true => exact zp_conv (pos_low_true dg exp M w h1 h2 hx1 hx2 g1 g2 hM hM1 hM0) (by rw [law])
      | false => exact zp_conv (pos_low_false dg exp M w h1 h2 hx1 hx2 g1 g2 hM hM1 hM0) (by rw [law])
    · have ehi : hiOf dg.size exp = (dg.size : Int) + exp - 1 := by unfold hiOf; rw [if_neg g1]
      by_cases g2 : 0 < exp
      · have elo : loOf exp = 0 := by unfold loOf; rw [if_pos g2]
        rw [ehi, elo] at law hM
        cases neg with
        | true => exact zp_conv (pos_up_true dg exp M w h1 h2 hx1 hx2 g1 g2 hM hM1 hM0) (by rw [law])
        | false => exact zp_conv (pos_up_false dg exp M w h1 h2 hx1 hx2 g1 g2 hM hM1 hM0) (by rw [law])
      · have elo : loOf exp = exp := by unfold loOf; rw [if_neg g2]
        rw [ehi, elo] at law hM
        cases neg with
        | true => exact zp_conv (pos_mid_true dg exp M w h1 h2 hx1 hx2 g1 g2 hM hM1 hM0) (by rw [law])
        | false => exact zp_conv (pos_mid_false dg exp M w h1 h2 hx1 hx2 g1 g2 hM hM1 hM0) (by rw [law])
  · have law := sci_law dg.data.toList exp (by rw [hl]; exact h1) (by rw [hl]; exact h2) (by rw [hl]; omega)
    rw [hl, head_take dg h0] at law
    by_cases g1 : (dg.size : Int) + exp - 1 < 0
    · have g2 : ¬ 0 < exp := by omega
      have hcn : 100000 < -exp + 1 := by
        unfold hiOf loOf at hc; rw [if_pos g1, if_neg g2] at hc; omega
      rw [if_neg (show ¬ 0 ≤ (dg.size : Int) + exp - 1 by omega)] at law
      by_cases hn : 1 < dg.size
      · rw [if_pos hn] at law
        cases neg with
        | true => exact zp_conv (sci_low_many_true dg exp w h1 h2 hx1 hx2 g1 g2 hcn hn h0) (by rw [law]; simp)
        | false => exact zp_conv (sci_low_many_false dg exp w h1 h2 hx1 hx2 g1 g2 hcn hn h0) (by rw [law]; simp)
      · rw [if_neg hn] at law
        cases neg with
        | true => exact zp_conv (sci_low_one_true dg exp w h1 h2 hx1 hx2 g1 g2 hcn hn h0) (by rw [law]; simp)
        | false => exact zp_conv (sci_low_one_false dg exp w h1 h2 hx1 hx2 g1 g2 hcn hn h0) (by rw [law]; simp)
    · have g2 : 0 < exp := by
        unfold hiOf loOf at hc; rw [if_neg g1] at hc
        by_cases g : 0 < exp
        · exact g
        · rw [if_neg g] at hc; omega
      have hcn : 100000 < (dg.size : Int) + exp := by
        unfold hiOf loOf at hc; rw [if_neg g1, if_pos g2] at hc; omega
      rw [if_pos (show 0 ≤ (dg.size : Int) + exp - 1 by omega)] at law
      by_cases hn : 1 < dg.size
      · rw [if_pos hn] at law
        cases neg with
        | true => exact zp_conv (sci_up_many_true dg exp w h1 h2 hx1 hx2 g1 g2 hcn hn h0) (by rw [law]; simp)
        | false => exact zp_conv (sci_up_many_false dg exp w h1 h2 hx1 hx2 g1 g2 hcn hn h0) (by rw [law]; simp)
      · rw [if_neg hn] at law
        cases neg with
        | true => exact zp_conv (sci_up_one_true dg exp w h1 h2 hx1 hx2 g1 g2 hcn hn h0) (by rw [law]; simp)
        | false => exact zp_conv (sci_up_one_false dg exp w h1 h2 hx1 hx2 g1 g2 hcn hn h0) (by rw [law]; simp)

theorem ext_list {x y : ByteArray} (h : x.data.toList = y.data.toList) : x = y := by
  obtain ⟨⟨l⟩⟩ := x
  obtain ⟨⟨m⟩⟩ := y
  simp only at h
  rw [h]

theorem bytes6_yes (neg : Bool) (dg : ByteArray) (exp : Int) (w : World) (h : dg.size ≤ 1048576) :
    Calls Tryd.prog 6 #[.bool neg, .string dg, .int .i64 exp] w fun e w' => e = .returned (.bool true) ∧ w' = w := by
  go_enter Tryd.func6, Tryd.ntmps6
  go_wp2
  go_ret
  exact ⟨rfl, rfl⟩
theorem bytes6_no (neg : Bool) (dg : ByteArray) (exp : Int) (w : World) (h : 1048576 < dg.size) (hm : dg.size ≤ 9223372036854775807) :
    Calls Tryd.prog 6 #[.bool neg, .string dg, .int .i64 exp] w fun e w' => e = .returned (.bool false) ∧ w' = w := by
  go_enter Tryd.func6, Tryd.ntmps6
  go_wp2
  go_ret
  exact ⟨rfl, rfl⟩

theorem pos_out (neg : Bool) (dg : ByteArray) (exp : Int) (w : World) (hm : dg.size ≤ maxLen)
    (h : dg.size = 0 ∨ 100000 < dg.size ∨ 4611686018427387904 < exp ∨ exp < -4611686018427387904) :
    Calls Tryd.prog 3 #[.bool neg, .string dg, .int .i64 exp] w fun e w' => e = .returned (.bool true) ∧ Below w.heap.size w w' := by
  unfold maxLen at hm
  by_cases h0 : 1048576 < dg.size
  · clear h
    go_enter Tryd.func3, Tryd.ntmps3
    go_wp2_with (go_at_call 6; refine (bytes6_no _ _ _ _ h0 hm).mono ?_; rintro e w' ⟨rfl, rfl⟩)
    go_ret
    exact ⟨rfl, Below.refl _ _⟩
  · have h0' : dg.size ≤ 1048576 := by omega
    by_cases h1 : dg.size = 0
    · have h1' : ((dg.size : Int) == 0) = true := by rw [h1]; rfl
      clear h h1
      go_enter Tryd.func3, Tryd.ntmps3
      go_wp2_with (go_at_call 6; refine (bytes6_yes _ _ _ _ h0').mono ?_; rintro e w' ⟨rfl, rfl⟩)
      go_ret
      exact ⟨rfl, Below.refl _ _⟩
    · have h1' : ((dg.size : Int) == 0) = false := beq_eq_false_iff_ne.2 (by omega)
      by_cases h2 : 100000 < dg.size
      · clear h h1
        go_enter Tryd.func3, Tryd.ntmps3
        go_wp2_with (go_at_call 6; refine (bytes6_yes _ _ _ _ h0').mono ?_; rintro e w' ⟨rfl, rfl⟩)
        go_ret
        exact ⟨rfl, Below.refl _ _⟩
      · by_cases h3 : 4611686018427387904 < exp
        · clear h h1
          go_enter Tryd.func3, Tryd.ntmps3
          go_wp2_with (go_at_call 6; refine (bytes6_yes _ _ _ _ h0').mono ?_; rintro e w' ⟨rfl, rfl⟩)
          go_ret
          exact ⟨rfl, Below.refl _ _⟩
        · have h4 : exp < -4611686018427387904 := by omega
          clear h h1
          go_enter Tryd.func3, Tryd.ntmps3
          go_wp2_with (go_at_call 6; refine (bytes6_yes _ _ _ _ h0').mono ?_; rintro e w' ⟨rfl, rfl⟩)
          go_ret
          exact ⟨rfl, Below.refl _ _⟩

theorem pos_in (neg : Bool) (dg : ByteArray) (exp : Int) (w : World) (h1 : 1 ≤ dg.size) (h2 : dg.size ≤ 100000) (h3 : exp ≤ 4611686018427387904) (h4 : -4611686018427387904 ≤ exp) (ht : Tab w) :
    Calls Tryd.prog 3 #[.bool neg, .string dg, .int .i64 exp] w fun e w' => e = .returned (.bool true) ∧ Below w.heap.size w w' := by
  have h1' : ((dg.size : Int) == 0) = false := beq_eq_false_iff_ne.2 (by omega)
  have HT : Hid (Tab w) := ht
  clear ht
  go_enter Tryd.func3, Tryd.ntmps3
  go_wp2_with (go_at_call 6; refine (bytes6_yes _ _ _ _ (by omega)).mono ?_; rintro e w' ⟨rfl, rfl⟩)
  refine (zz_any _ _ _ _ h1 h2 h3 h4 HT.out).mono ?_
  rintro e w1 ⟨s, HS, rfl, hb⟩
  go_wp2_with fail
  refine (zp_any _ _ _ _ h1 h2 h3 h4).mono ?_
  rintro e w2 ⟨s2, HS2, rfl, hb2⟩
  obtain rfl : s2 = s := ext_list (HS2.out.trans HS.out.symm)
  go_wp2
  go_ret
  exact ⟨rfl, hb.trans (hb2.mono hb.size)⟩

/-- THE LAW, walked. -/
theorem pos_any (neg : Bool) (dg : ByteArray) (exp : Int) (w : World) (hm : dg.size ≤ maxLen) (_hx1 : -9223372036854775808 ≤ exp) (_hx2 : exp ≤ 9223372036854775807) (ht : Tab w) :
    Calls Tryd.prog 3 #[.bool neg, .string dg, .int .i64 exp] w fun e w' => e = .returned (.bool true) ∧ Below w.heap.size w w' := by
  by_cases h : dg.size = 0 ∨ 100000 < dg.size ∨ 4611686018427387904 < exp ∨ exp < -4611686018427387904
  · exact pos_out neg dg exp w hm h
  · exact pos_in neg dg exp w (by omega) (by omega) (by omega) (by omega) ht
end Go.Proofs.Qxb6603079aDoor
