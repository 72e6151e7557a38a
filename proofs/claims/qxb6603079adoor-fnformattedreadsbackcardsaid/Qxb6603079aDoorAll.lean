/-
  formatted and ZZformatted at every input that the laws let by: the plain function's text.
-/
import Derived.Test.Qxb6603079aDoorFmt
namespace Go.Proofs.Qxb6603079aDoor
open Go.RowKit Plain

theorem extract_tail (s : ByteArray) (p : Nat) : (s.extract p s.size).data.toList = s.data.toList.drop p := by
  rw [Lib.extract_data, List.take_of_length_le]
  rw [List.length_drop, size_list]
  exact Nat.le_refl _
theorem extract_head (s : ByteArray) (p : Nat) : (s.extract 0 p).data.toList = s.data.toList.take p := by
  rw [Lib.extract_data, List.drop_zero, Nat.sub_zero]

theorem calls_str {f : Nat} {args : Array Value} {w : World} {l l' : List UInt8} (h : Calls Tryd.prog f args w fun e w' => e = .returned (.string ⟨l.toArray⟩) ∧ Below w.heap.size w w') (e : l = l') :
    Calls Tryd.prog f args w fun e w' => e = .returned (.string ⟨l'.toArray⟩) ∧ Below w.heap.size w w' := by
  subst e; exact h

theorem formatted_any (neg : Bool) (dg : ByteArray) (exp : Int) (w : World) (h1 : 1 ≤ dg.size) (h2 : dg.size ≤ 100000) (hx1 : exp ≤ 4611686018427387904) (hx2 : -4611686018427387904 ≤ exp) (ht : Tab w) :
    Calls Tryd.prog 13 #[.bool neg, .string dg, .int .i64 exp] w fun e w' => e = .returned (.string ⟨(text neg dg.data.toList exp).toArray⟩) ∧ Below w.heap.size w w' := by
  have hl := size_list dg
  by_cases c1 : 0 ≤ exp ∧ (dg.size : Int) + exp ≤ 100000
  · obtain ⟨c, rfl⟩ : ∃ c : Nat, exp = c := ⟨exp.toNat, by omega⟩
    have eb : body dg.data.toList (c : Int) = dg.data.toList ++ List.replicate c 48 := by
      unfold body; rw [if_pos (by rw [hl]; exact c1)]; rfl
    unfold text
    cases neg with
    | true => exact calls_str (fm_full_true dg c w h1 h2 (by omega) ht) (by rw [eb]; simp [sgn])
    | false => exact calls_str (fm_full_false dg c w h1 h2 (by omega) ht) (by rw [eb]; simp [sgn])
  · by_cases c2 : exp < 0 ∧ 0 < (dg.size : Int) + exp
    · obtain ⟨p, hp⟩ : ∃ p : Nat, (dg.size : Int) + exp = p := ⟨((dg.size : Int) + exp).toNat, by omega⟩
      have eb : body dg.data.toList exp = dg.data.toList.take p ++ 46 :: dg.data.toList.drop p := by
        unfold body; rw [hl, if_neg c1, if_pos c2, hp]; rfl
      unfold text
      cases neg with
      | true => exact calls_str (fm_point_true dg exp p w h1 h2 c2.1 hp (by omega) (by omega) ht) (by rw [eb, extract_head, extract_tail]; simp [sgn])
      | false => exact calls_str (fm_point_false dg exp p w h1 h2 c2.1 hp (by omega) (by omega) ht) (by rw [eb, extract_head, extract_tail]; simp [sgn])
    · by_cases c3 : exp < 0 ∧ 1 - exp ≤ 100000
      · obtain ⟨q, hq⟩ : ∃ q : Nat, (dg.size : Int) + exp = -(q : Int) := ⟨(-((dg.size : Int) + exp)).toNat, by omega⟩
        have eb : body dg.data.toList exp = [48, 46] ++ List.replicate q 48 ++ dg.data.toList := by
          unfold body; rw [hl, if_neg c1, if_neg c2, if_pos c3, hq, Int.neg_neg]; rfl
        unfold text
        cases neg with
        | true => exact calls_str (fm_small_true dg exp q w h1 h2 c3.1 hq c3.2 ht) (by rw [eb]; simp [sgn])
        | false => exact calls_str (fm_small_false dg exp q w h1 h2 c3.1 hq c3.2 ht) (by rw [eb]; simp [sgn])
      · have eb : body dg.data.toList exp = dg.data.toList.take 1 ++ (if 1 < dg.size then 46 :: dg.data.toList.drop 1 else []) ++ [101] ++ (if 0 < (dg.size : Int) + exp then [43] else []) ++ Lib.itoa ((dg.size : Int) + exp - 1) := by
          unfold body; rw [hl, if_neg c1, if_neg c2, if_neg c3]
        unfold text
        by_cases he : 0 ≤ exp
        · rw [if_pos (show 0 < (dg.size : Int) + exp by omega)] at eb
          by_cases hn : 1 < dg.size
          · rw [if_pos hn] at eb
            cases neg with
            | true => exact calls_str (fm_pos_many_true dg exp w h1 h2 hx1 hx2 he (by omega) hn ht) (by rw [eb, extract_head, extract_tail]; simp [sgn])
            | false => exact calls_str (fm_pos_many_false dg exp w h1 h2 hx1 hx2 he (by omega) hn ht) (by rw [eb, extract_head, extract_tail]; simp [sgn])
          · rw [if_neg hn] at eb
            cases neg with
            | true => exact calls_str (fm_pos_one_true dg exp w h1 h2 hx1 hx2 he (by omega) hn ht) (by rw [eb, extract_head]; simp [sgn])
            | false => exact calls_str (fm_pos_one_false dg exp w h1 h2 hx1 hx2 he (by omega) hn ht) (by rw [eb, extract_head]; simp [sgn])
        · rw [if_neg (show ¬ 0 < (dg.size : Int) + exp by omega)] at eb
          by_cases hn : 1 < dg.size
          · rw [if_pos hn] at eb
            cases neg with
            | true => exact calls_str (fm_neg_many_true dg exp w h1 h2 hx1 hx2 (by omega) (by omega) (by omega) hn ht) (by rw [eb, extract_head, extract_tail]; simp [sgn])
            | false => exact calls_str (fm_neg_many_false dg exp w h1 h2 hx1 hx2 (by omega) (by omega) (by omega) hn ht) (by rw [eb, extract_head, extract_tail]; simp [sgn])
          · rw [if_neg hn] at eb
            cases neg with
            | true => exact calls_str (fm_neg_one_true dg exp w h1 h2 hx1 hx2 (by omega) (by omega) (by omega) hn ht) (by rw [eb, extract_head]; simp [sgn])
            | false => exact calls_str (fm_neg_one_false dg exp w h1 h2 hx1 hx2 (by omega) (by omega) (by omega) hn ht) (by rw [eb, extract_head]; simp [sgn])

/-- ZZformatted, the text behind a name. -/
theorem zz_any (neg : Bool) (dg : ByteArray) (exp : Int) (w : World) (h1 : 1 ≤ dg.size) (h2 : dg.size ≤ 100000) (hx1 : exp ≤ 4611686018427387904) (hx2 : -4611686018427387904 ≤ exp) (ht : Tab w) :
    Calls Tryd.prog 7 #[.bool neg, .string dg, .int .i64 exp] w fun e w' => ∃ s : ByteArray, Hid (s.data.toList = text neg dg.data.toList exp) ∧ e = .returned (.string s) ∧ Below w.heap.size w w' := by
  go_enter Tryd.func7, Tryd.ntmps7
  go_wp2_with fail
  refine (calls_str (formatted_any neg dg exp w h1 h2 hx1 hx2 ht) rfl).mono ?_
  rintro e w1 ⟨rfl, hb⟩
  generalize hs : (⟨(text neg dg.data.toList exp).toArray⟩ : ByteArray) = s
  have HS : Hid (s.data.toList = text neg dg.data.toList exp) := by rw [← hs]; rfl
  clear hs
  go_wp2
  go_ret
  exact ⟨s, HS, rfl, hb⟩
end Go.Proofs.Qxb6603079aDoor
