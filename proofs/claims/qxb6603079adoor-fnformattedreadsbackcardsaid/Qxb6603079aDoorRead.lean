/-
  zzParse at a text of known pieces: a sign, digits, a point and digits, an exponent (written by a small program of ours).
-/
import Derived.Test.Qxb6603079aDoorParse
namespace Go.Proofs.Qxb6603079aDoor
open Go.RowKit Plain
set_option linter.unusedVariables false      -- a way need not use every bound by its name
set_option linter.unusedSimpArgs false

/-- All bytes are decimal digits. -/
def Dig (l : List UInt8) : Prop := ∀ c ∈ l, 48 ≤ c.toNat ∧ c.toNat ≤ 57

theorem at_list (s : ByteArray) (j : Nat) (hj : j < s.size) : s.data.toList[j]? = some s[j] := by
  rw [List.getElem?_eq_getElem (by rw [size_list]; exact hj)]; rfl
theorem ch_at (s : ByteArray) (pre : List UInt8) (c : UInt8) (R : List UInt8) (h : s.data.toList = pre ++ c :: R) (p : Nat) (hp : pre.length = p) (hlt : p < s.size) : s[p] = c := by
  have e := at_list s p hlt
  rw [h, List.getElem?_append_right (by omega), hp, Nat.sub_self] at e
  simpa using e.symm
theorem dg_in (s : ByteArray) (pre A R : List UInt8) (h : s.data.toList = pre ++ (A ++ R)) (a P : Nat) (ha : pre.length = a) (hP : a + A.length = P) (hA : Dig A) :
    ∀ j (hj : j < s.size), a ≤ j → j < P → 48 ≤ s[j].toNat ∧ s[j].toNat ≤ 57 := by
  intro j hj h1 h2
  have e := at_list s j hj
  rw [h, List.getElem?_append_right (by omega), List.getElem?_append_left (by omega)] at e
  exact hA _ (List.mem_of_getElem? e)
theorem piece_is (s : ByteArray) (pre A R : List UInt8) (h : s.data.toList = pre ++ (A ++ R)) (a P : Nat) (ha : pre.length = a) (hP : a + A.length = P) : (s.data.toList.drop a).take (P - a) = A := by
  have e1 : (pre ++ (A ++ R)).drop a = A ++ R := by rw [← ha]; exact List.drop_left
  rw [h, e1, show P - a = A.length by omega]
  exact List.take_left
theorem drop_is (s : ByteArray) (pre R : List UInt8) (h : s.data.toList = pre ++ R) (q : Nat) (hq : pre.length = q) : s.data.toList.drop q = R := by
  rw [h, ← hq]; exact List.drop_left
theorem eq_int (c : UInt8) (z : Nat) (x : UInt8) (h : x = c) (hz : c.toNat = z) : ((x.toNat : Int) == (z : Int)) = true := by
  subst h; rw [hz]; simp
theorem first_digit (s : ByteArray) (A R : List UInt8) (h : s.data.toList = A ++ R) (h0 : 0 < s.size) (hA : Dig A) (hA0 : 0 < A.length) : ((s[0].toNat : Int) == 45) = false := by
  have := dg_in s [] A R (by simpa using h) 0 A.length rfl (by omega) hA 0 h0 (Nat.le_refl _) hA0
  exact beq_eq_false_iff_ne.2 (by omega)

theorem pr_no_none (s : ByteArray) (neg : Bool) (A : List UInt8) (w : World) (hs : s.size ≤ 300000) (hl : s.data.toList = sgn neg ++ (A ++ [])) (hA : Dig A) (hA0 : 0 < A.length) :
    Calls Tryd.prog 10 #[.string s] w fun e w' => ∃ (t : ByteArray) (g : Int), Hid (t.data.toList = A ∧ g = 0 - 0) ∧ e = .returned (.tuple #[.bool true, .bool neg, .string t, .int .i64 g]) ∧ Below w.heap.size w w' := by
  have hz := congrArg List.length hl
  rw [size_list] at hz
  simp only [List.length_append, List.length_cons, List.length_nil, sgn_len] at hz
  cases neg with
  | true =>
    have hl' : s.data.toList = [45] ++ (A ++ []) := hl
    simp only [Bool.false_eq_true, if_true, if_false] at hz
    have h0 : 0 < s.size := by omega
    have hsg : ((s[0].toNat : Int) == 45) = true := eq_int 45 45 _ (ch_at s [] 45 _ hl' 0 rfl h0) rfl
    have H1 := Lib.hid (dg_in s [45] A _ hl' 1 s.size rfl (by omega) hA)
    have e1 := piece_is s [45] A _ hl' 1 s.size rfl (by omega)
    refine (parse_no_none_true s w hs h0 hsg (by omega) H1).mono ?_
    rintro e w' ⟨t, g, HG, he', hb⟩
    obtain ⟨g1, g2⟩ := HG.out
    refine ⟨t, g, ⟨?_, ?_⟩, he', hb⟩
    · rw [g1, e1]
    · rw [g2]; try omega
  | false =>
    have hl' : s.data.toList = [] ++ (A ++ []) := hl
    simp only [Bool.false_eq_true, if_true, if_false] at hz
    have h0 : 0 < s.size := by omega
    have hsg : ((s[0].toNat : Int) == 45) = false := first_digit s A [] hl' h0 hA hA0
    have H1 := Lib.hid (dg_in s [] A _ hl' 0 s.size rfl (by omega) hA)
    have e1 := piece_is s [] A _ hl' 0 s.size rfl (by omega)
    refine (parse_no_none_false s w hs h0 hsg (by omega) H1).mono ?_
    rintro e w' ⟨t, g, HG, he', hb⟩
    obtain ⟨g1, g2⟩ := HG.out
    refine ⟨t, g, ⟨?_, ?_⟩, he', hb⟩
    · rw [g1, e1]
    · rw [g2]; try omega

theorem pr_no_plus (s : ByteArray) (neg : Bool) (A : List UInt8) (E : List UInt8) (V : Nat) (w : World) (hs : s.size ≤ 300000) (hl : s.data.toList = sgn neg ++ (A ++ (101 :: 43 :: E))) (hA : Dig A) (hA0 : 0 < A.length) (hE : Dig E) (hE0 : 0 < E.length) (hVe : val E = V) (hV : V ≤ 4611686018427487904) :
    Calls Tryd.prog 10 #[.string s] w fun e w' => ∃ (t : ByteArray) (g : Int), Hid (t.data.toList = A ∧ g = (V : Int) - 0) ∧ e = .returned (.tuple #[.bool true, .bool neg, .string t, .int .i64 g]) ∧ Below w.heap.size w w' := by
  have hz := congrArg List.length hl
  rw [size_list] at hz
  simp only [List.length_append, List.length_cons, List.length_nil, sgn_len] at hz
  cases neg with
  | true =>
    have hl' : s.data.toList = [45] ++ (A ++ (101 :: 43 :: E)) := hl
    simp only [Bool.false_eq_true, if_true, if_false] at hz
    have h0 : 0 < s.size := by omega
    have hsg : ((s[0].toNat : Int) == 45) = true := eq_int 45 45 _ (ch_at s [] 45 _ hl' 0 rfl h0) rfl
    have H1 := Lib.hid (dg_in s [45] A _ hl' 1 (1 + A.length) rfl (by omega) hA)
    have e1 := piece_is s [45] A _ hl' 1 (1 + A.length) rfl (by omega)
    have hlq : s.data.toList = ([45] ++ A) ++ 101 :: 43 :: E := by rw [hl']; simp
    have hq : (1 + A.length) < s.size := by omega
    have hq1 : (1 + A.length) + 2 < s.size := by omega
    have hq2 : (1 + A.length) + 1 < s.size := by omega
    have he : ((s[(1 + A.length)].toNat : Int) == 101) = true := eq_int 101 101 _ (ch_at s ([45] ++ A) 101 _ hlq (1 + A.length) (by simp; try omega) hq) rfl
    have hc := ch_at s (([45] ++ A) ++ [101]) 43 E (by rw [hlq]; simp) ((1 + A.length) + 1) (by simp; try omega) hq2
    have hsn : ((s[(1 + A.length) + 1].toNat : Int) == 43) = true := by rw [hc]; decide
    have hsm : ((s[(1 + A.length) + 1].toNat : Int) == 45) = false := by rw [hc]; decide
    have H3 : Hid (∀ j (hj : j < s.size), (1 + A.length) + 2 ≤ j → 48 ≤ s[j].toNat ∧ s[j].toNat ≤ 57) := fun j hj h1 =>
      dg_in s (([45] ++ A) ++ [101, 43]) E [] (by rw [hlq]; simp) ((1 + A.length) + 2) s.size (by simp; try omega) (by omega) hE j hj h1 hj
    have HV : Hid (val (s.data.toList.drop ((1 + A.length) + 2)) = V) := by
      show val _ = V
      rw [drop_is s (([45] ++ A) ++ [101, 43]) E (by rw [hlq]; simp) ((1 + A.length) + 2) (by simp; try omega)]
      exact hVe
    refine (parse_no_plus_true s (1 + A.length) V w hs h0 hsg (by omega) H1 (by omega) he hq1 hsn hsm H3 HV hV).mono ?_
    rintro e w' ⟨t, g, HG, he', hb⟩
    obtain ⟨g1, g2⟩ := HG.out
    refine ⟨t, g, ⟨?_, ?_⟩, he', hb⟩
    · rw [g1, e1]
    · rw [g2]; try omega
  | false =>
    have hl' : s.data.toList = [] ++ (A ++ (101 :: 43 :: E)) := hl
    simp only [Bool.false_eq_true, if_true, if_false] at hz
    have h0 : 0 < s.size := by omega
    have hsg : ((s[0].toNat : Int) == 45) = false := first_digit s A (101 :: 43 :: E) hl' h0 hA hA0
    have H1 := Lib.hid (dg_in s [] A _ hl' 0 (0 + A.length) rfl (by omega) hA)
    have e1 := piece_is s [] A _ hl' 0 (0 + A.length) rfl (by omega)
    have hlq : s.data.toList = ([] ++ A) ++ 101 :: 43 :: E := by rw [hl']; simp
    have hq : (0 + A.length) < s.size := by omega
    have hq1 : (0 + A.length) + 2 < s.size := by omega
    have hq2 : (0 + A.length) + 1 < s.size := by omega
    have he : ((s[(0 + A.length)].toNat : Int) == 101) = true := eq_int 101 101 _ (ch_at s ([] ++ A) 101 _ hlq (0 + A.length) (by simp; try omega) hq) rfl
    have hc := ch_at s (([] ++ A) ++ [101]) 43 E (by rw [hlq]; simp) ((0 + A.length) + 1) (by simp; try omega) hq2
    have hsn : ((s[(0 + A.length) + 1].toNat : Int) == 43) = true := by rw [hc]; decide
    have hsm : ((s[(0 + A.length) + 1].toNat : Int) == 45) = false := by rw [hc]; decide
    have H3 : Hid (∀ j (hj : j < s.size), (0 + A.length) + 2 ≤ j → 48 ≤ s[j].toNat ∧ s[j].toNat ≤ 57) := fun j hj h1 =>
      dg_in s (([] ++ A) ++ [101, 43]) E [] (by rw [hlq]; simp) ((0 + A.length) + 2) s.size (by simp; try omega) (by omega) hE j hj h1 hj
    have HV : Hid (val (s.data.toList.drop ((0 + A.length) + 2)) = V) := by
      show val _ = V
      rw [drop_is s (([] ++ A) ++ [101, 43]) E (by rw [hlq]; simp) ((0 + A.length) + 2) (by simp; try omega)]
      exact hVe
    refine (parse_no_plus_false s (0 + A.length) V w hs h0 hsg (by omega) H1 (by omega) he hq1 hsn hsm H3 HV hV).mono ?_
    rintro e w' ⟨t, g, HG, he', hb⟩
    obtain ⟨g1, g2⟩ := HG.out
    refine ⟨t, g, ⟨?_, ?_⟩, he', hb⟩
    · rw [g1, e1]
    · rw [g2]; try omega

theorem pr_no_minus (s : ByteArray) (neg : Bool) (A : List UInt8) (E : List UInt8) (V : Nat) (w : World) (hs : s.size ≤ 300000) (hl : s.data.toList = sgn neg ++ (A ++ (101 :: 45 :: E))) (hA : Dig A) (hA0 : 0 < A.length) (hE : Dig E) (hE0 : 0 < E.length) (hVe : val E = V) (hV : V ≤ 4611686018427487904) :
    Calls Tryd.prog 10 #[.string s] w fun e w' => ∃ (t : ByteArray) (g : Int), Hid (t.data.toList = A ∧ g = -(V : Int) - 0) ∧ e = .returned (.tuple #[.bool true, .bool neg, .string t, .int .i64 g]) ∧ Below w.heap.size w w' := by
  have hz := congrArg List.length hl
  rw [size_list] at hz
  simp only [List.length_append, List.length_cons, List.length_nil, sgn_len] at hz
  cases neg with
  | true =>
    have hl' : s.data.toList = [45] ++ (A ++ (101 :: 45 :: E)) := hl
    simp only [Bool.false_eq_true, if_true, if_false] at hz
    have h0 : 0 < s.size := by omega
    have hsg : ((s[0].toNat : Int) == 45) = true := eq_int 45 45 _ (ch_at s [] 45 _ hl' 0 rfl h0) rfl
    have H1 := Lib.hid (dg_in s [45] A _ hl' 1 (1 + A.length) rfl (by omega) hA)
    have e1 := piece_is s [45] A _ hl' 1 (1 + A.length) rfl (by omega)
    have hlq : s.data.toList = ([45] ++ A) ++ 101 :: 45 :: E := by rw [hl']; simp
    have hq : (1 + A.length) < s.size := by omega
    have hq1 : (1 + A.length) + 2 < s.size := by omega
    have hq2 : (1 + A.length) + 1 < s.size := by omega
    have he : ((s[(1 + A.length)].toNat : Int) == 101) = true := eq_int 101 101 _ (ch_at s ([45] ++ A) 101 _ hlq (1 + A.length) (by simp; try omega) hq) rfl
    have hc := ch_at s (([45] ++ A) ++ [101]) 45 E (by rw [hlq]; simp) ((1 + A.length) + 1) (by simp; try omega) hq2
    have hsn : ((s[(1 + A.length) + 1].toNat : Int) == 43) = false := by rw [hc]; decide
    have hsm : ((s[(1 + A.length) + 1].toNat : Int) == 45) = true := by rw [hc]; decide
    have H3 : Hid (∀ j (hj : j < s.size), (1 + A.length) + 2 ≤ j → 48 ≤ s[j].toNat ∧ s[j].toNat ≤ 57) := fun j hj h1 =>
      dg_in s (([45] ++ A) ++ [101, 45]) E [] (by rw [hlq]; simp) ((1 + A.length) + 2) s.size (by simp; try omega) (by omega) hE j hj h1 hj
    have HV : Hid (val (s.data.toList.drop ((1 + A.length) + 2)) = V) := by
      show val _ = V
      rw [drop_is s (([45] ++ A) ++ [101, 45]) E (by rw [hlq]; simp) ((1 + A.length) + 2) (by simp; try omega)]
      exact hVe
    refine (parse_no_minus_true s (1 + A.length) V w hs h0 hsg (by omega) H1 (by omega) he hq1 hsn hsm H3 HV hV).mono ?_
    rintro e w' ⟨t, g, HG, he', hb⟩
    obtain ⟨g1, g2⟩ := HG.out
    refine ⟨t, g, ⟨?_, ?_⟩, he', hb⟩
    · rw [g1, e1]
    · rw [g2]; try omega
  | false =>
    have hl' : s.data.toList = [] ++ (A ++ (101 :: 45 :: E)) := hl
    simp only [Bool.false_eq_true, if_true, if_false] at hz
    have h0 : 0 < s.size := by omega
    have hsg : ((s[0].toNat : Int) == 45) = false := first_digit s A (101 :: 45 :: E) hl' h0 hA hA0
    have H1 := Lib.hid (dg_in s [] A _ hl' 0 (0 + A.length) rfl (by omega) hA)
    have e1 := piece_is s [] A _ hl' 0 (0 + A.length) rfl (by omega)
    have hlq : s.data.toList = ([] ++ A) ++ 101 :: 45 :: E := by rw [hl']; simp
    have hq : (0 + A.length) < s.size := by omega
    have hq1 : (0 + A.length) + 2 < s.size := by omega
    have hq2 : (0 + A.length) + 1 < s.size := by omega
    have he : ((s[(0 + A.length)].toNat : Int) == 101) = true := eq_int 101 101 _ (ch_at s ([] ++ A) 101 _ hlq (0 + A.length) (by simp; try omega) hq) rfl
    have hc := ch_at s (([] ++ A) ++ [101]) 45 E (by rw [hlq]; simp) ((0 + A.length) + 1) (by simp; try omega) hq2
    have hsn : ((s[(0 + A.length) + 1].toNat : Int) == 43) = false := by rw [hc]; decide
    have hsm : ((s[(0 + A.length) + 1].toNat : Int) == 45) = true := by rw [hc]; decide
    have H3 : Hid (∀ j (hj : j < s.size), (0 + A.length) + 2 ≤ j → 48 ≤ s[j].toNat ∧ s[j].toNat ≤ 57) := fun j hj h1 =>
      dg_in s (([] ++ A) ++ [101, 45]) E [] (by rw [hlq]; simp) ((0 + A.length) + 2) s.size (by simp; try omega) (by omega) hE j hj h1 hj
    have HV : Hid (val (s.data.toList.drop ((0 + A.length) + 2)) = V) := by
      show val _ = V
      rw [drop_is s (([] ++ A) ++ [101, 45]) E (by rw [hlq]; simp) ((0 + A.length) + 2) (by simp; try omega)]
      exact hVe
    refine (parse_no_minus_false s (0 + A.length) V w hs h0 hsg (by omega) H1 (by omega) he hq1 hsn hsm H3 HV hV).mono ?_
    rintro e w' ⟨t, g, HG, he', hb⟩
    obtain ⟨g1, g2⟩ := HG.out
    refine ⟨t, g, ⟨?_, ?_⟩, he', hb⟩
    · rw [g1, e1]
    · rw [g2]; try omega

theorem pr_pt_none (s : ByteArray) (neg : Bool) (A : List UInt8) (Fr : List UInt8) (w : World) (hs : s.size ≤ 300000) (hl : s.data.toList = sgn neg ++ (A ++ (46 :: (Fr ++ [])))) (hA : Dig A) (hA0 : 0 < A.length) (hF : Dig Fr) (hF0 : 0 < Fr.length) :
    Calls Tryd.prog 10 #[.string s] w fun e w' => ∃ (t : ByteArray) (g : Int), Hid (t.data.toList = A ++ Fr ∧ g = 0 - (Fr.length : Int)) ∧ e = .returned (.tuple #[.bool true, .bool neg, .string t, .int .i64 g]) ∧ Below w.heap.size w w' := by
  have hz := congrArg List.length hl
  rw [size_list] at hz
  simp only [List.length_append, List.length_cons, List.length_nil, sgn_len] at hz
  cases neg with
  | true =>
    have hl' : s.data.toList = [45] ++ (A ++ (46 :: (Fr ++ []))) := hl
    simp only [Bool.false_eq_true, if_true, if_false] at hz
    have h0 : 0 < s.size := by omega
    have hsg : ((s[0].toNat : Int) == 45) = true := eq_int 45 45 _ (ch_at s [] 45 _ hl' 0 rfl h0) rfl
    have H1 := Lib.hid (dg_in s [45] A _ hl' 1 (1 + A.length) rfl (by omega) hA)
    have e1 := piece_is s [45] A _ hl' 1 (1 + A.length) rfl (by omega)
    have hp1 : (1 + A.length) < s.size := by omega
    have hdot : ((s[(1 + A.length)].toNat : Int) == 46) = true := eq_int 46 46 _ (ch_at s ([45] ++ A) 46 _ (by rw [hl', List.append_assoc]) (1 + A.length) (by simp; try omega) hp1) rfl
    have hl2 : s.data.toList = ([45] ++ A ++ [46]) ++ (Fr ++ []) := by rw [hl']; simp
    have H2 := Lib.hid (dg_in s ([45] ++ A ++ [46]) Fr _ hl2 ((1 + A.length) + 1) s.size (by simp; try omega) (by omega) hF)
    have e2 := piece_is s ([45] ++ A ++ [46]) Fr _ hl2 ((1 + A.length) + 1) s.size (by simp; try omega) (by omega)
    refine (parse_pt_none_true s (1 + A.length) w hs h0 hsg (by omega) H1 (by omega) hdot (by omega) H2).mono ?_
    rintro e w' ⟨t, g, HG, he', hb⟩
    obtain ⟨g1, g2⟩ := HG.out
    refine ⟨t, g, ⟨?_, ?_⟩, he', hb⟩
    · rw [g1, e1, e2]
    · rw [g2]; try omega
  | false =>
    have hl' : s.data.toList = [] ++ (A ++ (46 :: (Fr ++ []))) := hl
    simp only [Bool.false_eq_true, if_true, if_false] at hz
    have h0 : 0 < s.size := by omega
    have hsg : ((s[0].toNat : Int) == 45) = false := first_digit s A (46 :: (Fr ++ [])) hl' h0 hA hA0
    have H1 := Lib.hid (dg_in s [] A _ hl' 0 (0 + A.length) rfl (by omega) hA)
    have e1 := piece_is s [] A _ hl' 0 (0 + A.length) rfl (by omega)
    have hp1 : (0 + A.length) < s.size := by omega
    have hdot : ((s[(0 + A.length)].toNat : Int) == 46) = true := eq_int 46 46 _ (ch_at s ([] ++ A) 46 _ (by rw [hl', List.append_assoc]) (0 + A.length) (by simp; try omega) hp1) rfl
    have hl2 : s.data.toList = ([] ++ A ++ [46]) ++ (Fr ++ []) := by rw [hl']; simp
    have H2 := Lib.hid (dg_in s ([] ++ A ++ [46]) Fr _ hl2 ((0 + A.length) + 1) s.size (by simp; try omega) (by omega) hF)
    have e2 := piece_is s ([] ++ A ++ [46]) Fr _ hl2 ((0 + A.length) + 1) s.size (by simp; try omega) (by omega)
    refine (parse_pt_none_false s (0 + A.length) w hs h0 hsg (by omega) H1 (by omega) hdot (by omega) H2).mono ?_
    rintro e w' ⟨t, g, HG, he', hb⟩
    obtain ⟨g1, g2⟩ := HG.out
    refine ⟨t, g, ⟨?_, ?_⟩, he', hb⟩
    · rw [g1, e1, e2]
    · rw [g2]; try omega

theorem pr_pt_plus (s : ByteArray) (neg : Bool) (A : List UInt8) (Fr : List UInt8) (E : List UInt8) (V : Nat) (w : World) (hs : s.size ≤ 300000) (hl : s.data.toList = sgn neg ++ (A ++ (46 :: (Fr ++ (101 :: 43 :: E))))) (hA : Dig A) (hA0 : 0 < A.length) (hF : Dig Fr) (hF0 : 0 < Fr.length) (hE : Dig E) (hE0 : 0 < E.length) (hVe : val E = V) (hV : V ≤ 4611686018427487904) :
    Calls Tryd.prog 10 #[.string s] w fun e w' => ∃ (t : ByteArray) (g : Int), Hid (t.data.toList = A ++ Fr ∧ g = (V : Int) - (Fr.length : Int)) ∧ e = .returned (.tuple #[.bool true, .bool neg, .string t, .int .i64 g]) ∧ Below w.heap.size w w' := by
  have hz := congrArg List.length hl
  rw [size_list] at hz
  simp only [List.length_append, List.length_cons, List.length_nil, sgn_len] at hz
  cases neg with
  | true =>
    have hl' : s.data.toList = [45] ++ (A ++ (46 :: (Fr ++ (101 :: 43 :: E)))) := hl
    simp only [Bool.false_eq_true, if_true, if_false] at hz
    have h0 : 0 < s.size := by omega
    have hsg : ((s[0].toNat : Int) == 45) = true := eq_int 45 45 _ (ch_at s [] 45 _ hl' 0 rfl h0) rfl
    have H1 := Lib.hid (dg_in s [45] A _ hl' 1 (1 + A.length) rfl (by omega) hA)
    have e1 := piece_is s [45] A _ hl' 1 (1 + A.length) rfl (by omega)
    have hp1 : (1 + A.length) < s.size := by omega
    have hdot : ((s[(1 + A.length)].toNat : Int) == 46) = true := eq_int 46 46 _ (ch_at s ([45] ++ A) 46 _ (by rw [hl', List.append_assoc]) (1 + A.length) (by simp; try omega) hp1) rfl
    have hl2 : s.data.toList = ([45] ++ A ++ [46]) ++ (Fr ++ (101 :: 43 :: E)) := by rw [hl']; simp
    have H2 := Lib.hid (dg_in s ([45] ++ A ++ [46]) Fr _ hl2 ((1 + A.length) + 1) (1 + A.length + 1 + Fr.length) (by simp; try omega) (by omega) hF)
    have e2 := piece_is s ([45] ++ A ++ [46]) Fr _ hl2 ((1 + A.length) + 1) (1 + A.length + 1 + Fr.length) (by simp; try omega) (by omega)
    have hlq : s.data.toList = ([45] ++ A ++ [46] ++ Fr) ++ 101 :: 43 :: E := by rw [hl']; simp
    have hq : (1 + A.length + 1 + Fr.length) < s.size := by omega
    have hq1 : (1 + A.length + 1 + Fr.length) + 2 < s.size := by omega
    have hq2 : (1 + A.length + 1 + Fr.length) + 1 < s.size := by omega
    have he : ((s[(1 + A.length + 1 + Fr.length)].toNat : Int) == 101) = true := eq_int 101 101 _ (ch_at s ([45] ++ A ++ [46] ++ Fr) 101 _ hlq (1 + A.length + 1 + Fr.length) (by simp; try omega) hq) rfl
    have hc := ch_at s (([45] ++ A ++ [46] ++ Fr) ++ [101]) 43 E (by rw [hlq]; simp) ((1 + A.length + 1 + Fr.length) + 1) (by simp; try omega) hq2
    have hsn : ((s[(1 + A.length + 1 + Fr.length) + 1].toNat : Int) == 43) = true := by rw [hc]; decide
    have hsm : ((s[(1 + A.length + 1 + Fr.length) + 1].toNat : Int) == 45) = false := by rw [hc]; decide
    have H3 : Hid (∀ j (hj : j < s.size), (1 + A.length + 1 + Fr.length) + 2 ≤ j → 48 ≤ s[j].toNat ∧ s[j].toNat ≤ 57) := fun j hj h1 =>
      dg_in s (([45] ++ A ++ [46] ++ Fr) ++ [101, 43]) E [] (by rw [hlq]; simp) ((1 + A.length + 1 + Fr.length) + 2) s.size (by simp; try omega) (by omega) hE j hj h1 hj
    have HV : Hid (val (s.data.toList.drop ((1 + A.length + 1 + Fr.length) + 2)) = V) := by
      show val _ = V
      rw [drop_is s (([45] ++ A ++ [46] ++ Fr) ++ [101, 43]) E (by rw [hlq]; simp) ((1 + A.length + 1 + Fr.length) + 2) (by simp; try omega)]
      exact hVe
    refine (parse_pt_plus_true s (1 + A.length) (1 + A.length + 1 + Fr.length) V w hs h0 hsg (by omega) H1 (by omega) hdot (by omega) H2 (by omega) he hq1 hsn hsm H3 HV hV).mono ?_
    rintro e w' ⟨t, g, HG, he', hb⟩
    obtain ⟨g1, g2⟩ := HG.out
    refine ⟨t, g, ⟨?_, ?_⟩, he', hb⟩
    · rw [g1, e1, e2]
    · rw [g2]; try omega
  | false =>
    have hl' : s.data.toList = [] ++ (A ++ (46 :: (Fr ++ (101 :: 43 :: E)))) := hl
    simp only [Bool.false_eq_true, if_true, if_false] at hz
    have h0 : 0 < s.size := by omega
    have hsg : ((s[0].toNat : Int) == 45) = false := first_digit s A (46 :: (Fr ++ (101 :: 43 :: E))) hl' h0 hA hA0
    have H1 := Lib.hid (dg_in s [] A _ hl' 0 (0 + A.length) rfl (by omega) hA)
    have e1 := piece_is s [] A _ hl' 0 (0 + A.length) rfl (by omega)
    have hp1 : (0 + A.length) < s.size := by omega
    have hdot : ((s[(0 + A.length)].toNat : Int) == 46) = true := eq_int 46 46 _ (ch_at s ([] ++ A) 46 _ (by rw [hl', List.append_assoc]) (0 + A.length) (by simp; try omega) hp1) rfl
    have hl2 : s.data.toList = ([] ++ A ++ [46]) ++ (Fr ++ (101 :: 43 :: E)) := by rw [hl']; simp
    have H2 := Lib.hid (dg_in s ([] ++ A ++ [46]) Fr _ hl2 ((0 + A.length) + 1) (0 + A.length + 1 + Fr.length) (by simp; try omega) (by omega) hF)
    have e2 := piece_is s ([] ++ A ++ [46]) Fr _ hl2 ((0 + A.length) + 1) (0 + A.length + 1 + Fr.length) (by simp; try omega) (by omega)
    have hlq : s.data.toList = ([] ++ A ++ [46] ++ Fr) ++ 101 :: 43 :: E := by rw [hl']; simp
    have hq : (0 + A.length + 1 + Fr.length) < s.size := by omega
    have hq1 : (0 + A.length + 1 + Fr.length) + 2 < s.size := by omega
    have hq2 : (0 + A.length + 1 + Fr.length) + 1 < s.size := by omega
    have he : ((s[(0 + A.length + 1 + Fr.length)].toNat : Int) == 101) = true := eq_int 101 101 _ (ch_at s ([] ++ A ++ [46] ++ Fr) 101 _ hlq (0 + A.length + 1 + Fr.length) (by simp; try omega) hq) rfl
    have hc := ch_at s (([] ++ A ++ [46] ++ Fr) ++ [101]) 43 E (by rw [hlq]; simp) ((0 + A.length + 1 + Fr.length) + 1) (by simp; try omega) hq2
    have hsn : ((s[(0 + A.length + 1 + Fr.length) + 1].toNat : Int) == 43) = true := by rw [hc]; decide
    have hsm : ((s[(0 + A.length + 1 + Fr.length) + 1].toNat : Int) == 45) = false := by rw [hc]; decide
    have H3 : Hid (∀ j (hj : j < s.size), (0 + A.length + 1 + Fr.length) + 2 ≤ j → 48 ≤ s[j].toNat ∧ s[j].toNat ≤ 57) := fun j hj h1 =>
      dg_in s (([] ++ A ++ [46] ++ Fr) ++ [101, 43]) E [] (by rw [hlq]; simp) ((0 + A.length + 1 + Fr.length) + 2) s.size (by simp; try omega) (by omega) hE j hj h1 hj
    have HV : Hid (val (s.data.toList.drop ((0 + A.length + 1 + Fr.length) + 2)) = V) := by
      show val _ = V
      rw [drop_is s (([] ++ A ++ [46] ++ Fr) ++ [101, 43]) E (by rw [hlq]; simp) ((0 + A.length + 1 + Fr.length) + 2) (by simp; try omega)]
      exact hVe
    refine (parse_pt_plus_false s (0 + A.length) (0 + A.length + 1 + Fr.length) V w hs h0 hsg (by omega) H1 (by omega) hdot (by omega) H2 (by omega) he hq1 hsn hsm H3 HV hV).mono ?_
    rintro e w' ⟨t, g, HG, he', hb⟩
    obtain ⟨g1, g2⟩ := HG.out
    refine ⟨t, g, ⟨?_, ?_⟩, he', hb⟩
    · rw [g1, e1, e2]
    · rw [g2]; try omega

theorem pr_pt_minus (s : ByteArray) (neg : Bool) (A : List UInt8) (Fr : List UInt8) (E : List UInt8) (V : Nat) (w : World) (hs : s.size ≤ 300000) (hl : s.data.toList = sgn neg ++ (A ++ (46 :: (Fr ++ (101 :: 45 :: E))))) (hA : Dig A) (hA0 : 0 < A.length) (hF : Dig Fr) (hF0 : 0 < Fr.length) (hE : Dig E) (hE0 : 0 < E.length) (hVe : val E = V) (hV : V ≤ 4611686018427487904) :
    Calls Tryd.prog 10 #[.string s] w fun e w' => ∃ (t : ByteArray) (g : Int), Hid (t.data.toList = A ++ Fr ∧ g = -(V : Int) - (Fr.length : Int)) ∧ e = .returned (.tuple #[.bool true, .bool neg, .string t, .int .i64 g]) ∧ Below w.heap.size w w' := by
  have hz := congrArg List.length hl
  rw [size_list] at hz
  simp only [List.length_append, List.length_cons, List.length_nil, sgn_len] at hz
  cases neg with
  | true =>
    have hl' : s.data.toList = [45] ++ (A ++ (46 :: (Fr ++ (101 :: 45 :: E)))) := hl
    simp only [Bool.false_eq_true, if_true, if_false] at hz
    have h0 : 0 < s.size := by omega
    have hsg : ((s[0].toNat : Int) == 45) = true := eq_int 45 45 _ (ch_at s [] 45 _ hl' 0 rfl h0) rfl
    have H1 := Lib.hid (dg_in s [45] A _ hl' 1 (1 + A.length) rfl (by omega) hA)
    have e1 := piece_is s [45] A _ hl' 1 (1 + A.length) rfl (by omega)
    have hp1 : (1 + A.length) < s.size := by omega
    have hdot : ((s[(1 + A.length)].toNat : Int) == 46) = true := eq_int 46 46 _ (ch_at s ([45] ++ A) 46 _ (by rw [hl', List.append_assoc]) (1 + A.length) (by simp; try omega) hp1) rfl
    have hl2 : s.data.toList = ([45] ++ A ++ [46]) ++ (Fr ++ (101 :: 45 :: E)) := by rw [hl']; simp
    have H2 := Lib.hid (dg_in s ([45] ++ A ++ [46]) Fr _ hl2 ((1 + A.length) + 1) (1 + A.length + 1 + Fr.length) (by simp; try omega) (by omega) hF)
    have e2 := piece_is s ([45] ++ A ++ [46]) Fr _ hl2 ((1 + A.length) + 1) (1 + A.length + 1 + Fr.length) (by simp; try omega) (by omega)
    have hlq : s.data.toList = ([45] ++ A ++ [46] ++ Fr) ++ 101 :: 45 :: E := by rw [hl']; simp
    have hq : (1 + A.length + 1 + Fr.length) < s.size := by omega
    have hq1 : (1 + A.length + 1 + Fr.length) + 2 < s.size := by omega
    have hq2 : (1 + A.length + 1 + Fr.length) + 1 < s.size := by omega
    have he : ((s[(1 + A.length + 1 + Fr.length)].toNat : Int) == 101) = true := eq_int 101 101 _ (ch_at s ([45] ++ A ++ [46] ++ Fr) 101 _ hlq (1 + A.length + 1 + Fr.length) (by simp; try omega) hq) rfl
    have hc := ch_at s (([45] ++ A ++ [46] ++ Fr) ++ [101]) 45 E (by rw [hlq]; simp) ((1 + A.length + 1 + Fr.length) + 1) (by simp; try omega) hq2
    have hsn : ((s[(1 + A.length + 1 + Fr.length) + 1].toNat : Int) == 43) = false := by rw [hc]; decide
    have hsm : ((s[(1 + A.length + 1 + Fr.length) + 1].toNat : Int) == 45) = true := by rw [hc]; decide
    have H3 : Hid (∀ j (hj : j < s.size), (1 + A.length + 1 + Fr.length) + 2 ≤ j → 48 ≤ s[j].toNat ∧ s[j].toNat ≤ 57) := fun j hj h1 =>
      dg_in s (([45] ++ A ++ [46] ++ Fr) ++ [101, 45]) E [] (by rw [hlq]; simp) ((1 + A.length + 1 + Fr.length) + 2) s.size (by simp; try omega) (by omega) hE j hj h1 hj
    have HV : Hid (val (s.data.toList.drop ((1 + A.length + 1 + Fr.length) + 2)) = V) := by
      show val _ = V
      rw [drop_is s (([45] ++ A ++ [46] ++ Fr) ++ [101, 45]) E (by rw [hlq]; simp) ((1 + A.length + 1 + Fr.length) + 2) (by simp; try omega)]
      exact hVe
    refine (parse_pt_minus_true s (1 + A.length) (1 + A.length + 1 + Fr.length) V w hs h0 hsg (by omega) H1 (by omega) hdot (by omega) H2 (by omega) he hq1 hsn hsm H3 HV hV).mono ?_
    rintro e w' ⟨t, g, HG, he', hb⟩
    obtain ⟨g1, g2⟩ := HG.out
    refine ⟨t, g, ⟨?_, ?_⟩, he', hb⟩
    · rw [g1, e1, e2]
    · rw [g2]; try omega
  | false =>
    have hl' : s.data.toList = [] ++ (A ++ (46 :: (Fr ++ (101 :: 45 :: E)))) := hl
    simp only [Bool.false_eq_true, if_true, if_false] at hz
    have h0 : 0 < s.size := by omega
    have hsg : ((s[0].toNat : Int) == 45) = false := first_digit s A (46 :: (Fr ++ (101 :: 45 :: E))) hl' h0 hA hA0
    have H1 := Lib.hid (dg_in s [] A _ hl' 0 (0 + A.length) rfl (by omega) hA)
    have e1 := piece_is s [] A _ hl' 0 (0 + A.length) rfl (by omega)
    have hp1 : (0 + A.length) < s.size := by omega
    have hdot : ((s[(0 + A.length)].toNat : Int) == 46) = true := eq_int 46 46 _ (ch_at s ([] ++ A) 46 _ (by rw [hl', List.append_assoc]) (0 + A.length) (by simp; try omega) hp1) rfl
    have hl2 : s.data.toList = ([] ++ A ++ [46]) ++ (Fr ++ (101 :: 45 :: E)) := by rw [hl']; simp
    have H2 := Lib.hid (dg_in s ([] ++ A ++ [46]) Fr _ hl2 ((0 + A.length) + 1) (0 + A.length + 1 + Fr.length) (by simp; try omega) (by omega) hF)
    have e2 := piece_is s ([] ++ A ++ [46]) Fr _ hl2 ((0 + A.length) + 1) (0 + A.length + 1 + Fr.length) (by simp; try omega) (by omega)
    have hlq : s.data.toList = ([] ++ A ++ [46] ++ Fr) ++ 101 :: 45 :: E := by rw [hl']; simp
    have hq : (0 + A.length + 1 + Fr.length) < s.size := by omega
    have hq1 : (0 + A.length + 1 + Fr.length) + 2 < s.size := by omega
    have hq2 : (0 + A.length + 1 + Fr.length) + 1 < s.size := by omega
    have he : ((s[(0 + A.length + 1 + Fr.length)].toNat : Int) == 101) = true := eq_int 101 101 _ (ch_at s ([] ++ A ++ [46] ++ Fr) 101 _ hlq (0 + A.length + 1 + Fr.length) (by simp; try omega) hq) rfl
    have hc := ch_at s (([] ++ A ++ [46] ++ Fr) ++ [101]) 45 E (by rw [hlq]; simp) ((0 + A.length + 1 + Fr.length) + 1) (by simp; try omega) hq2
    have hsn : ((s[(0 + A.length + 1 + Fr.length) + 1].toNat : Int) == 43) = false := by rw [hc]; decide
    have hsm : ((s[(0 + A.length + 1 + Fr.length) + 1].toNat : Int) == 45) = true := by rw [hc]; decide
    have H3 : Hid (∀ j (hj : j < s.size), (0 + A.length + 1 + Fr.length) + 2 ≤ j → 48 ≤ s[j].toNat ∧ s[j].toNat ≤ 57) := fun j hj h1 =>
      dg_in s (([] ++ A ++ [46] ++ Fr) ++ [101, 45]) E [] (by rw [hlq]; simp) ((0 + A.length + 1 + Fr.length) + 2) s.size (by simp; try omega) (by omega) hE j hj h1 hj
    have HV : Hid (val (s.data.toList.drop ((0 + A.length + 1 + Fr.length) + 2)) = V) := by
      show val _ = V
      rw [drop_is s (([] ++ A ++ [46] ++ Fr) ++ [101, 45]) E (by rw [hlq]; simp) ((0 + A.length + 1 + Fr.length) + 2) (by simp; try omega)]
      exact hVe
    refine (parse_pt_minus_false s (0 + A.length) (0 + A.length + 1 + Fr.length) V w hs h0 hsg (by omega) H1 (by omega) hdot (by omega) H2 (by omega) he hq1 hsn hsm H3 HV hV).mono ?_
    rintro e w' ⟨t, g, HG, he', hb⟩
    obtain ⟨g1, g2⟩ := HG.out
    refine ⟨t, g, ⟨?_, ?_⟩, he', hb⟩
    · rw [g1, e1, e2]
    · rw [g2]; try omega
end Go.Proofs.Qxb6603079aDoor
