/-
  zzPositional where the rounds would be more than 100000, walked: one theorem a way (written by a small program of ours).
-/
import Derived.Test.Qxb6603079aDoorPosWalk
namespace Go.Proofs.Qxb6603079aDoor
open Go.RowKit Plain
set_option linter.unusedVariables false      -- a way need not use every bound by its name

theorem take_more (dg : ByteArray) (j : Nat) (h : j + 1 < dg.size) : (dg.data.toList.drop 1).take (j + 1) = (dg.data.toList.drop 1).take j ++ [dg[j + 1]] := by
  have hl : j < (dg.data.toList.drop 1).length := by rw [List.length_drop, size_list]; omega
  rw [List.take_succ_eq_append_getElem hl]
  simp
  rfl

set_option maxHeartbeats 3200000 in
theorem sci_up_many_true (dg : ByteArray) (exp : Int) (w : World) (h1 : 1 ≤ dg.size) (h2 : dg.size ≤ 100000) (hx1 : exp ≤ 4611686018427387904) (hx2 : -4611686018427387904 ≤ exp) (hlead : ¬ (dg.size : Int) + exp - 1 < 0) (hexp : 0 < exp) (hcnt : 100000 < (dg.size : Int) + exp) (hn : 1 < dg.size) (h0 : 0 < dg.size) :
    Calls Tryd.prog 8 #[.bool true, .string dg, .int .i64 exp] w fun e w' => ∃ s : ByteArray, Hid (s.data.toList = sgn true ++ [(dg[0] : UInt8)] ++ [(46 : UInt8)] ++ dg.data.toList.drop 1 ++ [(101 : UInt8)] ++ [(43 : UInt8)] ++ Lib.itoa ((dg.size : Int) + exp - 1)) ∧ e = .returned (.string s) ∧ Below w.heap.size w w' := by
  have HOn : Hid (Out w.heap.size (.slice .none 0 0) [] w) := Out.nil w.heap.size w (Nat.le_refl _)
  go_enter Tryd.func8, Tryd.ntmps8
  go_wp2_with (at_builtin; refine push1 rfl _ _ rfl HOn.out 45 45 e45 5 rfl rfl (by simp) ?_)
  intro v1 w1 hO1 hb1
  have HO1 : Hid (Out w.heap.size v1 (([] : List UInt8) ++ [(45 : UInt8)]) w1) := by show Out _ _ _ _; simpa using hO1
  clear hO1
  go_wp2_with (at_builtin; refine push1 rfl _ _ rfl HO1.out dg[0] (dg[0].toNat : Int) rfl 5 rfl rfl (by simp) ?_)
  intro v2 w2 hO2 hb2
  have HO2 : Hid (Out w.heap.size v2 (([] : List UInt8) ++ [(45 : UInt8)] ++ [(dg[0] : UInt8)]) w2) := by show Out _ _ _ _; simpa using hO2
  clear hO2
  go_wp2_with (at_builtin; refine push1 rfl _ _ rfl HO2.out 46 46 e46 5 rfl rfl (by simp) ?_)
  intro v3 w3 hO3 hb3
  have HO3 : Hid (Out w.heap.size v3 (([] : List UInt8) ++ [(45 : UInt8)] ++ [(dg[0] : UInt8)] ++ [(46 : UInt8)]) w3) := by show Out _ _ _ _; simpa using hO3
  clear hO3
  go_wp2
  try simp only [Int.sub_zero, Int.sub_add_cancel, Int.zero_sub]
  go_loopw [12, 15] (fun o p wr => ∃ (j : Nat), j + 1 ≤ dg.size ∧ p = .int .i64 (j + 1 : Nat) ∧ Out w.heap.size o (([] : List UInt8) ++ [(45 : UInt8)] ++ [(dg[0] : UInt8)] ++ [(46 : UInt8)] ++ (dg.data.toList.drop 1).take j) wr ∧ Below w.heap.size w wr) (fun _ p _ => dg.size - (intOf p).toNat)
  case atStart => exact ⟨0, by omega, rfl, by simpa using HO3.out, ((hb1.trans hb2).trans hb3)⟩
  case round =>
    obtain ⟨j, hj, rfl, hO, hb⟩ := hrel
    have HO : Hid (Out w.heap.size u12 (([] : List UInt8) ++ [(45 : UInt8)] ++ [(dg[0] : UInt8)] ++ [(46 : UInt8)] ++ (dg.data.toList.drop 1).take j) wr) := hO
    have hjl : ((dg.data.toList.drop 1).take j).length ≤ 100000 := by rw [List.length_take]; omega
    clear hO
    by_cases hlt : j + 1 < dg.size
    · have HT := Lib.hid (take_more dg j hlt)
      go_wp2_with (at_builtin; refine push1 rfl _ _ rfl HO.out dg[j + 1] (dg[j + 1].toNat : Int) rfl 5 rfl rfl (by rw [List.length_append]; simp only [List.length_append, List.length_cons, List.length_nil]; omega) ?_)
      intro v2 w2 hO2 hb2
      go_wp2
      go_roundw
      case rel =>
        refine ⟨j + 1, by omega, by go_num, ?_, hb.trans hb2⟩
        rw [HT.out, ← List.append_assoc]
        simpa using hO2
      case measure => simp [intOf]; omega
    · have hD : (dg.data.toList.drop 1).take j = dg.data.toList.drop 1 := List.take_of_length_le (by rw [List.length_drop, size_list]; omega)
      rw [hD] at HO hjl
      clear hD
      go_wp2_with (at_builtin; refine push1 rfl _ _ rfl HO.out 101 101 e101 5 rfl rfl (by simp only [List.length_append, List.length_cons, List.length_nil]; omega) ?_)
      intro v11 w11 hO11 hb11
      have HO11 : Hid (Out w.heap.size v11 (([] : List UInt8) ++ [(45 : UInt8)] ++ [(dg[0] : UInt8)] ++ [(46 : UInt8)] ++ dg.data.toList.drop 1 ++ [(101 : UInt8)]) w11) := by show Out _ _ _ _; simpa using hO11
      clear hO11
      go_wp2_with (at_builtin; refine push1 rfl _ _ rfl HO11.out 43 43 e43 5 rfl rfl (by simp only [List.length_append, List.length_cons, List.length_nil]; omega) ?_)
      intro v12 w12 hO12 hb12
      have HO12 : Hid (Out w.heap.size v12 (([] : List UInt8) ++ [(45 : UInt8)] ++ [(dg[0] : UInt8)] ++ [(46 : UInt8)] ++ dg.data.toList.drop 1 ++ [(101 : UInt8)] ++ [(43 : UInt8)]) w12) := by show Out _ _ _ _; simpa using hO12
      clear hO12
      go_wp2_with fail
      refine (int_any w.heap.size _ _ ((dg.size : Int) + exp - 1) _ (by omega) (by omega) HO12.out (by simp only [List.length_append, List.length_cons, List.length_nil]; omega)).mono ?_
      rintro e wz ⟨vz, rfl, hOz, hbz⟩
      obtain ⟨s, hs⟩ : ∃ s : ByteArray, s = ⟨(([] : List UInt8) ++ [(45 : UInt8)] ++ [(dg[0] : UInt8)] ++ [(46 : UInt8)] ++ dg.data.toList.drop 1 ++ [(101 : UInt8)] ++ [(43 : UInt8)] ++ Lib.itoa ((dg.size : Int) + exp - 1)).toArray⟩ := ⟨_, rfl⟩
      have hcv := hOz.text (by intro e; have := congrArg List.length e; simp at this)
      rw [← hs] at hcv
      have HS : Hid (s.data.toList = sgn true ++ [(dg[0] : UInt8)] ++ [(46 : UInt8)] ++ dg.data.toList.drop 1 ++ [(101 : UInt8)] ++ [(43 : UInt8)] ++ Lib.itoa ((dg.size : Int) + exp - 1)) := by
        show s.data.toList = _
        rw [hs]
        simp [sgn]
      clear hs
      go_wp2
      go_ret
      exact ⟨s, HS, rfl, ((hb.trans hb11).trans hb12).trans hbz⟩

set_option maxHeartbeats 3200000 in
theorem sci_low_many_true (dg : ByteArray) (exp : Int) (w : World) (h1 : 1 ≤ dg.size) (h2 : dg.size ≤ 100000) (hx1 : exp ≤ 4611686018427387904) (hx2 : -4611686018427387904 ≤ exp) (hlead : (dg.size : Int) + exp - 1 < 0) (hexp : ¬ 0 < exp) (hcnt : 100000 < -exp + 1) (hn : 1 < dg.size) (h0 : 0 < dg.size) :
    Calls Tryd.prog 8 #[.bool true, .string dg, .int .i64 exp] w fun e w' => ∃ s : ByteArray, Hid (s.data.toList = sgn true ++ [(dg[0] : UInt8)] ++ [(46 : UInt8)] ++ dg.data.toList.drop 1 ++ [(101 : UInt8)] ++ Lib.itoa ((dg.size : Int) + exp - 1)) ∧ e = .returned (.string s) ∧ Below w.heap.size w w' := by
  have HOn : Hid (Out w.heap.size (.slice .none 0 0) [] w) := Out.nil w.heap.size w (Nat.le_refl _)
  go_enter Tryd.func8, Tryd.ntmps8
  go_wp2_with (at_builtin; refine push1 rfl _ _ rfl HOn.out 45 45 e45 5 rfl rfl (by simp) ?_)
  intro v1 w1 hO1 hb1
  have HO1 : Hid (Out w.heap.size v1 (([] : List UInt8) ++ [(45 : UInt8)]) w1) := by show Out _ _ _ _; simpa using hO1
  clear hO1
  go_wp2_with (at_builtin; refine push1 rfl _ _ rfl HO1.out dg[0] (dg[0].toNat : Int) rfl 5 rfl rfl (by simp) ?_)
  intro v2 w2 hO2 hb2
  have HO2 : Hid (Out w.heap.size v2 (([] : List UInt8) ++ [(45 : UInt8)] ++ [(dg[0] : UInt8)]) w2) := by show Out _ _ _ _; simpa using hO2
  clear hO2
  go_wp2_with (at_builtin; refine push1 rfl _ _ rfl HO2.out 46 46 e46 5 rfl rfl (by simp) ?_)
  intro v3 w3 hO3 hb3
  have HO3 : Hid (Out w.heap.size v3 (([] : List UInt8) ++ [(45 : UInt8)] ++ [(dg[0] : UInt8)] ++ [(46 : UInt8)]) w3) := by show Out _ _ _ _; simpa using hO3
  clear hO3
  go_wp2
  try simp only [Int.sub_zero, Int.sub_add_cancel, Int.zero_sub]
  go_loopw [12, 15] (fun o p wr => ∃ (j : Nat), j + 1 ≤ dg.size ∧ p = .int .i64 (j + 1 : Nat) ∧ Out w.heap.size o (([] : List UInt8) ++ [(45 : UInt8)] ++ [(dg[0] : UInt8)] ++ [(46 : UInt8)] ++ (dg.data.toList.drop 1).take j) wr ∧ Below w.heap.size w wr) (fun _ p _ => dg.size - (intOf p).toNat)
  case atStart => exact ⟨0, by omega, rfl, by simpa using HO3.out, ((hb1.trans hb2).trans hb3)⟩
  case round =>
    obtain ⟨j, hj, rfl, hO, hb⟩ := hrel
    have HO : Hid (Out w.heap.size u12 (([] : List UInt8) ++ [(45 : UInt8)] ++ [(dg[0] : UInt8)] ++ [(46 : UInt8)] ++ (dg.data.toList.drop 1).take j) wr) := hO
    have hjl : ((dg.data.toList.drop 1).take j).length ≤ 100000 := by rw [List.length_take]; omega
    clear hO
    by_cases hlt : j + 1 < dg.size
    · have HT := Lib.hid (take_more dg j hlt)
      go_wp2_with (at_builtin; refine push1 rfl _ _ rfl HO.out dg[j + 1] (dg[j + 1].toNat : Int) rfl 5 rfl rfl (by rw [List.length_append]; simp only [List.length_append, List.length_cons, List.length_nil]; omega) ?_)
      intro v2 w2 hO2 hb2
      go_wp2
      go_roundw
      case rel =>
        refine ⟨j + 1, by omega, by go_num, ?_, hb.trans hb2⟩
        rw [HT.out, ← List.append_assoc]
        simpa using hO2
      case measure => simp [intOf]; omega
    · have hD : (dg.data.toList.drop 1).take j = dg.data.toList.drop 1 := List.take_of_length_le (by rw [List.length_drop, size_list]; omega)
      rw [hD] at HO hjl
      clear hD
      go_wp2_with (at_builtin; refine push1 rfl _ _ rfl HO.out 101 101 e101 5 rfl rfl (by simp only [List.length_append, List.length_cons, List.length_nil]; omega) ?_)
      intro v11 w11 hO11 hb11
      have HO11 : Hid (Out w.heap.size v11 (([] : List UInt8) ++ [(45 : UInt8)] ++ [(dg[0] : UInt8)] ++ [(46 : UInt8)] ++ dg.data.toList.drop 1 ++ [(101 : UInt8)]) w11) := by show Out _ _ _ _; simpa using hO11
      clear hO11
      go_wp2_with fail
      refine (int_any w.heap.size _ _ ((dg.size : Int) + exp - 1) _ (by omega) (by omega) HO11.out (by simp only [List.length_append, List.length_cons, List.length_nil]; omega)).mono ?_
      rintro e wz ⟨vz, rfl, hOz, hbz⟩
      obtain ⟨s, hs⟩ : ∃ s : ByteArray, s = ⟨(([] : List UInt8) ++ [(45 : UInt8)] ++ [(dg[0] : UInt8)] ++ [(46 : UInt8)] ++ dg.data.toList.drop 1 ++ [(101 : UInt8)] ++ Lib.itoa ((dg.size : Int) + exp - 1)).toArray⟩ := ⟨_, rfl⟩
      have hcv := hOz.text (by intro e; have := congrArg List.length e; simp at this)
      rw [← hs] at hcv
      have HS : Hid (s.data.toList = sgn true ++ [(dg[0] : UInt8)] ++ [(46 : UInt8)] ++ dg.data.toList.drop 1 ++ [(101 : UInt8)] ++ Lib.itoa ((dg.size : Int) + exp - 1)) := by
        show s.data.toList = _
        rw [hs]
        simp [sgn]
      clear hs
      go_wp2
      go_ret
      exact ⟨s, HS, rfl, (hb.trans hb11).trans hbz⟩

set_option maxHeartbeats 3200000 in
theorem sci_up_one_true (dg : ByteArray) (exp : Int) (w : World) (h1 : 1 ≤ dg.size) (h2 : dg.size ≤ 100000) (hx1 : exp ≤ 4611686018427387904) (hx2 : -4611686018427387904 ≤ exp) (hlead : ¬ (dg.size : Int) + exp - 1 < 0) (hexp : 0 < exp) (hcnt : 100000 < (dg.size : Int) + exp) (hn : ¬ 1 < dg.size) (h0 : 0 < dg.size) :
    Calls Tryd.prog 8 #[.bool true, .string dg, .int .i64 exp] w fun e w' => ∃ s : ByteArray, Hid (s.data.toList = sgn true ++ [(dg[0] : UInt8)] ++ [(101 : UInt8)] ++ [(43 : UInt8)] ++ Lib.itoa ((dg.size : Int) + exp - 1)) ∧ e = .returned (.string s) ∧ Below w.heap.size w w' := by
  have HOn : Hid (Out w.heap.size (.slice .none 0 0) [] w) := Out.nil w.heap.size w (Nat.le_refl _)
  go_enter Tryd.func8, Tryd.ntmps8
  go_wp2_with (at_builtin; refine push1 rfl _ _ rfl HOn.out 45 45 e45 5 rfl rfl (by simp) ?_)
  intro v1 w1 hO1 hb1
  have HO1 : Hid (Out w.heap.size v1 (([] : List UInt8) ++ [(45 : UInt8)]) w1) := by show Out _ _ _ _; simpa using hO1
  clear hO1
  go_wp2_with (at_builtin; refine push1 rfl _ _ rfl HO1.out dg[0] (dg[0].toNat : Int) rfl 5 rfl rfl (by simp) ?_)
  intro v2 w2 hO2 hb2
  have HO2 : Hid (Out w.heap.size v2 (([] : List UInt8) ++ [(45 : UInt8)] ++ [(dg[0] : UInt8)]) w2) := by show Out _ _ _ _; simpa using hO2
  clear hO2
  go_wp2_with (at_builtin; refine push1 rfl _ _ rfl HO2.out 101 101 e101 5 rfl rfl (by simp) ?_)
  intro v3 w3 hO3 hb3
  have HO3 : Hid (Out w.heap.size v3 (([] : List UInt8) ++ [(45 : UInt8)] ++ [(dg[0] : UInt8)] ++ [(101 : UInt8)]) w3) := by show Out _ _ _ _; simpa using hO3
  clear hO3
  go_wp2_with (at_builtin; refine push1 rfl _ _ rfl HO3.out 43 43 e43 5 rfl rfl (by simp) ?_)
  intro v4 w4 hO4 hb4
  have HO4 : Hid (Out w.heap.size v4 (([] : List UInt8) ++ [(45 : UInt8)] ++ [(dg[0] : UInt8)] ++ [(101 : UInt8)] ++ [(43 : UInt8)]) w4) := by show Out _ _ _ _; simpa using hO4
  clear hO4
  go_wp2_with fail
  refine (int_any w.heap.size _ _ ((dg.size : Int) + exp - 1) _ (by omega) (by omega) HO4.out (by simp)).mono ?_
  rintro e wz ⟨vz, rfl, hOz, hbz⟩
  obtain ⟨s, hs⟩ : ∃ s : ByteArray, s = ⟨(([] : List UInt8) ++ [(45 : UInt8)] ++ [(dg[0] : UInt8)] ++ [(101 : UInt8)] ++ [(43 : UInt8)] ++ Lib.itoa ((dg.size : Int) + exp - 1)).toArray⟩ := ⟨_, rfl⟩
  have hcv := hOz.text (by intro e; have := congrArg List.length e; simp at this)
  rw [← hs] at hcv
  have HS : Hid (s.data.toList = sgn true ++ [(dg[0] : UInt8)] ++ [(101 : UInt8)] ++ [(43 : UInt8)] ++ Lib.itoa ((dg.size : Int) + exp - 1)) := by
    show s.data.toList = _
    rw [hs]
    simp [sgn]
  clear hs
  go_wp2
  go_ret
  exact ⟨s, HS, rfl, (((hb1.trans hb2).trans hb3).trans hb4).trans hbz⟩

set_option maxHeartbeats 3200000 in
theorem sci_low_one_true (dg : ByteArray) (exp : Int) (w : World) (h1 : 1 ≤ dg.size) (h2 : dg.size ≤ 100000) (hx1 : exp ≤ 4611686018427387904) (hx2 : -4611686018427387904 ≤ exp) (hlead : (dg.size : Int) + exp - 1 < 0) (hexp : ¬ 0 < exp) (hcnt : 100000 < -exp + 1) (hn : ¬ 1 < dg.size) (h0 : 0 < dg.size) :
    Calls Tryd.prog 8 #[.bool true, .string dg, .int .i64 exp] w fun e w' => ∃ s : ByteArray, Hid (s.data.toList = sgn true ++ [(dg[0] : UInt8)] ++ [(101 : UInt8)] ++ Lib.itoa ((dg.size : Int) + exp - 1)) ∧ e = .returned (.string s) ∧ Below w.heap.size w w' := by
  have HOn : Hid (Out w.heap.size (.slice .none 0 0) [] w) := Out.nil w.heap.size w (Nat.le_refl _)
  go_enter Tryd.func8, Tryd.ntmps8
  go_wp2_with (at_builtin; refine push1 rfl _ _ rfl HOn.out 45 45 e45 5 rfl rfl (by simp) ?_)
  intro v1 w1 hO1 hb1
  have HO1 : Hid (Out w.heap.size v1 (([] : List UInt8) ++ [(45 : UInt8)]) w1) := by show Out _ _ _ _; simpa using hO1
  clear hO1
  go_wp2_with (at_builtin; refine push1 rfl _ _ rfl HO1.out dg[0] (dg[0].toNat : Int) rfl 5 rfl rfl (by simp) ?_)
  intro v2 w2 hO2 hb2
  have HO2 : Hid (Out w.heap.size v2 (([] : List UInt8) ++ [(45 : UInt8)] ++ [(dg[0] : UInt8)]) w2) := by show Out _ _ _ _; simpa using hO2
  clear hO2
  go_wp2_with (at_builtin; refine push1 rfl _ _ rfl HO2.out 101 101 e101 5 rfl rfl (by simp) ?_)
  intro v3 w3 hO3 hb3
  have HO3 : Hid (Out w.heap.size v3 (([] : List UInt8) ++ [(45 : UInt8)] ++ [(dg[0] : UInt8)] ++ [(101 : UInt8)]) w3) := by show Out _ _ _ _; simpa using hO3
  clear hO3
  go_wp2_with fail
  refine (int_any w.heap.size _ _ ((dg.size : Int) + exp - 1) _ (by omega) (by omega) HO3.out (by simp)).mono ?_
  rintro e wz ⟨vz, rfl, hOz, hbz⟩
  obtain ⟨s, hs⟩ : ∃ s : ByteArray, s = ⟨(([] : List UInt8) ++ [(45 : UInt8)] ++ [(dg[0] : UInt8)] ++ [(101 : UInt8)] ++ Lib.itoa ((dg.size : Int) + exp - 1)).toArray⟩ := ⟨_, rfl⟩
  have hcv := hOz.text (by intro e; have := congrArg List.length e; simp at this)
  rw [← hs] at hcv
  have HS : Hid (s.data.toList = sgn true ++ [(dg[0] : UInt8)] ++ [(101 : UInt8)] ++ Lib.itoa ((dg.size : Int) + exp - 1)) := by
    show s.data.toList = _
    rw [hs]
    simp [sgn]
  clear hs
  go_wp2
  go_ret
  exact ⟨s, HS, rfl, ((hb1.trans hb2).trans hb3).trans hbz⟩

set_option maxHeartbeats 3200000 in
theorem sci_up_many_false (dg : ByteArray) (exp : Int) (w : World) (h1 : 1 ≤ dg.size) (h2 : dg.size ≤ 100000) (hx1 : exp ≤ 4611686018427387904) (hx2 : -4611686018427387904 ≤ exp) (hlead : ¬ (dg.size : Int) + exp - 1 < 0) (hexp : 0 < exp) (hcnt : 100000 < (dg.size : Int) + exp) (hn : 1 < dg.size) (h0 : 0 < dg.size) :
    Calls Tryd.prog 8 #[.bool false, .string dg, .int .i64 exp] w fun e w' => ∃ s : ByteArray, Hid (s.data.toList = sgn false ++ [(dg[0] : UInt8)] ++ [(46 : UInt8)] ++ dg.data.toList.drop 1 ++ [(101 : UInt8)] ++ [(43 : UInt8)] ++ Lib.itoa ((dg.size : Int) + exp - 1)) ∧ e = .returned (.string s) ∧ Below w.heap.size w w' := by
  have HOn : Hid (Out w.heap.size (.slice .none 0 0) [] w) := Out.nil w.heap.size w (Nat.le_refl _)
  go_enter Tryd.func8, Tryd.ntmps8
  go_wp2_with (at_builtin; refine push1 rfl _ _ rfl HOn.out dg[0] (dg[0].toNat : Int) rfl 5 rfl rfl (by simp) ?_)
  intro v1 w1 hO1 hb1
  have HO1 : Hid (Out w.heap.size v1 (([] : List UInt8) ++ [(dg[0] : UInt8)]) w1) := by show Out _ _ _ _; simpa using hO1
  clear hO1
  go_wp2_with (at_builtin; refine push1 rfl _ _ rfl HO1.out 46 46 e46 5 rfl rfl (by simp) ?_)
  intro v2 w2 hO2 hb2
  have HO2 : Hid (Out w.heap.size v2 (([] : List UInt8) ++ [(dg[0] : UInt8)] ++ [(46 : UInt8)]) w2) := by show Out _ _ _ _; simpa using hO2
  clear hO2
  go_wp2
  try simp only [Int.sub_zero, Int.sub_add_cancel, Int.zero_sub]
  go_loopw [12, 15] (fun o p wr => ∃ (j : Nat), j + 1 ≤ dg.size ∧ p = .int .i64 (j + 1 : Nat) ∧ Out w.heap.size o (([] : List UInt8) ++ [(dg[0] : UInt8)] ++ [(46 : UInt8)] ++ (dg.data.toList.drop 1).take j) wr ∧ Below w.heap.size w wr) (fun _ p _ => dg.size - (intOf p).toNat)
  case atStart => exact ⟨0, by omega, rfl, by simpa using HO2.out, (hb1.trans hb2)⟩
  case round =>
    obtain ⟨j, hj, rfl, hO, hb⟩ := hrel
    have HO : Hid (Out w.heap.size u12 (([] : List UInt8) ++ [(dg[0] : UInt8)] ++ [(46 : UInt8)] ++ (dg.data.toList.drop 1).take j) wr) := hO
    have hjl : ((dg.data.toList.drop 1).take j).length ≤ 100000 := by rw [List.length_take]; omega
    clear hO
    by_cases hlt : j + 1 < dg.size
    · have HT := Lib.hid (take_more dg j hlt)
      go_wp2_with (at_builtin; refine push1 rfl _ _ rfl HO.out dg[j + 1] (dg[j + 1].toNat : Int) rfl 5 rfl rfl (by rw [List.length_append]; simp only [List.length_append, List.length_cons, List.length_nil]; omega) ?_)
      intro v2 w2 hO2 hb2
      go_wp2
      go_roundw
      case rel =>
        refine ⟨j + 1, by omega, by go_num, ?_, hb.trans hb2⟩
        rw [HT.out, ← List.append_assoc]
        simpa using hO2
      case measure => simp [intOf]; omega
    · have hD : (dg.data.toList.drop 1).take j = dg.data.toList.drop 1 := List.take_of_length_le (by rw [List.length_drop, size_list]; omega)
      rw [hD] at HO hjl
      clear hD
      go_wp2_with (at_builtin; refine push1 rfl _ _ rfl HO.out 101 101 e101 5 rfl rfl (by simp only [List.length_append, List.length_cons, List.length_nil]; omega) ?_)
      intro v11 w11 hO11 hb11
      have HO11 : Hid (Out w.heap.size v11 (([] : List UInt8) ++ [(dg[0] : UInt8)] ++ [(46 : UInt8)] ++ dg.data.toList.drop 1 ++ [(101 : UInt8)]) w11) := by show Out _ _ _ _; simpa using hO11
      clear hO11
      go_wp2_with (at_builtin; refine push1 rfl _ _ rfl HO11.out 43 43 e43 5 rfl rfl (by simp only [List.length_append, List.length_cons, List.length_nil]; omega) ?_)
      intro v12 w12 hO12 hb12
      have HO12 : Hid (Out w.heap.size v12 (([] : List UInt8) ++ [(dg[0] : UInt8)] ++ [(46 : UInt8)] ++ dg.data.toList.drop 1 ++ [(101 : UInt8)] ++ [(43 : UInt8)]) w12) := by show Out _ _ _ _; simpa using hO12
      clear hO12
      go_wp2_with fail
      refine (int_any w.heap.size _ _ ((dg.size : Int) + exp - 1) _ (by omega) (by omega) HO12.out (by simp only [List.length_append, List.length_cons, List.length_nil]; omega)).mono ?_
      rintro e wz ⟨vz, rfl, hOz, hbz⟩
      obtain ⟨s, hs⟩ : ∃ s : ByteArray, s = ⟨(([] : List UInt8) ++ [(dg[0] : UInt8)] ++ [(46 : UInt8)] ++ dg.data.toList.drop 1 ++ [(101 : UInt8)] ++ [(43 : UInt8)] ++ Lib.itoa ((dg.size : Int) + exp - 1)).toArray⟩ := ⟨_, rfl⟩
      have hcv := hOz.text (by intro e; have := congrArg List.length e; simp at this)
      rw [← hs] at hcv
      have HS : Hid (s.data.toList = sgn false ++ [(dg[0] : UInt8)] ++ [(46 : UInt8)] ++ dg.data.toList.drop 1 ++ [(101 : UInt8)] ++ [(43 : UInt8)] ++ Lib.itoa ((dg.size : Int) + exp - 1)) := by
        show s.data.toList = _
        rw [hs]
        simp [sgn]
      clear hs
      go_wp2
      go_ret
      exact ⟨s, HS, rfl, ((hb.trans hb11).trans hb12).trans hbz⟩

set_option maxHeartbeats 3200000 in
theorem sci_low_many_false (dg : ByteArray) (exp : Int) (w : World) (h1 : 1 ≤ dg.size) (h2 : dg.size ≤ 100000) (hx1 : exp ≤ 4611686018427387904) (hx2 : -4611686018427387904 ≤ exp) (hlead : (dg.size : Int) + exp - 1 < 0) (hexp : ¬ 0 < exp) (hcnt : 100000 < -exp + 1) (hn : 1 < dg.size) (h0 : 0 < dg.size) :
    Calls Tryd.prog 8 #[.bool false, .string dg, .int .i64 exp] w fun e w' => ∃ s : ByteArray, Hid (s.data.toList = sgn false ++ [(dg[0] : UInt8)] ++ [(46 : UInt8)] ++ dg.data.toList.drop 1 ++ [(101 : UInt8)] ++ Lib.itoa ((dg.size : Int) + exp - 1)) ∧ e = .returned (.string s) ∧ Below w.heap.size w w' := by
  have HOn : Hid (Out w.heap.size (.slice .none 0 0) [] w) := Out.nil w.heap.size w (Nat.le_refl _)
  go_enter Tryd.func8, Tryd.ntmps8
  go_wp2_with (at_builtin; refine push1 rfl _ _ rfl HOn.out dg[0] (dg[0].toNat : Int) rfl 5 rfl rfl (by simp) ?_)
  intro v1 w1 hO1 hb1
  have HO1 : Hid (Out w.heap.size v1 (([] : List UInt8) ++ [(dg[0] : UInt8)]) w1) := by show Out _ _ _ _; simpa using hO1
  clear hO1
  go_wp2_with (at_builtin; refine push1 rfl _ _ rfl HO1.out 46 46 e46 5 rfl rfl (by simp) ?_)
  intro v2 w2 hO2 hb2
  have HO2 : Hid (Out w.heap.size v2 (([] : List UInt8) ++ [(dg[0] : UInt8)] ++ [(46 : UInt8)]) w2) := by show Out _ _ _ _; simpa using hO2
  clear hO2
  go_wp2
  try simp only [Int.sub_zero, Int.sub_add_cancel, Int.zero_sub]
  go_loopw [12, 15] (fun o p wr => ∃ (j : Nat), j + 1 ≤ dg.size ∧ p = .int .i64 (j + 1 : Nat) ∧ Out w.heap.size o (([] : List UInt8) ++ [(dg[0] : UInt8)] ++ [(46 : UInt8)] ++ (dg.data.toList.drop 1).take j) wr ∧ Below w.heap.size w wr) (fun _ p _ => dg.size - (intOf p).toNat)
  case atStart => exact ⟨0, by omega, rfl, by simpa using HO2.out, (hb1.trans hb2)⟩
  case round =>
    obtain ⟨j, hj, rfl, hO, hb⟩ := hrel
    have HO : Hid (Out w.heap.size u12 (([] : List UInt8) ++ [(dg[0] : UInt8)] ++ [(46 : UInt8)] ++ (dg.data.toList.drop 1).take j) wr) := hO
    have hjl : ((dg.data.toList.drop 1).take j).length ≤ 100000 := by rw [List.length_take]; omega
    clear hO
    by_cases hlt : j + 1 < dg.size
    · have HT := Lib.hid (take_more dg j hlt)
      go_wp2_with (at_builtin; refine push1 rfl _ _ rfl HO.out dg[j + 1] (dg[j + 1].toNat : Int) rfl 5 rfl rfl (by rw [List.length_append]; simp only [List.length_append, List.length_cons, List.length_nil]; omega) ?_)
      intro v2 w2 hO2 hb2
      go_wp2
      go_roundw
      case rel =>
        refine ⟨j + 1, by omega, by go_num, ?_, hb.trans hb2⟩
        rw [HT.out, ← List.append_assoc]
        simpa using hO2
      case measure => simp [intOf]; omega
    · have hD : (dg.data.toList.drop 1).take j = dg.data.toList.drop 1 := List.take_of_length_le (by rw [List.length_drop, size_list]; omega)
      rw [hD] at HO hjl
      clear hD
      go_wp2_with (at_builtin; refine push1 rfl _ _ rfl HO.out 101 101 e101 5 rfl rfl (by simp only [List.length_append, List.length_cons, List.length_nil]; omega) ?_)
      intro v11 w11 hO11 hb11
      have HO11 : Hid (Out w.heap.size v11 (([] : List UInt8) ++ [(dg[0] : UInt8)] ++ [(46 : UInt8)] ++ dg.data.toList.drop 1 ++ [(101 : UInt8)]) w11) := by show Out _ _ _ _; simpa using hO11
      clear hO11
      go_wp2_with fail
      refine (int_any w.heap.size _ _ ((dg.size : Int) + exp - 1) _ (by omega) (by omega) HO11.out (by simp only [List.length_append, List.length_cons, List.length_nil]; omega)).mono ?_
      rintro e wz ⟨vz, rfl, hOz, hbz⟩
      obtain ⟨s, hs⟩ : ∃ s : ByteArray, s = ⟨(([] : List UInt8) ++ [(dg[0] : UInt8)] ++ [(46 : UInt8)] ++ dg.data.toList.drop 1 ++ [(101 : UInt8)] ++ Lib.itoa ((dg.size : Int) + exp - 1)).toArray⟩ := ⟨_, rfl⟩
      have hcv := hOz.text (by intro e; have := congrArg List.length e; simp at this)
      rw [← hs] at hcv
      have HS : Hid (s.data.toList = sgn false ++ [(dg[0] : UInt8)] ++ [(46 : UInt8)] ++ dg.data.toList.drop 1 ++ [(101 : UInt8)] ++ Lib.itoa ((dg.size : Int) + exp - 1)) := by
        show s.data.toList = _
        rw [hs]
        simp [sgn]
      clear hs
      go_wp2
      go_ret
      exact ⟨s, HS, rfl, (hb.trans hb11).trans hbz⟩

set_option maxHeartbeats 3200000 in
theorem sci_up_one_false (dg : ByteArray) (exp : Int) (w : World) (h1 : 1 ≤ dg.size) (h2 : dg.size ≤ 100000) (hx1 : exp ≤ 4611686018427387904) (hx2 : -4611686018427387904 ≤ exp) (hlead : ¬ (dg.size : Int) + exp - 1 < 0) (hexp : 0 < exp) (hcnt : 100000 < (dg.size : Int) + exp) (hn : ¬ 1 < dg.size) (h0 : 0 < dg.size) :
    Calls Tryd.prog 8 #[.bool false, .string dg, .int .i64 exp] w fun e w' => ∃ s : ByteArray, Hid (s.data.toList = sgn false ++ [(dg[0] : UInt8)] ++ [(101 : UInt8)] ++ [(43 : UInt8)] ++ Lib.itoa ((dg.size : Int) + exp - 1)) ∧ e = .returned (.string s) ∧ Below w.heap.size w w' := by
  have HOn : Hid (Out w.heap.size (.slice .none 0 0) [] w) := Out.nil w.heap.size w (Nat.le_refl _)
  go_enter Tryd.func8, Tryd.ntmps8
  go_wp2_with (at_builtin; refine push1 rfl _ _ rfl HOn.out dg[0] (dg[0].toNat : Int) rfl 5 rfl rfl (by simp) ?_)
  intro v1 w1 hO1 hb1
  have HO1 : Hid (Out w.heap.size v1 (([] : List UInt8) ++ [(dg[0] : UInt8)]) w1) := by show Out _ _ _ _; simpa using hO1
  clear hO1
  go_wp2_with (at_builtin; refine push1 rfl _ _ rfl HO1.out 101 101 e101 5 rfl rfl (by simp) ?_)
  intro v2 w2 hO2 hb2
  have HO2 : Hid (Out w.heap.size v2 (([] : List UInt8) ++ [(dg[0] : UInt8)] ++ [(101 : UInt8)]) w2) := by show Out _ _ _ _; simpa using hO2
  clear hO2
  go_wp2_with (at_builtin; refine push1 rfl _ _ rfl HO2.out 43 43 e43 5 rfl rfl (by simp) ?_)
  intro v3 w3 hO3 hb3
  have HO3 : Hid (Out w.heap.size v3 (([] : List UInt8) ++ [(dg[0] : UInt8)] ++ [(101 : UInt8)] ++ [(43 : UInt8)]) w3) := by show Out _ _ _ _; simpa using hO3
  clear hO3
  go_wp2_with fail
  refine (int_any w.heap.size _ _ ((dg.size : Int) + exp - 1) _ (by omega) (by omega) HO3.out (by simp)).mono ?_
  rintro e wz ⟨vz, rfl, hOz, hbz⟩
  obtain ⟨s, hs⟩ : ∃ s : ByteArray, s = ⟨(([] : List UInt8) ++ [(dg[0] : UInt8)] ++ [(101 : UInt8)] ++ [(43 : UInt8)] ++ Lib.itoa ((dg.size : Int) + exp - 1)).toArray⟩ := ⟨_, rfl⟩
  have hcv := hOz.text (by intro e; have := congrArg List.length e; simp at this)
  rw [← hs] at hcv
  have HS : Hid (s.data.toList = sgn false ++ [(dg[0] : UInt8)] ++ [(101 : UInt8)] ++ [(43 : UInt8)] ++ Lib.itoa ((dg.size : Int) + exp - 1)) := by
    show s.data.toList = _
    rw [hs]
    simp [sgn]
  clear hs
  go_wp2
  go_ret
  exact ⟨s, HS, rfl, ((hb1.trans hb2).trans hb3).trans hbz⟩

set_option maxHeartbeats 3200000 in
theorem sci_low_one_false (dg : ByteArray) (exp : Int) (w : World) (h1 : 1 ≤ dg.size) (h2 : dg.size ≤ 100000) (hx1 : exp ≤ 4611686018427387904) (hx2 : -4611686018427387904 ≤ exp) (hlead : (dg.size : Int) + exp - 1 < 0) (hexp : ¬ 0 < exp) (hcnt : 100000 < -exp + 1) (hn : ¬ 1 < dg.size) (h0 : 0 < dg.size) :
    Calls Tryd.prog 8 #[.bool false, .string dg, .int .i64 exp] w fun e w' => ∃ s : ByteArray, Hid (s.data.toList = sgn false ++ [(dg[0] : UInt8)] ++ [(101 : UInt8)] ++ Lib.itoa ((dg.size : Int) + exp - 1)) ∧ e = .returned (.string s) ∧ Below w.heap.size w w' := by
  have HOn : Hid (Out w.heap.size (.slice .none 0 0) [] w) := Out.nil w.heap.size w (Nat.le_refl _)
  go_enter Tryd.func8, Tryd.ntmps8
  go_wp2_with (at_builtin; refine push1 rfl _ _ rfl HOn.out dg[0] (dg[0].toNat : Int) rfl 5 rfl rfl (by simp) ?_)
  intro v1 w1 hO1 hb1
  have HO1 : Hid (Out w.heap.size v1 (([] : List UInt8) ++ [(dg[0] : UInt8)]) w1) := by show Out _ _ _ _; simpa using hO1
  clear hO1
  go_wp2_with (at_builtin; refine push1 rfl _ _ rfl HO1.out 101 101 e101 5 rfl rfl (by simp) ?_)
  intro v2 w2 hO2 hb2
  have HO2 : Hid (Out w.heap.size v2 (([] : List UInt8) ++ [(dg[0] : UInt8)] ++ [(101 : UInt8)]) w2) := by show Out _ _ _ _; simpa using hO2
  clear hO2
  go_wp2_with fail
  refine (int_any w.heap.size _ _ ((dg.size : Int) + exp - 1) _ (by omega) (by omega) HO2.out (by simp)).mono ?_
  rintro e wz ⟨vz, rfl, hOz, hbz⟩
  obtain ⟨s, hs⟩ : ∃ s : ByteArray, s = ⟨(([] : List UInt8) ++ [(dg[0] : UInt8)] ++ [(101 : UInt8)] ++ Lib.itoa ((dg.size : Int) + exp - 1)).toArray⟩ := ⟨_, rfl⟩
  have hcv := hOz.text (by intro e; have := congrArg List.length e; simp at this)
  rw [← hs] at hcv
  have HS : Hid (s.data.toList = sgn false ++ [(dg[0] : UInt8)] ++ [(101 : UInt8)] ++ Lib.itoa ((dg.size : Int) + exp - 1)) := by
    show s.data.toList = _
    rw [hs]
    simp [sgn]
  clear hs
  go_wp2
  go_ret
  exact ⟨s, HS, rfl, (hb1.trans hb2).trans hbz⟩
end Go.Proofs.Qxb6603079aDoor
