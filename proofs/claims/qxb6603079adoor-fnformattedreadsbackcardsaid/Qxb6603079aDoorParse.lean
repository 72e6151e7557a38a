/-
  zzParse, walked at the texts that formatted writes: one theorem a way (written by a small program of ours).
-/
import Derived.Test.Qxb6603079aDoorOut
import Derived.Test.Qxb6603079aDoorTrim
namespace Go.Proofs.Qxb6603079aDoor
open Go.RowKit Plain
set_option linter.unusedVariables false      -- a way need not use every bound by its name

theorem isd_yes (z : Int) (w : World) (h1 : 48 ≤ z) (h2 : z ≤ 57) : Calls Tryd.prog 15 #[.int .u8 z] w fun e w' => e = .returned (.bool true) ∧ w' = w := by
  go_enter Tryd.func15, Tryd.ntmps15
  go_wp2
  go_ret
  exact ⟨rfl, rfl⟩
theorem isd_low (z : Int) (w : World) (h1 : z < 48) : Calls Tryd.prog 15 #[.int .u8 z] w fun e w' => e = .returned (.bool false) ∧ w' = w := by
  go_enter Tryd.func15, Tryd.ntmps15
  go_wp2
  go_ret
  exact ⟨rfl, rfl⟩
theorem isd_high (z : Int) (w : World) (h1 : 57 < z) : Calls Tryd.prog 15 #[.int .u8 z] w fun e w' => e = .returned (.bool false) ∧ w' = w := by
  have h0 : 48 ≤ z := by omega
  go_enter Tryd.func15, Tryd.ntmps15
  go_wp2
  go_ret
  exact ⟨ret_bool (a := decide (z ≤ 57)) (decide_eq_false (by omega)), rfl⟩

/-- Four results. -/
theorem results_tmp4 {fn : Func} {t u v x : Tmp} (h : fn.results = #[.tmp t, .tmp u, .tmp v, .tmp x]) (tmps : Array Value) (P : Program) (w : World) :
    (results fn tmps).run P w = .ok (.tuple #[tmps.getD t undef, tmps.getD u undef, tmps.getD v undef, tmps.getD x undef]) w := by
  simp [results, h]
theorem ret_four {n : Bool} {t : ByteArray} {x y : Int} (h : x = y) : Ending.returned (.tuple #[.bool true, .bool n, .string t, .int .i64 x]) = .returned (.tuple #[.bool true, .bool n, .string t, .int .i64 y]) := by rw [h]

theorem piece_next (s : ByteArray) (a k : Nat) (ha : a ≤ k) (hk : k < s.size) : (s.data.toList.drop a).take (k + 1 - a) = (s.data.toList.drop a).take (k - a) ++ [s[k]] := by
  have e : k + 1 - a = (k - a) + 1 := by omega
  have hl : k - a < (s.data.toList.drop a).length := by rw [List.length_drop, size_list]; omega
  rw [e, List.take_succ_eq_append_getElem hl, List.getElem_drop]
  congr 2
  have e2 : a + (k - a) = k := by omega
  have hkl : k < s.data.toList.length := by rw [size_list]; exact hk
  calc s.data.toList[a + (k - a)]'(by omega) = s.data.toList[k]'hkl := by congr 1
    _ = s[k] := rfl
theorem piece_len (s : ByteArray) (a k : Nat) (hs : s.size ≤ 300000) : ((s.data.toList.drop a).take k).length ≤ 300000 := by
  rw [List.length_take, List.length_drop, size_list]; omega
theorem piece_ne (s : ByteArray) (a k : Nat) (h1 : a < k) (h2 : k ≤ s.size) : (s.data.toList.drop a).take (k - a) ≠ [] := by
  intro e
  have := congrArg List.length e
  rw [List.length_take, List.length_drop, size_list] at this
  simp at this
  omega
theorem val_next (s : ByteArray) (a k : Nat) (ha : a ≤ k) (hk : k < s.size) (hd : 48 ≤ s[k].toNat) :
    (val ((s.data.toList.drop a).take (k + 1 - a)) : Int) = (val ((s.data.toList.drop a).take (k - a)) : Int) * 10 + ((s[k].toNat : Int) - 48) := by
  rw [piece_next s a k ha hk, val_snoc]
  omega
theorem val_bound (s : ByteArray) (a k V : Nat) (ha : a ≤ k) (hk : k < s.size) (hV : val (s.data.toList.drop a) = V) : val ((s.data.toList.drop a).take (k - a)) * 10 ≤ V := by
  have h := val_head ((s.data.toList.drop a).take (k - a)) ((s.data.toList.drop a).drop (k - a)) (by
    intro e
    have := congrArg List.length e
    rw [List.length_drop, List.length_drop, size_list] at this
    simp at this
    omega)
  rw [List.take_append_drop, hV] at h
  exact h
theorem val_all (s : ByteArray) (a : Nat) (ha : a ≤ s.size) : (s.data.toList.drop a).take (s.size - a) = s.data.toList.drop a :=
  List.take_of_length_le (by rw [List.length_drop, size_list]; exact Nat.le_refl _)
theorem Out.drewN {B : Nat} {v : Value} {l : List UInt8} {w : World} (h : Out B v l w) (n : Nat) : Out B v l (w.drewN n) := h

set_option maxHeartbeats 6400000 in
set_option maxRecDepth 100000 in
theorem parse_pt_none_true (s : ByteArray) (p1 : Nat) (w : World) (hs : s.size ≤ 300000) (h0 : 0 < s.size) (hsg : ((s[0].toNat : Int) == 45) = true) (ha : 1 < p1) (H1 : Hid (∀ j (hj : j < s.size), 1 ≤ j → j < p1 → 48 ≤ s[j].toNat ∧ s[j].toNat ≤ 57))
    (hp1 : p1 < s.size) (hdot : ((s[p1].toNat : Int) == 46) = true) (hp2 : p1 + 1 < s.size) (H2 : Hid (∀ j (hj : j < s.size), p1 + 1 ≤ j → j < s.size → 48 ≤ s[j].toNat ∧ s[j].toNat ≤ 57))
    :
    Calls Tryd.prog 10 #[.string s] w fun e w' => ∃ (t : ByteArray) (g : Int), Hid (t.data.toList = (s.data.toList.drop 1).take (p1 - 1) ++ (s.data.toList.drop (p1 + 1)).take (s.size - (p1 + 1)) ∧ g = 0 - ((s.size : Int) - ((p1 : Int) + 1))) ∧ e = .returned (.tuple #[.bool true, .bool true, .string t, .int .i64 g]) ∧ Below w.heap.size w w' := by
  have HO0 : Hid (Out w.heap.size (.slice .none 0 0) [] w) := Out.nil w.heap.size w (Nat.le_refl _)
  go_enter Tryd.func10, Tryd.ntmps10
  go_wp2
  go_loopw [6, 8, 9] (fun i mv b wr => ∃ k : Nat, 1 ≤ k ∧ k ≤ p1 ∧ i = .int .i64 (k : Int) ∧ b = .int .i64 ((k : Int) - 1) ∧ Out w.heap.size mv ((s.data.toList.drop 1).take (k - 1)) wr ∧ Below w.heap.size w wr) (fun i _ _ _ => p1 - (intOf i).toNat)
  case atStart => exact ⟨1, by omega, by omega, rfl, by first | rfl | go_num, by simpa using HO0.out, Below.refl _ _⟩
  case round =>
    obtain ⟨k, hka, hkb, rfl, rfl, hO, hb⟩ := hrel
    have HO : Hid (Out w.heap.size u8 ((s.data.toList.drop 1).take (k - 1)) wr) := hO
    have hlen := piece_len s 1 (k - 1) hs
    clear hO
    by_cases hlt : k < p1
    · have hks : k < s.size := by omega
      obtain ⟨d1, d2⟩ := H1.out k hks hka hlt
      have d1' : (48 : Int) ≤ (s[k].toNat : Int) := by omega
      have d2' : (s[k].toNat : Int) ≤ 57 := by omega
      have HN := Lib.hid (piece_next s 1 k hka hks)
      clear d1 d2
      go_wp2_with (first
        | (go_at_call 15; refine (isd_yes _ _ d1' d2').mono ?_; rintro e w' ⟨rfl, rfl⟩)
        | (at_builtin; refine push1 rfl _ _ rfl HO.out s[k] (s[k].toNat : Int) rfl 5 rfl rfl (by omega) ?_))
      intro v1 w1 hO1 hb1
      go_wp2
      go_roundw
      case rel => exact ⟨k + 1, by omega, by omega, by go_num, by go_num, by rw [HN.out]; simpa using hO1, hb.trans hb1⟩
      case measure => simp [intOf]; omega
    · have hkp : k = p1 := by omega
      subst k
      have hbz : (((p1 : Int) - 1) == 0) = false := beq_eq_false_iff_ne.2 (by omega)
      have h46 : (s[p1].toNat : Int) = 46 := by simpa using hdot
      have hnd : (s[p1].toNat : Int) < 48 := by omega
      clear h46
      go_wp2_with (go_at_call 15; refine (isd_low _ _ hnd).mono ?_; rintro e w' ⟨rfl, rfl⟩)
      go_loopw [6, 8, 10] (fun i mv f wx => ∃ k : Nat, p1 + 1 ≤ k ∧ k ≤ s.size ∧ i = .int .i64 (k : Int) ∧ f = .int .i64 ((k : Int) - ((p1 : Int) + 1)) ∧ Out w.heap.size mv ((s.data.toList.drop 1).take (p1 - 1) ++ (s.data.toList.drop (p1 + 1)).take (k - (p1 + 1))) wx ∧ Below w.heap.size w wx) (fun i _ _ _ => s.size - (intOf i).toNat)
      case atStart => exact ⟨p1 + 1, by omega, by omega, by go_num, by go_num, by simpa using HO.out, hb⟩
      case round =>
        obtain ⟨k, hka2, hkb2, rfl, rfl, hO2, hb2⟩ := hrel
        have HO2 : Hid (Out w.heap.size u8 ((s.data.toList.drop 1).take (p1 - 1) ++ (s.data.toList.drop (p1 + 1)).take (k - (p1 + 1))) wr) := hO2
        have hlen2 := piece_len s (p1 + 1) (k - (p1 + 1)) hs
        clear hO2
        by_cases hlt2 : k < s.size
        · have hks : k < s.size := by omega
          obtain ⟨d1, d2⟩ := H2.out k hks hka2 hlt2
          have d1' : (48 : Int) ≤ (s[k].toNat : Int) := by omega
          have d2' : (s[k].toNat : Int) ≤ 57 := by omega
          have HN := Lib.hid (piece_next s (p1 + 1) k hka2 hks)
          clear d1 d2
          go_wp2_with (first
            | (go_at_call 15; refine (isd_yes _ _ d1' d2').mono ?_; rintro e w' ⟨rfl, rfl⟩)
            | (at_builtin; refine push1 rfl _ _ rfl HO2.out s[k] (s[k].toNat : Int) rfl 5 rfl rfl (by rw [List.length_append]; omega) ?_))
          intro v1 w1 hO1 hb1
          go_wp2
          go_roundw
          case rel => exact ⟨k + 1, by omega, by omega, by go_num, by go_num, by rw [HN.out]; simpa using hO1, hb2.trans hb1⟩
          case measure => simp [intOf]; omega
        · have hkp : k = s.size := by omega
          subst k
          have hfz : (((s.size : Nat) : Int) - ((p1 : Int) + 1) == 0) = false := beq_eq_false_iff_ne.2 (by omega)
          go_wp2
          obtain ⟨t, ht⟩ : ∃ t : ByteArray, t = ⟨((s.data.toList.drop 1).take (p1 - 1) ++ (s.data.toList.drop (p1 + 1)).take (s.size - (p1 + 1))).toArray⟩ := ⟨_, rfl⟩
          have hcv := fun n => (HO2.out.drewN n).text (by intro e; exact piece_ne s 1 p1 ha (by omega) (List.append_eq_nil_iff.1 e).1)
          rw [← ht] at hcv
          have hcv0 := HO2.out.text (by intro e; exact piece_ne s 1 p1 ha (by omega) (List.append_eq_nil_iff.1 e).1)
          rw [← ht] at hcv0
          have HT : Hid (t.data.toList = (s.data.toList.drop 1).take (p1 - 1) ++ (s.data.toList.drop (p1 + 1)).take (s.size - (p1 + 1))) := by show t.data.toList = _; rw [ht]
          clear ht
          go_quiet (fail)
          go_wp2
          (try simp only [Exit.inBlock, Exit.then])
          refine bodyPost_ret (results_tmp4 rfl _ _ _) rfl ⟨t, 0 - ((s.size : Int) - ((p1 : Int) + 1)), ⟨HT.out, rfl⟩, ret_four (by omega), below_drewN hb2 _⟩

set_option maxHeartbeats 6400000 in
set_option maxRecDepth 100000 in
theorem parse_pt_plus_true (s : ByteArray) (p1 : Nat) (p2 : Nat) (V : Nat) (w : World) (hs : s.size ≤ 300000) (h0 : 0 < s.size) (hsg : ((s[0].toNat : Int) == 45) = true) (ha : 1 < p1) (H1 : Hid (∀ j (hj : j < s.size), 1 ≤ j → j < p1 → 48 ≤ s[j].toNat ∧ s[j].toNat ≤ 57))
    (hp1 : p1 < s.size) (hdot : ((s[p1].toNat : Int) == 46) = true) (hp2 : p1 + 1 < p2) (H2 : Hid (∀ j (hj : j < s.size), p1 + 1 ≤ j → j < p2 → 48 ≤ s[j].toNat ∧ s[j].toNat ≤ 57))
    (hp2s : p2 < s.size) (he : ((s[p2].toNat : Int) == 101) = true) (hq1 : p2 + 2 < s.size) (hsn : ((s[p2 + 1].toNat : Int) == 43) = true) (hsm : ((s[p2 + 1].toNat : Int) == 45) = false)
    (H3 : Hid (∀ j (hj : j < s.size), p2 + 2 ≤ j → 48 ≤ s[j].toNat ∧ s[j].toNat ≤ 57)) (HV : Hid (val (s.data.toList.drop (p2 + 2)) = V)) (hV : V ≤ 4611686018427487904) :
    Calls Tryd.prog 10 #[.string s] w fun e w' => ∃ (t : ByteArray) (g : Int), Hid (t.data.toList = (s.data.toList.drop 1).take (p1 - 1) ++ (s.data.toList.drop (p1 + 1)).take (p2 - (p1 + 1)) ∧ g = (V : Int) - ((p2 : Int) - ((p1 : Int) + 1))) ∧ e = .returned (.tuple #[.bool true, .bool true, .string t, .int .i64 g]) ∧ Below w.heap.size w w' := by
  have HO0 : Hid (Out w.heap.size (.slice .none 0 0) [] w) := Out.nil w.heap.size w (Nat.le_refl _)
  go_enter Tryd.func10, Tryd.ntmps10
  go_wp2
  go_loopw [6, 8, 9] (fun i mv b wr => ∃ k : Nat, 1 ≤ k ∧ k ≤ p1 ∧ i = .int .i64 (k : Int) ∧ b = .int .i64 ((k : Int) - 1) ∧ Out w.heap.size mv ((s.data.toList.drop 1).take (k - 1)) wr ∧ Below w.heap.size w wr) (fun i _ _ _ => p1 - (intOf i).toNat)
  case atStart => exact ⟨1, by omega, by omega, rfl, by first | rfl | go_num, by simpa using HO0.out, Below.refl _ _⟩
  case round =>
    obtain ⟨k, hka, hkb, rfl, rfl, hO, hb⟩ := hrel
    have HO : Hid (Out w.heap.size u8 ((s.data.toList.drop 1).take (k - 1)) wr) := hO
    have hlen := piece_len s 1 (k - 1) hs
    clear hO
    by_cases hlt : k < p1
    · have hks : k < s.size := by omega
      obtain ⟨d1, d2⟩ := H1.out k hks hka hlt
      have d1' : (48 : Int) ≤ (s[k].toNat : Int) := by omega
      have d2' : (s[k].toNat : Int) ≤ 57 := by omega
      have HN := Lib.hid (piece_next s 1 k hka hks)
      clear d1 d2
      go_wp2_with (first
        | (go_at_call 15; refine (isd_yes _ _ d1' d2').mono ?_; rintro e w' ⟨rfl, rfl⟩)
        | (at_builtin; refine push1 rfl _ _ rfl HO.out s[k] (s[k].toNat : Int) rfl 5 rfl rfl (by omega) ?_))
      intro v1 w1 hO1 hb1
      go_wp2
      go_roundw
      case rel => exact ⟨k + 1, by omega, by omega, by go_num, by go_num, by rw [HN.out]; simpa using hO1, hb.trans hb1⟩
      case measure => simp [intOf]; omega
    · have hkp : k = p1 := by omega
      subst k
      have hbz : (((p1 : Int) - 1) == 0) = false := beq_eq_false_iff_ne.2 (by omega)
      have h46 : (s[p1].toNat : Int) = 46 := by simpa using hdot
      have hnd : (s[p1].toNat : Int) < 48 := by omega
      clear h46
      go_wp2_with (go_at_call 15; refine (isd_low _ _ hnd).mono ?_; rintro e w' ⟨rfl, rfl⟩)
      go_loopw [6, 8, 10] (fun i mv f wx => ∃ k : Nat, p1 + 1 ≤ k ∧ k ≤ p2 ∧ i = .int .i64 (k : Int) ∧ f = .int .i64 ((k : Int) - ((p1 : Int) + 1)) ∧ Out w.heap.size mv ((s.data.toList.drop 1).take (p1 - 1) ++ (s.data.toList.drop (p1 + 1)).take (k - (p1 + 1))) wx ∧ Below w.heap.size w wx) (fun i _ _ _ => p2 - (intOf i).toNat)
      case atStart => exact ⟨p1 + 1, by omega, by omega, by go_num, by go_num, by simpa using HO.out, hb⟩
      case round =>
        obtain ⟨k, hka2, hkb2, rfl, rfl, hO2, hb2⟩ := hrel
        have HO2 : Hid (Out w.heap.size u8 ((s.data.toList.drop 1).take (p1 - 1) ++ (s.data.toList.drop (p1 + 1)).take (k - (p1 + 1))) wr) := hO2
        have hlen2 := piece_len s (p1 + 1) (k - (p1 + 1)) hs
        clear hO2
        by_cases hlt2 : k < p2
        · have hks : k < s.size := by omega
          obtain ⟨d1, d2⟩ := H2.out k hks hka2 hlt2
          have d1' : (48 : Int) ≤ (s[k].toNat : Int) := by omega
          have d2' : (s[k].toNat : Int) ≤ 57 := by omega
          have HN := Lib.hid (piece_next s (p1 + 1) k hka2 hks)
          clear d1 d2
          go_wp2_with (first
            | (go_at_call 15; refine (isd_yes _ _ d1' d2').mono ?_; rintro e w' ⟨rfl, rfl⟩)
            | (at_builtin; refine push1 rfl _ _ rfl HO2.out s[k] (s[k].toNat : Int) rfl 5 rfl rfl (by rw [List.length_append]; omega) ?_))
          intro v1 w1 hO1 hb1
          go_wp2
          go_roundw
          case rel => exact ⟨k + 1, by omega, by omega, by go_num, by go_num, by rw [HN.out]; simpa using hO1, hb2.trans hb1⟩
          case measure => simp [intOf]; omega
        · have hkp : k = p2 := by omega
          subst k
          have hfz : (((p2 : Nat) : Int) - ((p1 : Int) + 1) == 0) = false := beq_eq_false_iff_ne.2 (by omega)
          have h101 : (s[p2].toNat : Int) = 101 := by simpa using he
          have hnd2 : 57 < (s[p2].toNat : Int) := by omega
          clear h101
          go_wp2_with (go_at_call 15; refine (isd_high _ _ hnd2).mono ?_; rintro e w' ⟨rfl, rfl⟩)
          go_loop [6, 11, 13] (fun i ev nd => ∃ (k v : Nat), p2 + 2 ≤ k ∧ k ≤ s.size ∧ i = .int .i64 (k : Int) ∧ ev = .int .i64 (v : Int) ∧ nd = .int .i64 ((k : Int) - ((p2 : Int) + 2)) ∧ Hid (v = val ((s.data.toList.drop (p2 + 2)).take (k - (p2 + 2))))) (fun i _ _ => s.size - (intOf i).toNat)
          case atStart => exact ⟨p2 + 2, 0, by omega, by omega, by go_num, rfl, by go_num, by show _ = _; simp [val]⟩
          case round =>
            obtain ⟨k, v, hka3, hkb3, rfl, rfl, rfl, HVk⟩ := hrel
            by_cases hlt3 : k < s.size
            · obtain ⟨d1, d2⟩ := H3.out k hlt3 hka3
              have d1' : (48 : Int) ≤ (s[k].toNat : Int) := by omega
              have d2' : (s[k].toNat : Int) ≤ 57 := by omega
              have HN := Lib.hid (val_next s (p2 + 2) k hka3 hlt3 d1)
              have hv1 : v * 10 ≤ V := by rw [HVk.out]; exact val_bound s (p2 + 2) k V hka3 hlt3 HV.out
              have hv2 : v ≤ 461168601842748790 := by omega
              have hv3 : (v : Int) * 10 + ((s[k].toNat : Int) - 48) ≤ 4611686018427487913 := by omega
              clear d1 d2 hv1
              go_wp2_with (go_at_call 15; refine (isd_yes _ _ d1' d2').mono ?_; rintro e w' ⟨rfl, rfl⟩)
              go_round
              case rel => exact ⟨k + 1, val ((s.data.toList.drop (p2 + 2)).take (k + 1 - (p2 + 2))), by omega, by omega, by go_num, by rw [HN.out, ← HVk.out], by go_num, rfl⟩
              case measure => simp [intOf]; omega
            · have hkp : k = s.size := by omega
              subst k
              have hvV : v = V := by rw [HVk.out, val_all s (p2 + 2) (by omega)]; exact HV.out
              subst v
              have hnz : (((s.size : Nat) : Int) - ((p2 : Int) + 2) == 0) = false := beq_eq_false_iff_ne.2 (by omega)
              go_wp2
              obtain ⟨t, ht⟩ : ∃ t : ByteArray, t = ⟨((s.data.toList.drop 1).take (p1 - 1) ++ (s.data.toList.drop (p1 + 1)).take (p2 - (p1 + 1))).toArray⟩ := ⟨_, rfl⟩
              have hcv := fun n => (HO2.out.drewN n).text (by intro e; exact piece_ne s 1 p1 ha (by omega) (List.append_eq_nil_iff.1 e).1)
              rw [← ht] at hcv
              have hcv0 := HO2.out.text (by intro e; exact piece_ne s 1 p1 ha (by omega) (List.append_eq_nil_iff.1 e).1)
              rw [← ht] at hcv0
              have HT : Hid (t.data.toList = (s.data.toList.drop 1).take (p1 - 1) ++ (s.data.toList.drop (p1 + 1)).take (p2 - (p1 + 1))) := by show t.data.toList = _; rw [ht]
              clear ht
              go_quiet (fail)
              go_wp2
              (try simp only [Exit.inBlock, Exit.then])
              refine bodyPost_ret (results_tmp4 rfl _ _ _) rfl ⟨t, (V : Int) - ((p2 : Int) - ((p1 : Int) + 1)), ⟨HT.out, rfl⟩, ret_four (by omega), below_drewN hb2 _⟩

set_option maxHeartbeats 6400000 in
set_option maxRecDepth 100000 in
theorem parse_pt_minus_true (s : ByteArray) (p1 : Nat) (p2 : Nat) (V : Nat) (w : World) (hs : s.size ≤ 300000) (h0 : 0 < s.size) (hsg : ((s[0].toNat : Int) == 45) = true) (ha : 1 < p1) (H1 : Hid (∀ j (hj : j < s.size), 1 ≤ j → j < p1 → 48 ≤ s[j].toNat ∧ s[j].toNat ≤ 57))
    (hp1 : p1 < s.size) (hdot : ((s[p1].toNat : Int) == 46) = true) (hp2 : p1 + 1 < p2) (H2 : Hid (∀ j (hj : j < s.size), p1 + 1 ≤ j → j < p2 → 48 ≤ s[j].toNat ∧ s[j].toNat ≤ 57))
    (hp2s : p2 < s.size) (he : ((s[p2].toNat : Int) == 101) = true) (hq1 : p2 + 2 < s.size) (hsn : ((s[p2 + 1].toNat : Int) == 43) = false) (hsm : ((s[p2 + 1].toNat : Int) == 45) = true)
    (H3 : Hid (∀ j (hj : j < s.size), p2 + 2 ≤ j → 48 ≤ s[j].toNat ∧ s[j].toNat ≤ 57)) (HV : Hid (val (s.data.toList.drop (p2 + 2)) = V)) (hV : V ≤ 4611686018427487904) :
    Calls Tryd.prog 10 #[.string s] w fun e w' => ∃ (t : ByteArray) (g : Int), Hid (t.data.toList = (s.data.toList.drop 1).take (p1 - 1) ++ (s.data.toList.drop (p1 + 1)).take (p2 - (p1 + 1)) ∧ g = -(V : Int) - ((p2 : Int) - ((p1 : Int) + 1))) ∧ e = .returned (.tuple #[.bool true, .bool true, .string t, .int .i64 g]) ∧ Below w.heap.size w w' := by
  have HO0 : Hid (Out w.heap.size (.slice .none 0 0) [] w) := Out.nil w.heap.size w (Nat.le_refl _)
  go_enter Tryd.func10, Tryd.ntmps10
  go_wp2
  go_loopw [6, 8, 9] (fun i mv b wr => ∃ k : Nat, 1 ≤ k ∧ k ≤ p1 ∧ i = .int .i64 (k : Int) ∧ b = .int .i64 ((k : Int) - 1) ∧ Out w.heap.size mv ((s.data.toList.drop 1).take (k - 1)) wr ∧ Below w.heap.size w wr) (fun i _ _ _ => p1 - (intOf i).toNat)
  case atStart => exact ⟨1, by omega, by omega, rfl, by first | rfl | go_num, by simpa using HO0.out, Below.refl _ _⟩
  case round =>
    obtain ⟨k, hka, hkb, rfl, rfl, hO, hb⟩ := hrel
    have HO : Hid (Out w.heap.size u8 ((s.data.toList.drop 1).take (k - 1)) wr) := hO
    have hlen := piece_len s 1 (k - 1) hs
    clear hO
    by_cases hlt : k < p1
    · have hks : k < s.size := by omega
      obtain ⟨d1, d2⟩ := H1.out k hks hka hlt
      have d1' : (48 : Int) ≤ (s[k].toNat : Int) := by omega
      have d2' : (s[k].toNat : Int) ≤ 57 := by omega
      have HN := Lib.hid (piece_next s 1 k hka hks)
      clear d1 d2
      go_wp2_with (first
        | (go_at_call 15; refine (isd_yes _ _ d1' d2').mono ?_; rintro e w' ⟨rfl, rfl⟩)
        | (at_builtin; refine push1 rfl _ _ rfl HO.out s[k] (s[k].toNat : Int) rfl 5 rfl rfl (by omega) ?_))
      intro v1 w1 hO1 hb1
      go_wp2
      go_roundw
      case rel => exact ⟨k + 1, by omega, by omega, by go_num, by go_num, by rw [HN.out]; simpa using hO1, hb.trans hb1⟩
      case measure => simp [intOf]; omega
    · have hkp : k = p1 := by omega
      subst k
      have hbz : (((p1 : Int) - 1) == 0) = false := beq_eq_false_iff_ne.2 (by omega)
      have h46 : (s[p1].toNat : Int) = 46 := by simpa using hdot
      have hnd : (s[p1].toNat : Int) < 48 := by omega
      clear h46
      go_wp2_with (go_at_call 15; refine (isd_low _ _ hnd).mono ?_; rintro e w' ⟨rfl, rfl⟩)
      go_loopw [6, 8, 10] (fun i mv f wx => ∃ k : Nat, p1 + 1 ≤ k ∧ k ≤ p2 ∧ i = .int .i64 (k : Int) ∧ f = .int .i64 ((k : Int) - ((p1 : Int) + 1)) ∧ Out w.heap.size mv ((s.data.toList.drop 1).take (p1 - 1) ++ (s.data.toList.drop (p1 + 1)).take (k - (p1 + 1))) wx ∧ Below w.heap.size w wx) (fun i _ _ _ => p2 - (intOf i).toNat)
      case atStart => exact ⟨p1 + 1, by omega, by omega, by go_num, by go_num, by simpa using HO.out, hb⟩
      case round =>
        obtain ⟨k, hka2, hkb2, rfl, rfl, hO2, hb2⟩ := hrel
        have HO2 : Hid (Out w.heap.size u8 ((s.data.toList.drop 1).take (p1 - 1) ++ (s.data.toList.drop (p1 + 1)).take (k - (p1 + 1))) wr) := hO2
        have hlen2 := piece_len s (p1 + 1) (k - (p1 + 1)) hs
        clear hO2
        by_cases hlt2 : k < p2
        · have hks : k < s.size := by omega
          obtain ⟨d1, d2⟩ := H2.out k hks hka2 hlt2
          have d1' : (48 : Int) ≤ (s[k].toNat : Int) := by omega
          have d2' : (s[k].toNat : Int) ≤ 57 := by omega
          have HN := Lib.hid (piece_next s (p1 + 1) k hka2 hks)
          clear d1 d2
          go_wp2_with (first
            | (go_at_call 15; refine (isd_yes _ _ d1' d2').mono ?_; rintro e w' ⟨rfl, rfl⟩)
            | (at_builtin; refine push1 rfl _ _ rfl HO2.out s[k] (s[k].toNat : Int) rfl 5 rfl rfl (by rw [List.length_append]; omega) ?_))
          intro v1 w1 hO1 hb1
          go_wp2
          go_roundw
          case rel => exact ⟨k + 1, by omega, by omega, by go_num, by go_num, by rw [HN.out]; simpa using hO1, hb2.trans hb1⟩
          case measure => simp [intOf]; omega
        · have hkp : k = p2 := by omega
          subst k
          have hfz : (((p2 : Nat) : Int) - ((p1 : Int) + 1) == 0) = false := beq_eq_false_iff_ne.2 (by omega)
          have h101 : (s[p2].toNat : Int) = 101 := by simpa using he
          have hnd2 : 57 < (s[p2].toNat : Int) := by omega
          clear h101
          go_wp2_with (go_at_call 15; refine (isd_high _ _ hnd2).mono ?_; rintro e w' ⟨rfl, rfl⟩)
          go_loop [6, 11, 13] (fun i ev nd => ∃ (k v : Nat), p2 + 2 ≤ k ∧ k ≤ s.size ∧ i = .int .i64 (k : Int) ∧ ev = .int .i64 (v : Int) ∧ nd = .int .i64 ((k : Int) - ((p2 : Int) + 2)) ∧ Hid (v = val ((s.data.toList.drop (p2 + 2)).take (k - (p2 + 2))))) (fun i _ _ => s.size - (intOf i).toNat)
          case atStart => exact ⟨p2 + 2, 0, by omega, by omega, by go_num, rfl, by go_num, by show _ = _; simp [val]⟩
          case round =>
            obtain ⟨k, v, hka3, hkb3, rfl, rfl, rfl, HVk⟩ := hrel
            by_cases hlt3 : k < s.size
            · obtain ⟨d1, d2⟩ := H3.out k hlt3 hka3
              have d1' : (48 : Int) ≤ (s[k].toNat : Int) := by omega
              have d2' : (s[k].toNat : Int) ≤ 57 := by omega
              have HN := Lib.hid (val_next s (p2 + 2) k hka3 hlt3 d1)
              have hv1 : v * 10 ≤ V := by rw [HVk.out]; exact val_bound s (p2 + 2) k V hka3 hlt3 HV.out
              have hv2 : v ≤ 461168601842748790 := by omega
              have hv3 : (v : Int) * 10 + ((s[k].toNat : Int) - 48) ≤ 4611686018427487913 := by omega
              clear d1 d2 hv1
              go_wp2_with (go_at_call 15; refine (isd_yes _ _ d1' d2').mono ?_; rintro e w' ⟨rfl, rfl⟩)
              go_round
              case rel => exact ⟨k + 1, val ((s.data.toList.drop (p2 + 2)).take (k + 1 - (p2 + 2))), by omega, by omega, by go_num, by rw [HN.out, ← HVk.out], by go_num, rfl⟩
              case measure => simp [intOf]; omega
            · have hkp : k = s.size := by omega
              subst k
              have hvV : v = V := by rw [HVk.out, val_all s (p2 + 2) (by omega)]; exact HV.out
              subst v
              have hnz : (((s.size : Nat) : Int) - ((p2 : Int) + 2) == 0) = false := beq_eq_false_iff_ne.2 (by omega)
              go_wp2
              obtain ⟨t, ht⟩ : ∃ t : ByteArray, t = ⟨((s.data.toList.drop 1).take (p1 - 1) ++ (s.data.toList.drop (p1 + 1)).take (p2 - (p1 + 1))).toArray⟩ := ⟨_, rfl⟩
              have hcv := fun n => (HO2.out.drewN n).text (by intro e; exact piece_ne s 1 p1 ha (by omega) (List.append_eq_nil_iff.1 e).1)
              rw [← ht] at hcv
              have hcv0 := HO2.out.text (by intro e; exact piece_ne s 1 p1 ha (by omega) (List.append_eq_nil_iff.1 e).1)
              rw [← ht] at hcv0
              have HT : Hid (t.data.toList = (s.data.toList.drop 1).take (p1 - 1) ++ (s.data.toList.drop (p1 + 1)).take (p2 - (p1 + 1))) := by show t.data.toList = _; rw [ht]
              clear ht
              go_quiet (fail)
              go_wp2
              (try simp only [Exit.inBlock, Exit.then])
              refine bodyPost_ret (results_tmp4 rfl _ _ _) rfl ⟨t, -(V : Int) - ((p2 : Int) - ((p1 : Int) + 1)), ⟨HT.out, rfl⟩, ret_four (by omega), below_drewN hb2 _⟩

set_option maxHeartbeats 6400000 in
set_option maxRecDepth 100000 in
theorem parse_no_none_true (s : ByteArray) (w : World) (hs : s.size ≤ 300000) (h0 : 0 < s.size) (hsg : ((s[0].toNat : Int) == 45) = true) (ha : 1 < s.size) (H1 : Hid (∀ j (hj : j < s.size), 1 ≤ j → j < s.size → 48 ≤ s[j].toNat ∧ s[j].toNat ≤ 57))
    :
    Calls Tryd.prog 10 #[.string s] w fun e w' => ∃ (t : ByteArray) (g : Int), Hid (t.data.toList = (s.data.toList.drop 1).take (s.size - 1) ∧ g = 0 - 0) ∧ e = .returned (.tuple #[.bool true, .bool true, .string t, .int .i64 g]) ∧ Below w.heap.size w w' := by
  have HO0 : Hid (Out w.heap.size (.slice .none 0 0) [] w) := Out.nil w.heap.size w (Nat.le_refl _)
  go_enter Tryd.func10, Tryd.ntmps10
  go_wp2
  go_loopw [6, 8, 9] (fun i mv b wr => ∃ k : Nat, 1 ≤ k ∧ k ≤ s.size ∧ i = .int .i64 (k : Int) ∧ b = .int .i64 ((k : Int) - 1) ∧ Out w.heap.size mv ((s.data.toList.drop 1).take (k - 1)) wr ∧ Below w.heap.size w wr) (fun i _ _ _ => s.size - (intOf i).toNat)
  case atStart => exact ⟨1, by omega, by omega, rfl, by first | rfl | go_num, by simpa using HO0.out, Below.refl _ _⟩
  case round =>
    obtain ⟨k, hka, hkb, rfl, rfl, hO, hb⟩ := hrel
    have HO : Hid (Out w.heap.size u8 ((s.data.toList.drop 1).take (k - 1)) wr) := hO
    have hlen := piece_len s 1 (k - 1) hs
    clear hO
    by_cases hlt : k < s.size
    · have hks : k < s.size := by omega
      obtain ⟨d1, d2⟩ := H1.out k hks hka hlt
      have d1' : (48 : Int) ≤ (s[k].toNat : Int) := by omega
      have d2' : (s[k].toNat : Int) ≤ 57 := by omega
      have HN := Lib.hid (piece_next s 1 k hka hks)
      clear d1 d2
      go_wp2_with (first
        | (go_at_call 15; refine (isd_yes _ _ d1' d2').mono ?_; rintro e w' ⟨rfl, rfl⟩)
        | (at_builtin; refine push1 rfl _ _ rfl HO.out s[k] (s[k].toNat : Int) rfl 5 rfl rfl (by omega) ?_))
      intro v1 w1 hO1 hb1
      go_wp2
      go_roundw
      case rel => exact ⟨k + 1, by omega, by omega, by go_num, by go_num, by rw [HN.out]; simpa using hO1, hb.trans hb1⟩
      case measure => simp [intOf]; omega
    · have hkp : k = s.size := by omega
      subst k
      have hbz : (((s.size : Int) - 1) == 0) = false := beq_eq_false_iff_ne.2 (by omega)
      go_wp2
      obtain ⟨t, ht⟩ : ∃ t : ByteArray, t = ⟨((s.data.toList.drop 1).take (s.size - 1)).toArray⟩ := ⟨_, rfl⟩
      have hcv := fun n => (HO.out.drewN n).text (by intro e; exact piece_ne s 1 s.size ha (by omega) e)
      rw [← ht] at hcv
      have hcv0 := HO.out.text (by intro e; exact piece_ne s 1 s.size ha (by omega) e)
      rw [← ht] at hcv0
      have HT : Hid (t.data.toList = (s.data.toList.drop 1).take (s.size - 1)) := by show t.data.toList = _; rw [ht]
      clear ht
      go_quiet (fail)
      go_wp2
      (try simp only [Exit.inBlock, Exit.then])
      refine bodyPost_ret (results_tmp4 rfl _ _ _) rfl ⟨t, 0 - 0, ⟨HT.out, rfl⟩, ret_four (by omega), below_drewN hb _⟩

set_option maxHeartbeats 6400000 in
set_option maxRecDepth 100000 in
theorem parse_no_plus_true (s : ByteArray) (p1 : Nat) (V : Nat) (w : World) (hs : s.size ≤ 300000) (h0 : 0 < s.size) (hsg : ((s[0].toNat : Int) == 45) = true) (ha : 1 < p1) (H1 : Hid (∀ j (hj : j < s.size), 1 ≤ j → j < p1 → 48 ≤ s[j].toNat ∧ s[j].toNat ≤ 57))
    (hp1 : p1 < s.size) (he : ((s[p1].toNat : Int) == 101) = true) (hq1 : p1 + 2 < s.size) (hsn : ((s[p1 + 1].toNat : Int) == 43) = true) (hsm : ((s[p1 + 1].toNat : Int) == 45) = false)
    (H3 : Hid (∀ j (hj : j < s.size), p1 + 2 ≤ j → 48 ≤ s[j].toNat ∧ s[j].toNat ≤ 57)) (HV : Hid (val (s.data.toList.drop (p1 + 2)) = V)) (hV : V ≤ 4611686018427487904) :
    Calls Tryd.prog 10 #[.string s] w fun e w' => ∃ (t : ByteArray) (g : Int), Hid (t.data.toList = (s.data.toList.drop 1).take (p1 - 1) ∧ g = (V : Int) - 0) ∧ e = .returned (.tuple #[.bool true, .bool true, .string t, .int .i64 g]) ∧ Below w.heap.size w w' := by
  have HO0 : Hid (Out w.heap.size (.slice .none 0 0) [] w) := Out.nil w.heap.size w (Nat.le_refl _)
  go_enter Tryd.func10, Tryd.ntmps10
  go_wp2
  go_loopw [6, 8, 9] (fun i mv b wr => ∃ k : Nat, 1 ≤ k ∧ k ≤ p1 ∧ i = .int .i64 (k : Int) ∧ b = .int .i64 ((k : Int) - 1) ∧ Out w.heap.size mv ((s.data.toList.drop 1).take (k - 1)) wr ∧ Below w.heap.size w wr) (fun i _ _ _ => p1 - (intOf i).toNat)
  case atStart => exact ⟨1, by omega, by omega, rfl, by first | rfl | go_num, by simpa using HO0.out, Below.refl _ _⟩
  case round =>
    obtain ⟨k, hka, hkb, rfl, rfl, hO, hb⟩ := hrel
    have HO : Hid (Out w.heap.size u8 ((s.data.toList.drop 1).take (k - 1)) wr) := hO
    have hlen := piece_len s 1 (k - 1) hs
    clear hO
    by_cases hlt : k < p1
    · have hks : k < s.size := by omega
      obtain ⟨d1, d2⟩ := H1.out k hks hka hlt
      have d1' : (48 : Int) ≤ (s[k].toNat : Int) := by omega
      have d2' : (s[k].toNat : Int) ≤ 57 := by omega
      have HN := Lib.hid (piece_next s 1 k hka hks)
      clear d1 d2
      go_wp2_with (first
        | (go_at_call 15; refine (isd_yes _ _ d1' d2').mono ?_; rintro e w' ⟨rfl, rfl⟩)
        | (at_builtin; refine push1 rfl _ _ rfl HO.out s[k] (s[k].toNat : Int) rfl 5 rfl rfl (by omega) ?_))
      intro v1 w1 hO1 hb1
      go_wp2
      go_roundw
      case rel => exact ⟨k + 1, by omega, by omega, by go_num, by go_num, by rw [HN.out]; simpa using hO1, hb.trans hb1⟩
      case measure => simp [intOf]; omega
    · have hkp : k = p1 := by omega
      subst k
      have hbz : (((p1 : Int) - 1) == 0) = false := beq_eq_false_iff_ne.2 (by omega)
      have h101 : (s[p1].toNat : Int) = 101 := by simpa using he
      have hnd : 57 < (s[p1].toNat : Int) := by omega
      have hdot : ((s[p1].toNat : Int) == 46) = false := beq_eq_false_iff_ne.2 (by omega)
      clear h101
      go_wp2_with (go_at_call 15; refine (isd_high _ _ hnd).mono ?_; rintro e w' ⟨rfl, rfl⟩)
      go_loop [6, 11, 13] (fun i ev nd => ∃ (k v : Nat), p1 + 2 ≤ k ∧ k ≤ s.size ∧ i = .int .i64 (k : Int) ∧ ev = .int .i64 (v : Int) ∧ nd = .int .i64 ((k : Int) - ((p1 : Int) + 2)) ∧ Hid (v = val ((s.data.toList.drop (p1 + 2)).take (k - (p1 + 2))))) (fun i _ _ => s.size - (intOf i).toNat)
      case atStart => exact ⟨p1 + 2, 0, by omega, by omega, by go_num, rfl, by go_num, by show _ = _; simp [val]⟩
      case round =>
        obtain ⟨k, v, hka3, hkb3, rfl, rfl, rfl, HVk⟩ := hrel
        by_cases hlt3 : k < s.size
        · obtain ⟨d1, d2⟩ := H3.out k hlt3 hka3
          have d1' : (48 : Int) ≤ (s[k].toNat : Int) := by omega
          have d2' : (s[k].toNat : Int) ≤ 57 := by omega
          have HN := Lib.hid (val_next s (p1 + 2) k hka3 hlt3 d1)
          have hv1 : v * 10 ≤ V := by rw [HVk.out]; exact val_bound s (p1 + 2) k V hka3 hlt3 HV.out
          have hv2 : v ≤ 461168601842748790 := by omega
          have hv3 : (v : Int) * 10 + ((s[k].toNat : Int) - 48) ≤ 4611686018427487913 := by omega
          clear d1 d2 hv1
          go_wp2_with (go_at_call 15; refine (isd_yes _ _ d1' d2').mono ?_; rintro e w' ⟨rfl, rfl⟩)
          go_round
          case rel => exact ⟨k + 1, val ((s.data.toList.drop (p1 + 2)).take (k + 1 - (p1 + 2))), by omega, by omega, by go_num, by rw [HN.out, ← HVk.out], by go_num, rfl⟩
          case measure => simp [intOf]; omega
        · have hkp : k = s.size := by omega
          subst k
          have hvV : v = V := by rw [HVk.out, val_all s (p1 + 2) (by omega)]; exact HV.out
          subst v
          have hnz : (((s.size : Nat) : Int) - ((p1 : Int) + 2) == 0) = false := beq_eq_false_iff_ne.2 (by omega)
          go_wp2
          obtain ⟨t, ht⟩ : ∃ t : ByteArray, t = ⟨((s.data.toList.drop 1).take (p1 - 1)).toArray⟩ := ⟨_, rfl⟩
          have hcv := fun n => (HO.out.drewN n).text (by intro e; exact piece_ne s 1 p1 ha (by omega) e)
          rw [← ht] at hcv
          have hcv0 := HO.out.text (by intro e; exact piece_ne s 1 p1 ha (by omega) e)
          rw [← ht] at hcv0
          have HT : Hid (t.data.toList = (s.data.toList.drop 1).take (p1 - 1)) := by show t.data.toList = _; rw [ht]
          clear ht
          go_quiet (fail)
          go_wp2
          (try simp only [Exit.inBlock, Exit.then])
          refine bodyPost_ret (results_tmp4 rfl _ _ _) rfl ⟨t, (V : Int) - 0, ⟨HT.out, rfl⟩, ret_four (by omega), below_drewN hb _⟩

set_option maxHeartbeats 6400000 in
set_option maxRecDepth 100000 in
theorem parse_no_minus_true (s : ByteArray) (p1 : Nat) (V : Nat) (w : World) (hs : s.size ≤ 300000) (h0 : 0 < s.size) (hsg : ((s[0].toNat : Int) == 45) = true) (ha : 1 < p1) (H1 : Hid (∀ j (hj : j < s.size), 1 ≤ j → j < p1 → 48 ≤ s[j].toNat ∧ s[j].toNat ≤ 57))
    (hp1 : p1 < s.size) (he : ((s[p1].toNat : Int) == 101) = true) (hq1 : p1 + 2 < s.size) (hsn : ((s[p1 + 1].toNat : Int) == 43) = false) (hsm : ((s[p1 + 1].toNat : Int) == 45) = true)
    (H3 : Hid (∀ j (hj : j < s.size), p1 + 2 ≤ j → 48 ≤ s[j].toNat ∧ s[j].toNat ≤ 57)) (HV : Hid (val (s.data.toList.drop (p1 + 2)) = V)) (hV : V ≤ 4611686018427487904) :
    Calls Tryd.prog 10 #[.string s] w fun e w' => ∃ (t : ByteArray) (g : Int), Hid (t.data.toList = (s.data.toList.drop 1).take (p1 - 1) ∧ g = -(V : Int) - 0) ∧ e = .returned (.tuple #[.bool true, .bool true, .string t, .int .i64 g]) ∧ Below w.heap.size w w' := by
  have HO0 : Hid (Out w.heap.size (.slice .none 0 0) [] w) := Out.nil w.heap.size w (Nat.le_refl _)
  go_enter Tryd.func10, Tryd.ntmps10
  go_wp2
  go_loopw [6, 8, 9] (fun i mv b wr => ∃ k : Nat, 1 ≤ k ∧ k ≤ p1 ∧ i = .int .i64 (k : Int) ∧ b = .int .i64 ((k : Int) - 1) ∧ Out w.heap.size mv ((s.data.toList.drop 1).take (k - 1)) wr ∧ Below w.heap.size w wr) (fun i _ _ _ => p1 - (intOf i).toNat)
  case atStart => exact ⟨1, by omega, by omega, rfl, by first | rfl | go_num, by simpa using HO0.out, Below.refl _ _⟩
  case round =>
    obtain ⟨k, hka, hkb, rfl, rfl, hO, hb⟩ := hrel
    have HO : Hid (Out w.heap.size u8 ((s.data.toList.drop 1).take (k - 1)) wr) := hO
    have hlen := piece_len s 1 (k - 1) hs
    clear hO
    by_cases hlt : k < p1
    · have hks : k < s.size := by omega
      obtain ⟨d1, d2⟩ := H1.out k hks hka hlt
      have d1' : (48 : Int) ≤ (s[k].toNat : Int) := by omega
      have d2' : (s[k].toNat : Int) ≤ 57 := by omega
      have HN := Lib.hid (piece_next s 1 k hka hks)
      clear d1 d2
      go_wp2_with (first
        | (go_at_call 15; refine (isd_yes _ _ d1' d2').mono ?_; rintro e w' ⟨rfl, rfl⟩)
        | (at_builtin; refine push1 rfl _ _ rfl HO.out s[k] (s[k].toNat : Int) rfl 5 rfl rfl (by omega) ?_))
      intro v1 w1 hO1 hb1
      go_wp2
      go_roundw
      case rel => exact ⟨k + 1, by omega, by omega, by go_num, by go_num, by rw [HN.out]; simpa using hO1, hb.trans hb1⟩
      case measure => simp [intOf]; omega
    · have hkp : k = p1 := by omega
      subst k
      have hbz : (((p1 : Int) - 1) == 0) = false := beq_eq_false_iff_ne.2 (by omega)
      have h101 : (s[p1].toNat : Int) = 101 := by simpa using he
      have hnd : 57 < (s[p1].toNat : Int) := by omega
      have hdot : ((s[p1].toNat : Int) == 46) = false := beq_eq_false_iff_ne.2 (by omega)
      clear h101
      go_wp2_with (go_at_call 15; refine (isd_high _ _ hnd).mono ?_; rintro e w' ⟨rfl, rfl⟩)
      go_loop [6, 11, 13] (fun i ev nd => ∃ (k v : Nat), p1 + 2 ≤ k ∧ k ≤ s.size ∧ i = .int .i64 (k : Int) ∧ ev = .int .i64 (v : Int) ∧ nd = .int .i64 ((k : Int) - ((p1 : Int) + 2)) ∧ Hid (v = val ((s.data.toList.drop (p1 + 2)).take (k - (p1 + 2))))) (fun i _ _ => s.size - (intOf i).toNat)
      case atStart => exact ⟨p1 + 2, 0, by omega, by omega, by go_num, rfl, by go_num, by show _ = _; simp [val]⟩
      case round =>
        obtain ⟨k, v, hka3, hkb3, rfl, rfl, rfl, HVk⟩ := hrel
        by_cases hlt3 : k < s.size
        · obtain ⟨d1, d2⟩ := H3.out k hlt3 hka3
          have d1' : (48 : Int) ≤ (s[k].toNat : Int) := by omega
          have d2' : (s[k].toNat : Int) ≤ 57 := by omega
          have HN := Lib.hid (val_next s (p1 + 2) k hka3 hlt3 d1)
          have hv1 : v * 10 ≤ V := by rw [HVk.out]; exact val_bound s (p1 + 2) k V hka3 hlt3 HV.out
          have hv2 : v ≤ 461168601842748790 := by omega
          have hv3 : (v : Int) * 10 + ((s[k].toNat : Int) - 48) ≤ 4611686018427487913 := by omega
          clear d1 d2 hv1
          go_wp2_with (go_at_call 15; refine (isd_yes _ _ d1' d2').mono ?_; rintro e w' ⟨rfl, rfl⟩)
          go_round
          case rel => exact ⟨k + 1, val ((s.data.toList.drop (p1 + 2)).take (k + 1 - (p1 + 2))), by omega, by omega, by go_num, by rw [HN.out, ← HVk.out], by go_num, rfl⟩
          case measure => simp [intOf]; omega
        · have hkp : k = s.size := by omega
          subst k
          have hvV : v = V := by rw [HVk.out, val_all s (p1 + 2) (by omega)]; exact HV.out
          subst v
          have hnz : (((s.size : Nat) : Int) - ((p1 : Int) + 2) == 0) = false := beq_eq_false_iff_ne.2 (by omega)
          go_wp2
          obtain ⟨t, ht⟩ : ∃ t : ByteArray, t = ⟨((s.data.toList.drop 1).take (p1 - 1)).toArray⟩ := ⟨_, rfl⟩
          have hcv := fun n => (HO.out.drewN n).text (by intro e; exact piece_ne s 1 p1 ha (by omega) e)
          rw [← ht] at hcv
          have hcv0 := HO.out.text (by intro e; exact piece_ne s 1 p1 ha (by omega) e)
          rw [← ht] at hcv0
          have HT : Hid (t.data.toList = (s.data.toList.drop 1).take (p1 - 1)) := by show t.data.toList = _; rw [ht]
          clear ht
          go_quiet (fail)
          go_wp2
          (try simp only [Exit.inBlock, Exit.then])
          refine bodyPost_ret (results_tmp4 rfl _ _ _) rfl ⟨t, -(V : Int) - 0, ⟨HT.out, rfl⟩, ret_four (by omega), below_drewN hb _⟩

set_option maxHeartbeats 6400000 in
set_option maxRecDepth 100000 in
theorem parse_pt_none_false (s : ByteArray) (p1 : Nat) (w : World) (hs : s.size ≤ 300000) (h0 : 0 < s.size) (hsg : ((s[0].toNat : Int) == 45) = false) (ha : 0 < p1) (H1 : Hid (∀ j (hj : j < s.size), 0 ≤ j → j < p1 → 48 ≤ s[j].toNat ∧ s[j].toNat ≤ 57))
    (hp1 : p1 < s.size) (hdot : ((s[p1].toNat : Int) == 46) = true) (hp2 : p1 + 1 < s.size) (H2 : Hid (∀ j (hj : j < s.size), p1 + 1 ≤ j → j < s.size → 48 ≤ s[j].toNat ∧ s[j].toNat ≤ 57))
    :
    Calls Tryd.prog 10 #[.string s] w fun e w' => ∃ (t : ByteArray) (g : Int), Hid (t.data.toList = (s.data.toList.drop 0).take (p1 - 0) ++ (s.data.toList.drop (p1 + 1)).take (s.size - (p1 + 1)) ∧ g = 0 - ((s.size : Int) - ((p1 : Int) + 1))) ∧ e = .returned (.tuple #[.bool true, .bool false, .string t, .int .i64 g]) ∧ Below w.heap.size w w' := by
  have HO0 : Hid (Out w.heap.size (.slice .none 0 0) [] w) := Out.nil w.heap.size w (Nat.le_refl _)
  go_enter Tryd.func10, Tryd.ntmps10
  go_wp2
  go_loopw [6, 8, 9] (fun i mv b wr => ∃ k : Nat, 0 ≤ k ∧ k ≤ p1 ∧ i = .int .i64 (k : Int) ∧ b = .int .i64 (k : Int) ∧ Out w.heap.size mv ((s.data.toList.drop 0).take (k - 0)) wr ∧ Below w.heap.size w wr) (fun i _ _ _ => p1 - (intOf i).toNat)
  case atStart => exact ⟨0, by omega, by omega, rfl, by first | rfl | go_num, by simpa using HO0.out, Below.refl _ _⟩
  case round =>
    obtain ⟨k, hka, hkb, rfl, rfl, hO, hb⟩ := hrel
    have HO : Hid (Out w.heap.size u8 ((s.data.toList.drop 0).take (k - 0)) wr) := hO
    have hlen := piece_len s 0 (k - 0) hs
    clear hO
    by_cases hlt : k < p1
    · have hks : k < s.size := by omega
      obtain ⟨d1, d2⟩ := H1.out k hks hka hlt
      have d1' : (48 : Int) ≤ (s[k].toNat : Int) := by omega
      have d2' : (s[k].toNat : Int) ≤ 57 := by omega
      have HN := Lib.hid (piece_next s 0 k hka hks)
      clear d1 d2
      go_wp2_with (first
        | (go_at_call 15; refine (isd_yes _ _ d1' d2').mono ?_; rintro e w' ⟨rfl, rfl⟩)
        | (at_builtin; refine push1 rfl _ _ rfl HO.out s[k] (s[k].toNat : Int) rfl 5 rfl rfl (by omega) ?_))
      intro v1 w1 hO1 hb1
      go_wp2
      go_roundw
      case rel => exact ⟨k + 1, by omega, by omega, by go_num, by go_num, by rw [HN.out]; simpa using hO1, hb.trans hb1⟩
      case measure => simp [intOf]; omega
    · have hkp : k = p1 := by omega
      subst k
      have hbz : ((p1 : Int) == 0) = false := beq_eq_false_iff_ne.2 (by omega)
      have h46 : (s[p1].toNat : Int) = 46 := by simpa using hdot
      have hnd : (s[p1].toNat : Int) < 48 := by omega
      clear h46
      go_wp2_with (go_at_call 15; refine (isd_low _ _ hnd).mono ?_; rintro e w' ⟨rfl, rfl⟩)
      go_loopw [6, 8, 10] (fun i mv f wx => ∃ k : Nat, p1 + 1 ≤ k ∧ k ≤ s.size ∧ i = .int .i64 (k : Int) ∧ f = .int .i64 ((k : Int) - ((p1 : Int) + 1)) ∧ Out w.heap.size mv ((s.data.toList.drop 0).take (p1 - 0) ++ (s.data.toList.drop (p1 + 1)).take (k - (p1 + 1))) wx ∧ Below w.heap.size w wx) (fun i _ _ _ => s.size - (intOf i).toNat)
      case atStart => exact ⟨p1 + 1, by omega, by omega, by go_num, by go_num, by simpa using HO.out, hb⟩
      case round =>
        obtain ⟨k, hka2, hkb2, rfl, rfl, hO2, hb2⟩ := hrel
        have HO2 : Hid (Out w.heap.size u8 ((s.data.toList.drop 0).take (p1 - 0) ++ (s.data.toList.drop (p1 + 1)).take (k - (p1 + 1))) wr) := hO2
        have hlen2 := piece_len s (p1 + 1) (k - (p1 + 1)) hs
        clear hO2
        by_cases hlt2 : k < s.size
        · have hks : k < s.size := by omega
          obtain ⟨d1, d2⟩ := H2.out k hks hka2 hlt2
          have d1' : (48 : Int) ≤ (s[k].toNat : Int) := by omega
          have d2' : (s[k].toNat : Int) ≤ 57 := by omega
          have HN := Lib.hid (piece_next s (p1 + 1) k hka2 hks)
          clear d1 d2
          go_wp2_with (first
            | (go_at_call 15; refine (isd_yes _ _ d1' d2').mono ?_; rintro e w' ⟨rfl, rfl⟩)
            | (at_builtin; refine push1 rfl _ _ rfl HO2.out s[k] (s[k].toNat : Int) rfl 5 rfl rfl (by rw [List.length_append]; omega) ?_))
          intro v1 w1 hO1 hb1
          go_wp2
          go_roundw
          case rel => exact ⟨k + 1, by omega, by omega, by go_num, by go_num, by rw [HN.out]; simpa using hO1, hb2.trans hb1⟩
          case measure => simp [intOf]; omega
        · have hkp : k = s.size := by omega
          subst k
          have hfz : (((s.size : Nat) : Int) - ((p1 : Int) + 1) == 0) = false := beq_eq_false_iff_ne.2 (by omega)
          go_wp2
          obtain ⟨t, ht⟩ : ∃ t : ByteArray, t = ⟨((s.data.toList.drop 0).take (p1 - 0) ++ (s.data.toList.drop (p1 + 1)).take (s.size - (p1 + 1))).toArray⟩ := ⟨_, rfl⟩
          have hcv := fun n => (HO2.out.drewN n).text (by intro e; exact piece_ne s 0 p1 ha (by omega) (List.append_eq_nil_iff.1 e).1)
          rw [← ht] at hcv
          have hcv0 := HO2.out.text (by intro e; exact piece_ne s 0 p1 ha (by omega) (List.append_eq_nil_iff.1 e).1)
          rw [← ht] at hcv0
          have HT : Hid (t.data.toList = (s.data.toList.drop 0).take (p1 - 0) ++ (s.data.toList.drop (p1 + 1)).take (s.size - (p1 + 1))) := by show t.data.toList = _; rw [ht]
          clear ht
          go_quiet (fail)
          go_wp2
          (try simp only [Exit.inBlock, Exit.then])
          refine bodyPost_ret (results_tmp4 rfl _ _ _) rfl ⟨t, 0 - ((s.size : Int) - ((p1 : Int) + 1)), ⟨HT.out, rfl⟩, ret_four (by omega), below_drewN hb2 _⟩

set_option maxHeartbeats 6400000 in
set_option maxRecDepth 100000 in
theorem parse_pt_plus_false (s : ByteArray) (p1 : Nat) (p2 : Nat) (V : Nat) (w : World) (hs : s.size ≤ 300000) (h0 : 0 < s.size) (hsg : ((s[0].toNat : Int) == 45) = false) (ha : 0 < p1) (H1 : Hid (∀ j (hj : j < s.size), 0 ≤ j → j < p1 → 48 ≤ s[j].toNat ∧ s[j].toNat ≤ 57))
    (hp1 : p1 < s.size) (hdot : ((s[p1].toNat : Int) == 46) = true) (hp2 : p1 + 1 < p2) (H2 : Hid (∀ j (hj : j < s.size), p1 + 1 ≤ j → j < p2 → 48 ≤ s[j].toNat ∧ s[j].toNat ≤ 57))
    (hp2s : p2 < s.size) (he : ((s[p2].toNat : Int) == 101) = true) (hq1 : p2 + 2 < s.size) (hsn : ((s[p2 + 1].toNat : Int) == 43) = true) (hsm : ((s[p2 + 1].toNat : Int) == 45) = false)
    (H3 : Hid (∀ j (hj : j < s.size), p2 + 2 ≤ j → 48 ≤ s[j].toNat ∧ s[j].toNat ≤ 57)) (HV : Hid (val (s.data.toList.drop (p2 + 2)) = V)) (hV : V ≤ 4611686018427487904) :
    Calls Tryd.prog 10 #[.string s] w fun e w' => ∃ (t : ByteArray) (g : Int), Hid (t.data.toList = (s.data.toList.drop 0).take (p1 - 0) ++ (s.data.toList.drop (p1 + 1)).take (p2 - (p1 + 1)) ∧ g = (V : Int) - ((p2 : Int) - ((p1 : Int) + 1))) ∧ e = .returned (.tuple #[.bool true, .bool false, .string t, .int .i64 g]) ∧ Below w.heap.size w w' := by
  have HO0 : Hid (Out w.heap.size (.slice .none 0 0) [] w) := Out.nil w.heap.size w (Nat.le_refl _)
  go_enter Tryd.func10, Tryd.ntmps10
  go_wp2
  go_loopw [6, 8, 9] (fun i mv b wr => ∃ k : Nat, 0 ≤ k ∧ k ≤ p1 ∧ i = .int .i64 (k : Int) ∧ b = .int .i64 (k : Int) ∧ Out w.heap.size mv ((s.data.toList.drop 0).take (k - 0)) wr ∧ Below w.heap.size w wr) (fun i _ _ _ => p1 - (intOf i).toNat)
  case atStart => exact ⟨0, by omega, by omega, rfl, by first | rfl | go_num, by simpa using HO0.out, Below.refl _ _⟩
  case round =>
    obtain ⟨k, hka, hkb, rfl, rfl, hO, hb⟩ := hrel
    have HO : Hid (Out w.heap.size u8 ((s.data.toList.drop 0).take (k - 0)) wr) := hO
    have hlen := piece_len s 0 (k - 0) hs
    clear hO
    by_cases hlt : k < p1
    · have hks : k < s.size := by omega
      obtain ⟨d1, d2⟩ := H1.out k hks hka hlt
      have d1' : (48 : Int) ≤ (s[k].toNat : Int) := by omega
      have d2' : (s[k].toNat : Int) ≤ 57 := by omega
      have HN := Lib.hid (piece_next s 0 k hka hks)
      clear d1 d2
      go_wp2_with (first
        | (go_at_call 15; refine (isd_yes _ _ d1' d2').mono ?_; rintro e w' ⟨rfl, rfl⟩)
        | (at_builtin; refine push1 rfl _ _ rfl HO.out s[k] (s[k].toNat : Int) rfl 5 rfl rfl (by omega) ?_))
      intro v1 w1 hO1 hb1
      go_wp2
      go_roundw
      case rel => exact ⟨k + 1, by omega, by omega, by go_num, by go_num, by rw [HN.out]; simpa using hO1, hb.trans hb1⟩
      case measure => simp [intOf]; omega
    · have hkp : k = p1 := by omega
      subst k
      have hbz : ((p1 : Int) == 0) = false := beq_eq_false_iff_ne.2 (by omega)
      have h46 : (s[p1].toNat : Int) = 46 := by simpa using hdot
      have hnd : (s[p1].toNat : Int) < 48 := by omega
      clear h46
      go_wp2_with (go_at_call 15; refine (isd_low _ _ hnd).mono ?_; rintro e w' ⟨rfl, rfl⟩)
      go_loopw [6, 8, 10] (fun i mv f wx => ∃ k : Nat, p1 + 1 ≤ k ∧ k ≤ p2 ∧ i = .int .i64 (k : Int) ∧ f = .int .i64 ((k : Int) - ((p1 : Int) + 1)) ∧ Out w.heap.size mv ((s.data.toList.drop 0).take (p1 - 0) ++ (s.data.toList.drop (p1 + 1)).take (k - (p1 + 1))) wx ∧ Below w.heap.size w wx) (fun i _ _ _ => p2 - (intOf i).toNat)
      case atStart => exact ⟨p1 + 1, by omega, by omega, by go_num, by go_num, by simpa using HO.out, hb⟩
      case round =>
        obtain ⟨k, hka2, hkb2, rfl, rfl, hO2, hb2⟩ := hrel
        have HO2 : Hid (Out w.heap.size u8 ((s.data.toList.drop 0).take (p1 - 0) ++ (s.data.toList.drop (p1 + 1)).take (k - (p1 + 1))) wr) := hO2
        have hlen2 := piece_len s (p1 + 1) (k - (p1 + 1)) hs
        clear hO2
        by_cases hlt2 : k < p2
        · have hks : k < s.size := by omega
          obtain ⟨d1, d2⟩ := H2.out k hks hka2 hlt2
          have d1' : (48 : Int) ≤ (s[k].toNat : Int) := by omega
          have d2' : (s[k].toNat : Int) ≤ 57 := by omega
          have HN := Lib.hid (piece_next s (p1 + 1) k hka2 hks)
          clear d1 d2
          go_wp2_with (first
            | (go_at_call 15; refine (isd_yes _ _ d1' d2').mono ?_; rintro e w' ⟨rfl, rfl⟩)
            | (at_builtin; refine push1 rfl _ _ rfl HO2.out s[k] (s[k].toNat : Int) rfl 5 rfl rfl (by rw [List.length_append]; omega) ?_))
          intro v1 w1 hO1 hb1
          go_wp2
          go_roundw
          case rel => exact ⟨k + 1, by omega, by omega, by go_num, by go_num, by rw [HN.out]; simpa using hO1, hb2.trans hb1⟩
          case measure => simp [intOf]; omega
        · have hkp : k = p2 := by omega
          subst k
          have hfz : (((p2 : Nat) : Int) - ((p1 : Int) + 1) == 0) = false := beq_eq_false_iff_ne.2 (by omega)
          have h101 : (s[p2].toNat : Int) = 101 := by simpa using he
          have hnd2 : 57 < (s[p2].toNat : Int) := by omega
          clear h101
          go_wp2_with (go_at_call 15; refine (isd_high _ _ hnd2).mono ?_; rintro e w' ⟨rfl, rfl⟩)
          go_loop [6, 11, 13] (fun i ev nd => ∃ (k v : Nat), p2 + 2 ≤ k ∧ k ≤ s.size ∧ i = .int .i64 (k : Int) ∧ ev = .int .i64 (v : Int) ∧ nd = .int .i64 ((k : Int) - ((p2 : Int) + 2)) ∧ Hid (v = val ((s.data.toList.drop (p2 + 2)).take (k - (p2 + 2))))) (fun i _ _ => s.size - (intOf i).toNat)
          case atStart => exact ⟨p2 + 2, 0, by omega, by omega, by go_num, rfl, by go_num, by show _ = _; simp [val]⟩
          case round =>
            obtain ⟨k, v, hka3, hkb3, rfl, rfl, rfl, HVk⟩ := hrel
            by_cases hlt3 : k < s.size
            · obtain ⟨d1, d2⟩ := H3.out k hlt3 hka3
              have d1' : (48 : Int) ≤ (s[k].toNat : Int) := by omega
              have d2' : (s[k].toNat : Int) ≤ 57 := by omega
              have HN := Lib.hid (val_next s (p2 + 2) k hka3 hlt3 d1)
              have hv1 : v * 10 ≤ V := by rw [HVk.out]; exact val_bound s (p2 + 2) k V hka3 hlt3 HV.out
              have hv2 : v ≤ 461168601842748790 := by omega
              have hv3 : (v : Int) * 10 + ((s[k].toNat : Int) - 48) ≤ 4611686018427487913 := by omega
              clear d1 d2 hv1
              go_wp2_with (go_at_call 15; refine (isd_yes _ _ d1' d2').mono ?_; rintro e w' ⟨rfl, rfl⟩)
              go_round
              case rel => exact ⟨k + 1, val ((s.data.toList.drop (p2 + 2)).take (k + 1 - (p2 + 2))), by omega, by omega, by go_num, by rw [HN.out, ← HVk.out], by go_num, rfl⟩
              case measure => simp [intOf]; omega
            · have hkp : k = s.size := by omega
              subst k
              have hvV : v = V := by rw [HVk.out, val_all s (p2 + 2) (by omega)]; exact HV.out
              subst v
              have hnz : (((s.size : Nat) : Int) - ((p2 : Int) + 2) == 0) = false := beq_eq_false_iff_ne.2 (by omega)
              go_wp2
              obtain ⟨t, ht⟩ : ∃ t : ByteArray, t = ⟨((s.data.toList.drop 0).take (p1 - 0) ++ (s.data.toList.drop (p1 + 1)).take (p2 - (p1 + 1))).toArray⟩ := ⟨_, rfl⟩
              have hcv := fun n => (HO2.out.drewN n).text (by intro e; exact piece_ne s 0 p1 ha (by omega) (List.append_eq_nil_iff.1 e).1)
              rw [← ht] at hcv
              have hcv0 := HO2.out.text (by intro e; exact piece_ne s 0 p1 ha (by omega) (List.append_eq_nil_iff.1 e).1)
              rw [← ht] at hcv0
              have HT : Hid (t.data.toList = (s.data.toList.drop 0).take (p1 - 0) ++ (s.data.toList.drop (p1 + 1)).take (p2 - (p1 + 1))) := by show t.data.toList = _; rw [ht]
              clear ht
              go_quiet (fail)
              go_wp2
              (try simp only [Exit.inBlock, Exit.then])
              refine bodyPost_ret (results_tmp4 rfl _ _ _) rfl ⟨t, (V : Int) - ((p2 : Int) - ((p1 : Int) + 1)), ⟨HT.out, rfl⟩, ret_four (by omega), below_drewN hb2 _⟩

set_option maxHeartbeats 6400000 in
set_option maxRecDepth 100000 in
theorem parse_pt_minus_false (s : ByteArray) (p1 : Nat) (p2 : Nat) (V : Nat) (w : World) (hs : s.size ≤ 300000) (h0 : 0 < s.size) (hsg : ((s[0].toNat : Int) == 45) = false) (ha : 0 < p1) (H1 : Hid (∀ j (hj : j < s.size), 0 ≤ j → j < p1 → 48 ≤ s[j].toNat ∧ s[j].toNat ≤ 57))
    (hp1 : p1 < s.size) (hdot : ((s[p1].toNat : Int) == 46) = true) (hp2 : p1 + 1 < p2) (H2 : Hid (∀ j (hj : j < s.size), p1 + 1 ≤ j → j < p2 → 48 ≤ s[j].toNat ∧ s[j].toNat ≤ 57))
    (hp2s : p2 < s.size) (he : ((s[p2].toNat : Int) == 101) = true) (hq1 : p2 + 2 < s.size) (hsn : ((s[p2 + 1].toNat : Int) == 43) = false) (hsm : ((s[p2 + 1].toNat : Int) == 45) = true)
    (H3 : Hid (∀ j (hj : j < s.size), p2 + 2 ≤ j → 48 ≤ s[j].toNat ∧ s[j].toNat ≤ 57)) (HV : Hid (val (s.data.toList.drop (p2 + 2)) = V)) (hV : V ≤ 4611686018427487904) :
    Calls Tryd.prog 10 #[.string s] w fun e w' => ∃ (t : ByteArray) (g : Int), Hid (t.data.toList = (s.data.toList.drop 0).take (p1 - 0) ++ (s.data.toList.drop (p1 + 1)).take (p2 - (p1 + 1)) ∧ g = -(V : Int) - ((p2 : Int) - ((p1 : Int) + 1))) ∧ e = .returned (.tuple #[.bool true, .bool false, .string t, .int .i64 g]) ∧ Below w.heap.size w w' := by
  have HO0 : Hid (Out w.heap.size (.slice .none 0 0) [] w) := Out.nil w.heap.size w (Nat.le_refl _)
  go_enter Tryd.func10, Tryd.ntmps10
  go_wp2
  go_loopw [6, 8, 9] (fun i mv b wr => ∃ k : Nat, 0 ≤ k ∧ k ≤ p1 ∧ i = .int .i64 (k : Int) ∧ b = .int .i64 (k : Int) ∧ Out w.heap.size mv ((s.data.toList.drop 0).take (k - 0)) wr ∧ Below w.heap.size w wr) (fun i _ _ _ => p1 - (intOf i).toNat)
  case atStart => exact ⟨0, by omega, by omega, rfl, by first | rfl | go_num, by simpa using HO0.out, Below.refl _ _⟩
  case round =>
    obtain ⟨k, hka, hkb, rfl, rfl, hO, hb⟩ := hrel
    have HO : Hid (Out w.heap.size u8 ((s.data.toList.drop 0).take (k - 0)) wr) := hO
    have hlen := piece_len s 0 (k - 0) hs
    clear hO
    by_cases hlt : k < p1
    · have hks : k < s.size := by omega
      obtain ⟨d1, d2⟩ := H1.out k hks hka hlt
      have d1' : (48 : Int) ≤ (s[k].toNat : Int) := by omega
      have d2' : (s[k].toNat : Int) ≤ 57 := by omega
      have HN := Lib.hid (piece_next s 0 k hka hks)
      clear d1 d2
      go_wp2_with (first
        | (go_at_call 15; refine (isd_yes _ _ d1' d2').mono ?_; rintro e w' ⟨rfl, rfl⟩)
        | (at_builtin; refine push1 rfl _ _ rfl HO.out s[k] (s[k].toNat : Int) rfl 5 rfl rfl (by omega) ?_))
      intro v1 w1 hO1 hb1
      go_wp2
      go_roundw
      case rel => exact ⟨k + 1, by omega, by omega, by go_num, by go_num, by rw [HN.out]; simpa using hO1, hb.trans hb1⟩
      case measure => simp [intOf]; omega
    · have hkp : k = p1 := by omega
      subst k
      have hbz : ((p1 : Int) == 0) = false := beq_eq_false_iff_ne.2 (by omega)
      have h46 : (s[p1].toNat : Int) = 46 := by simpa using hdot
      have hnd : (s[p1].toNat : Int) < 48 := by omega
      clear h46
      go_wp2_with (go_at_call 15; refine (isd_low _ _ hnd).mono ?_; rintro e w' ⟨rfl, rfl⟩)
      go_loopw [6, 8, 10] (fun i mv f wx => ∃ k : Nat, p1 + 1 ≤ k ∧ k ≤ p2 ∧ i = .int .i64 (k : Int) ∧ f = .int .i64 ((k : Int) - ((p1 : Int) + 1)) ∧ Out w.heap.size mv ((s.data.toList.drop 0).take (p1 - 0) ++ (s.data.toList.drop (p1 + 1)).take (k - (p1 + 1))) wx ∧ Below w.heap.size w wx) (fun i _ _ _ => p2 - (intOf i).toNat)
      case atStart => exact ⟨p1 + 1, by omega, by omega, by go_num, by go_num, by simpa using HO.out, hb⟩
      case round =>
        obtain ⟨k, hka2, hkb2, rfl, rfl, hO2, hb2⟩ := hrel
        have HO2 : Hid (Out w.heap.size u8 ((s.data.toList.drop 0).take (p1 - 0) ++ (s.data.toList.drop (p1 + 1)).take (k - (p1 + 1))) wr) := hO2
        have hlen2 := piece_len s (p1 + 1) (k - (p1 + 1)) hs
        clear hO2
        by_cases hlt2 : k < p2
        · have hks : k < s.size := by omega
          obtain ⟨d1, d2⟩ := H2.out k hks hka2 hlt2
          have d1' : (48 : Int) ≤ (s[k].toNat : Int) := by omega
          have d2' : (s[k].toNat : Int) ≤ 57 := by omega
          have HN := Lib.hid (piece_next s (p1 + 1) k hka2 hks)
          clear d1 d2
          go_wp2_with (first
            | (go_at_call 15; refine (isd_yes _ _ d1' d2').mono ?_; rintro e w' ⟨rfl, rfl⟩)
            | (at_builtin; refine push1 rfl _ _ rfl HO2.out s[k] (s[k].toNat : Int) rfl 5 rfl rfl (by rw [List.length_append]; omega) ?_))
          intro v1 w1 hO1 hb1
          go_wp2
          go_roundw
          case rel => exact ⟨k + 1, by omega, by omega, by go_num, by go_num, by rw [HN.out]; simpa using hO1, hb2.trans hb1⟩
          case measure => simp [intOf]; omega
        · have hkp : k = p2 := by omega
          subst k
          have hfz : (((p2 : Nat) : Int) - ((p1 : Int) + 1) == 0) = false := beq_eq_false_iff_ne.2 (by omega)
          have h101 : (s[p2].toNat : Int) = 101 := by simpa using he
          have hnd2 : 57 < (s[p2].toNat : Int) := by omega
          clear h101
          go_wp2_with (go_at_call 15; refine (isd_high _ _ hnd2).mono ?_; rintro e w' ⟨rfl, rfl⟩)
          go_loop [6, 11, 13] (fun i ev nd => ∃ (k v : Nat), p2 + 2 ≤ k ∧ k ≤ s.size ∧ i = .int .i64 (k : Int) ∧ ev = .int .i64 (v : Int) ∧ nd = .int .i64 ((k : Int) - ((p2 : Int) + 2)) ∧ Hid (v = val ((s.data.toList.drop (p2 + 2)).take (k - (p2 + 2))))) (fun i _ _ => s.size - (intOf i).toNat)
          case atStart => exact ⟨p2 + 2, 0, by omega, by omega, by go_num, rfl, by go_num, by show _ = _; simp [val]⟩
          case round =>
            obtain ⟨k, v, hka3, hkb3, rfl, rfl, rfl, HVk⟩ := hrel
            by_cases hlt3 : k < s.size
            · obtain ⟨d1, d2⟩ := H3.out k hlt3 hka3
              have d1' : (48 : Int) ≤ (s[k].toNat : Int) := by omega
              have d2' : (s[k].toNat : Int) ≤ 57 := by omega
              have HN := Lib.hid (val_next s (p2 + 2) k hka3 hlt3 d1)
              have hv1 : v * 10 ≤ V := by rw [HVk.out]; exact val_bound s (p2 + 2) k V hka3 hlt3 HV.out
              have hv2 : v ≤ 461168601842748790 := by omega
              have hv3 : (v : Int) * 10 + ((s[k].toNat : Int) - 48) ≤ 4611686018427487913 := by omega
              clear d1 d2 hv1
              go_wp2_with (go_at_call 15; refine (isd_yes _ _ d1' d2').mono ?_; rintro e w' ⟨rfl, rfl⟩)
              go_round
              case rel => exact ⟨k + 1, val ((s.data.toList.drop (p2 + 2)).take (k + 1 - (p2 + 2))), by omega, by omega, by go_num, by rw [HN.out, ← HVk.out], by go_num, rfl⟩
              case measure => simp [intOf]; omega
            · have hkp : k = s.size := by omega
              subst k
              have hvV : v = V := by rw [HVk.out, val_all s (p2 + 2) (by omega)]; exact HV.out
              subst v
              have hnz : (((s.size : Nat) : Int) - ((p2 : Int) + 2) == 0) = false := beq_eq_false_iff_ne.2 (by omega)
              go_wp2
              obtain ⟨t, ht⟩ : ∃ t : ByteArray, t = ⟨((s.data.toList.drop 0).take (p1 - 0) ++ (s.data.toList.drop (p1 + 1)).take (p2 - (p1 + 1))).toArray⟩ := ⟨_, rfl⟩
              have hcv := fun n => (HO2.out.drewN n).text (by intro e; exact piece_ne s 0 p1 ha (by omega) (List.append_eq_nil_iff.1 e).1)
              rw [← ht] at hcv
              have hcv0 := HO2.out.text (by intro e; exact piece_ne s 0 p1 ha (by omega) (List.append_eq_nil_iff.1 e).1)
              rw [← ht] at hcv0
              have HT : Hid (t.data.toList = (s.data.toList.drop 0).take (p1 - 0) ++ (s.data.toList.drop (p1 + 1)).take (p2 - (p1 + 1))) := by show t.data.toList = _; rw [ht]
              clear ht
              go_quiet (fail)
              go_wp2
              (try simp only [Exit.inBlock, Exit.then])
              refine bodyPost_ret (results_tmp4 rfl _ _ _) rfl ⟨t, -(V : Int) - ((p2 : Int) - ((p1 : Int) + 1)), ⟨HT.out, rfl⟩, ret_four (by omega), below_drewN hb2 _⟩

set_option maxHeartbeats 6400000 in
set_option maxRecDepth 100000 in
theorem parse_no_none_false (s : ByteArray) (w : World) (hs : s.size ≤ 300000) (h0 : 0 < s.size) (hsg : ((s[0].toNat : Int) == 45) = false) (ha : 0 < s.size) (H1 : Hid (∀ j (hj : j < s.size), 0 ≤ j → j < s.size → 48 ≤ s[j].toNat ∧ s[j].toNat ≤ 57))
    :
    Calls Tryd.prog 10 #[.string s] w fun e w' => ∃ (t : ByteArray) (g : Int), Hid (t.data.toList = (s.data.toList.drop 0).take (s.size - 0) ∧ g = 0 - 0) ∧ e = .returned (.tuple #[.bool true, .bool false, .string t, .int .i64 g]) ∧ Below w.heap.size w w' := by
  have HO0 : Hid (Out w.heap.size (.slice .none 0 0) [] w) := Out.nil w.heap.size w (Nat.le_refl _)
  go_enter Tryd.func10, Tryd.ntmps10
  go_wp2
  go_loopw [6, 8, 9] (fun i mv b wr => ∃ k : Nat, 0 ≤ k ∧ k ≤ s.size ∧ i = .int .i64 (k : Int) ∧ b = .int .i64 (k : Int) ∧ Out w.heap.size mv ((s.data.toList.drop 0).take (k - 0)) wr ∧ Below w.heap.size w wr) (fun i _ _ _ => s.size - (intOf i).toNat)
  case atStart => exact ⟨0, by omega, by omega, rfl, by first | rfl | go_num, by simpa using HO0.out, Below.refl _ _⟩
  case round =>
    obtain ⟨k, hka, hkb, rfl, rfl, hO, hb⟩ := hrel
    have HO : Hid (Out w.heap.size u8 ((s.data.toList.drop 0).take (k - 0)) wr) := hO
    have hlen := piece_len s 0 (k - 0) hs
    clear hO
    by_cases hlt : k < s.size
    · have hks : k < s.size := by omega
      obtain ⟨d1, d2⟩ := H1.out k hks hka hlt
      have d1' : (48 : Int) ≤ (s[k].toNat : Int) := by omega
      have d2' : (s[k].toNat : Int) ≤ 57 := by omega
      have HN := Lib.hid (piece_next s 0 k hka hks)
      clear d1 d2
      go_wp2_with (first
        | (go_at_call 15; refine (isd_yes _ _ d1' d2').mono ?_; rintro e w' ⟨rfl, rfl⟩)
        | (at_builtin; refine push1 rfl _ _ rfl HO.out s[k] (s[k].toNat : Int) rfl 5 rfl rfl (by omega) ?_))
      intro v1 w1 hO1 hb1
      go_wp2
      go_roundw
      case rel => exact ⟨k + 1, by omega, by omega, by go_num, by go_num, by rw [HN.out]; simpa using hO1, hb.trans hb1⟩
      case measure => simp [intOf]; omega
    · have hkp : k = s.size := by omega
      subst k
      have hbz : ((s.size : Int) == 0) = false := beq_eq_false_iff_ne.2 (by omega)
      go_wp2
      obtain ⟨t, ht⟩ : ∃ t : ByteArray, t = ⟨((s.data.toList.drop 0).take (s.size - 0)).toArray⟩ := ⟨_, rfl⟩
      have hcv := fun n => (HO.out.drewN n).text (by intro e; exact piece_ne s 0 s.size ha (by omega) e)
      rw [← ht] at hcv
      have hcv0 := HO.out.text (by intro e; exact piece_ne s 0 s.size ha (by omega) e)
      rw [← ht] at hcv0
      have HT : Hid (t.data.toList = (s.data.toList.drop 0).take (s.size - 0)) := by show t.data.toList = _; rw [ht]
      clear ht
      go_quiet (fail)
      go_wp2
      (try simp only [Exit.inBlock, Exit.then])
      refine bodyPost_ret (results_tmp4 rfl _ _ _) rfl ⟨t, 0 - 0, ⟨HT.out, rfl⟩, ret_four (by omega), below_drewN hb _⟩

set_option maxHeartbeats 6400000 in
set_option maxRecDepth 100000 in
theorem parse_no_plus_false (s : ByteArray) (p1 : Nat) (V : Nat) (w : World) (hs : s.size ≤ 300000) (h0 : 0 < s.size) (hsg : ((s[0].toNat : Int) == 45) = false) (ha : 0 < p1) (H1 : Hid (∀ j (hj : j < s.size), 0 ≤ j → j < p1 → 48 ≤ s[j].toNat ∧ s[j].toNat ≤ 57))
    (hp1 : p1 < s.size) (he : ((s[p1].toNat : Int) == 101) = true) (hq1 : p1 + 2 < s.size) (hsn : ((s[p1 + 1].toNat : Int) == 43) = true) (hsm : ((s[p1 + 1].toNat : Int) == 45) = false)
    (H3 : Hid (∀ j (hj : j < s.size), p1 + 2 ≤ j → 48 ≤ s[j].toNat ∧ s[j].toNat ≤ 57)) (HV : Hid (val (s.data.toList.drop (p1 + 2)) = V)) (hV : V ≤ 4611686018427487904) :
    Calls Tryd.prog 10 #[.string s] w fun e w' => ∃ (t : ByteArray) (g : Int), Hid (t.data.toList = (s.data.toList.drop 0).take (p1 - 0) ∧ g = (V : Int) - 0) ∧ e = .returned (.tuple #[.bool true, .bool false, .string t, .int .i64 g]) ∧ Below w.heap.size w w' := by
  have HO0 : Hid (Out w.heap.size (.slice .none 0 0) [] w) := Out.nil w.heap.size w (Nat.le_refl _)
  go_enter Tryd.func10, Tryd.ntmps10
  go_wp2
  go_loopw [6, 8, 9] (fun i mv b wr => ∃ k : Nat, 0 ≤ k ∧ k ≤ p1 ∧ i = .int .i64 (k : Int) ∧ b = .int .i64 (k : Int) ∧ Out w.heap.size mv ((s.data.toList.drop 0).take (k - 0)) wr ∧ Below w.heap.size w wr) (fun i _ _ _ => p1 - (intOf i).toNat)
  case atStart => exact ⟨0, by omega, by omega, rfl, by first | rfl | go_num, by simpa using HO0.out, Below.refl _ _⟩
  case round =>
    obtain ⟨k, hka, hkb, rfl, rfl, hO, hb⟩ := hrel
    have HO : Hid (Out w.heap.size u8 ((s.data.toList.drop 0).take (k - 0)) wr) := hO
    have hlen := piece_len s 0 (k - 0) hs
    clear hO
    by_cases hlt : k < p1
    · have hks : k < s.size := by omega
      obtain ⟨d1, d2⟩ := H1.out k hks hka hlt
      have d1' : (48 : Int) ≤ (s[k].toNat : Int) := by omega
      have d2' : (s[k].toNat : Int) ≤ 57 := by omega
      have HN := Lib.hid (piece_next s 0 k hka hks)
      clear d1 d2
      go_wp2_with (first
        | (go_at_call 15; refine (isd_yes _ _ d1' d2').mono ?_; rintro e w' ⟨rfl, rfl⟩)
        | (at_builtin; refine push1 rfl _ _ rfl HO.out s[k] (s[k].toNat : Int) rfl 5 rfl rfl (by omega) ?_))
      intro v1 w1 hO1 hb1
      go_wp2
      go_roundw
      case rel => exact ⟨k + 1, by omega, by omega, by go_num, by go_num, by rw [HN.out]; simpa using hO1, hb.trans hb1⟩
      case measure => simp [intOf]; omega
    · have hkp : k = p1 := by omega
      subst k
      have hbz : ((p1 : Int) == 0) = false := beq_eq_false_iff_ne.2 (by omega)
      have h101 : (s[p1].toNat : Int) = 101 := by simpa using he
      have hnd : 57 < (s[p1].toNat : Int) := by omega
      have hdot : ((s[p1].toNat : Int) == 46) = false := beq_eq_false_iff_ne.2 (by omega)
      clear h101
      go_wp2_with (go_at_call 15; refine (isd_high _ _ hnd).mono ?_; rintro e w' ⟨rfl, rfl⟩)
      go_loop [6, 11, 13] (fun i ev nd => ∃ (k v : Nat), p1 + 2 ≤ k ∧ k ≤ s.size ∧ i = .int .i64 (k : Int) ∧ ev = .int .i64 (v : Int) ∧ nd = .int .i64 ((k : Int) - ((p1 : Int) + 2)) ∧ Hid (v = val ((s.data.toList.drop (p1 + 2)).take (k - (p1 + 2))))) (fun i _ _ => s.size - (intOf i).toNat)
      case atStart => exact ⟨p1 + 2, 0, by omega, by omega, by go_num, rfl, by go_num, by show _ = _; simp [val]⟩
      case round =>
        obtain ⟨k, v, hka3, hkb3, rfl, rfl, rfl, HVk⟩ := hrel
        by_cases hlt3 : k < s.size
        · obtain ⟨d1, d2⟩ := H3.out k hlt3 hka3
          have d1' : (48 : Int) ≤ (s[k].toNat : Int) := by omega
          have d2' : (s[k].toNat : Int) ≤ 57 := by omega
          have HN := Lib.hid (val_next s (p1 + 2) k hka3 hlt3 d1)
          have hv1 : v * 10 ≤ V := by rw [HVk.out]; exact val_bound s (p1 + 2) k V hka3 hlt3 HV.out
          have hv2 : v ≤ 461168601842748790 := by omega
          have hv3 : (v : Int) * 10 + ((s[k].toNat : Int) - 48) ≤ 4611686018427487913 := by omega
          clear d1 d2 hv1
          go_wp2_with (go_at_call 15; refine (isd_yes _ _ d1' d2').mono ?_; rintro e w' ⟨rfl, rfl⟩)
          go_round
          case rel => exact ⟨k + 1, val ((s.data.toList.drop (p1 + 2)).take (k + 1 - (p1 + 2))), by omega, by omega, by go_num, by rw [HN.out, ← HVk.out], by go_num, rfl⟩
          case measure => simp [intOf]; omega
        · have hkp : k = s.size := by omega
          subst k
          have hvV : v = V := by rw [HVk.out, val_all s (p1 + 2) (by omega)]; exact HV.out
          subst v
          have hnz : (((s.size : Nat) : Int) - ((p1 : Int) + 2) == 0) = false := beq_eq_false_iff_ne.2 (by omega)
          go_wp2
          obtain ⟨t, ht⟩ : ∃ t : ByteArray, t = ⟨((s.data.toList.drop 0).take (p1 - 0)).toArray⟩ := ⟨_, rfl⟩
          have hcv := fun n => (HO.out.drewN n).text (by intro e; exact piece_ne s 0 p1 ha (by omega) e)
          rw [← ht] at hcv
          have hcv0 := HO.out.text (by intro e; exact piece_ne s 0 p1 ha (by omega) e)
          rw [← ht] at hcv0
          have HT : Hid (t.data.toList = (s.data.toList.drop 0).take (p1 - 0)) := by show t.data.toList = _; rw [ht]
          clear ht
          go_quiet (fail)
          go_wp2
          (try simp only [Exit.inBlock, Exit.then])
          refine bodyPost_ret (results_tmp4 rfl _ _ _) rfl ⟨t, (V : Int) - 0, ⟨HT.out, rfl⟩, ret_four (by omega), below_drewN hb _⟩

set_option maxHeartbeats 6400000 in
set_option maxRecDepth 100000 in
theorem parse_no_minus_false (s : ByteArray) (p1 : Nat) (V : Nat) (w : World) (hs : s.size ≤ 300000) (h0 : 0 < s.size) (hsg : ((s[0].toNat : Int) == 45) = false) (ha : 0 < p1) (H1 : Hid (∀ j (hj : j < s.size), 0 ≤ j → j < p1 → 48 ≤ s[j].toNat ∧ s[j].toNat ≤ 57))
    (hp1 : p1 < s.size) (he : ((s[p1].toNat : Int) == 101) = true) (hq1 : p1 + 2 < s.size) (hsn : ((s[p1 + 1].toNat : Int) == 43) = false) (hsm : ((s[p1 + 1].toNat : Int) == 45) = true)
    (H3 : Hid (∀ j (hj : j < s.size), p1 + 2 ≤ j → 48 ≤ s[j].toNat ∧ s[j].toNat ≤ 57)) (HV : Hid (val (s.data.toList.drop (p1 + 2)) = V)) (hV : V ≤ 4611686018427487904) :
    Calls Tryd.prog 10 #[.string s] w fun e w' => ∃ (t : ByteArray) (g : Int), Hid (t.data.toList = (s.data.toList.drop 0).take (p1 - 0) ∧ g = -(V : Int) - 0) ∧ e = .returned (.tuple #[.bool true, .bool false, .string t, .int .i64 g]) ∧ Below w.heap.size w w' := by
  have HO0 : Hid (Out w.heap.size (.slice .none 0 0) [] w) := Out.nil w.heap.size w (Nat.le_refl _)
  go_enter Tryd.func10, Tryd.ntmps10
  go_wp2
  go_loopw [6, 8, 9] (fun i mv b wr => ∃ k : Nat, 0 ≤ k ∧ k ≤ p1 ∧ i = .int .i64 (k : Int) ∧ b = .int .i64 (k : Int) ∧ Out w.heap.size mv ((s.data.toList.drop 0).take (k - 0)) wr ∧ Below w.heap.size w wr) (fun i _ _ _ => p1 - (intOf i).toNat)
  case atStart => exact ⟨0, by omega, by omega, rfl, by first | rfl | go_num, by simpa using HO0.out, Below.refl _ _⟩
  case round =>
    obtain ⟨k, hka, hkb, rfl, rfl, hO, hb⟩ := hrel
    have HO : Hid (Out w.heap.size u8 ((s.data.toList.drop 0).take (k - 0)) wr) := hO
    have hlen := piece_len s 0 (k - 0) hs
    clear hO
    by_cases hlt : k < p1
    · have hks : k < s.size := by omega
      obtain ⟨d1, d2⟩ := H1.out k hks hka hlt
      have d1' : (48 : Int) ≤ (s[k].toNat : Int) := by omega
      have d2' : (s[k].toNat : Int) ≤ 57 := by omega
      have HN := Lib.hid (piece_next s 0 k hka hks)
      clear d1 d2
      go_wp2_with (first
        | (go_at_call 15; refine (isd_yes _ _ d1' d2').mono ?_; rintro e w' ⟨rfl, rfl⟩)
        | (at_builtin; refine push1 rfl _ _ rfl HO.out s[k] (s[k].toNat : Int) rfl 5 rfl rfl (by omega) ?_))
      intro v1 w1 hO1 hb1
      go_wp2
      go_roundw
      case rel => exact ⟨k + 1, by omega, by omega, by go_num, by go_num, by rw [HN.out]; simpa using hO1, hb.trans hb1⟩
      case measure => simp [intOf]; omega
    · have hkp : k = p1 := by omega
      subst k
      have hbz : ((p1 : Int) == 0) = false := beq_eq_false_iff_ne.2 (by omega)
      have h101 : (s[p1].toNat : Int) = 101 := by simpa using he
      have hnd : 57 < (s[p1].toNat : Int) := by omega
      have hdot : ((s[p1].toNat : Int) == 46) = false := beq_eq_false_iff_ne.2 (by omega)
      clear h101
      go_wp2_with (go_at_call 15; refine (isd_high _ _ hnd).mono ?_; rintro e w' ⟨rfl, rfl⟩)
      go_loop [6, 11, 13] (fun i ev nd => ∃ (k v : Nat), p1 + 2 ≤ k ∧ k ≤ s.size ∧ i = .int .i64 (k : Int) ∧ ev = .int .i64 (v : Int) ∧ nd = .int .i64 ((k : Int) - ((p1 : Int) + 2)) ∧ Hid (v = val ((s.data.toList.drop (p1 + 2)).take (k - (p1 + 2))))) (fun i _ _ => s.size - (intOf i).toNat)
      case atStart => exact ⟨p1 + 2, 0, by omega, by omega, by go_num, rfl, by go_num, by show _ = _; simp [val]⟩
      case round =>
        obtain ⟨k, v, hka3, hkb3, rfl, rfl, rfl, HVk⟩ := hrel
        by_cases hlt3 : k < s.size
        · obtain ⟨d1, d2⟩ := H3.out k hlt3 hka3
          have d1' : (48 : Int) ≤ (s[k].toNat : Int) := by omega
          have d2' : (s[k].toNat : Int) ≤ 57 := by omega
          have HN := Lib.hid (val_next s (p1 + 2) k hka3 hlt3 d1)
          have hv1 : v * 10 ≤ V := by rw [HVk.out]; exact val_bound s (p1 + 2) k V hka3 hlt3 HV.out
          have hv2 : v ≤ 461168601842748790 := by omega
          have hv3 : (v : Int) * 10 + ((s[k].toNat : Int) - 48) ≤ 4611686018427487913 := by omega
          clear d1 d2 hv1
          go_wp2_with (go_at_call 15; refine (isd_yes _ _ d1' d2').mono ?_; rintro e w' ⟨rfl, rfl⟩)
          go_round
          case rel => exact ⟨k + 1, val ((s.data.toList.drop (p1 + 2)).take (k + 1 - (p1 + 2))), by omega, by omega, by go_num, by rw [HN.out, ← HVk.out], by go_num, rfl⟩
          case measure => simp [intOf]; omega
        · have hkp : k = s.size := by omega
          subst k
          have hvV : v = V := by rw [HVk.out, val_all s (p1 + 2) (by omega)]; exact HV.out
          subst v
          have hnz : (((s.size : Nat) : Int) - ((p1 : Int) + 2) == 0) = false := beq_eq_false_iff_ne.2 (by omega)
          go_wp2
          obtain ⟨t, ht⟩ : ∃ t : ByteArray, t = ⟨((s.data.toList.drop 0).take (p1 - 0)).toArray⟩ := ⟨_, rfl⟩
          have hcv := fun n => (HO.out.drewN n).text (by intro e; exact piece_ne s 0 p1 ha (by omega) e)
          rw [← ht] at hcv
          have hcv0 := HO.out.text (by intro e; exact piece_ne s 0 p1 ha (by omega) e)
          rw [← ht] at hcv0
          have HT : Hid (t.data.toList = (s.data.toList.drop 0).take (p1 - 0)) := by show t.data.toList = _; rw [ht]
          clear ht
          go_quiet (fail)
          go_wp2
          (try simp only [Exit.inBlock, Exit.then])
          refine bodyPost_ret (results_tmp4 rfl _ _ _) rfl ⟨t, -(V : Int) - 0, ⟨HT.out, rfl⟩, ret_four (by omega), below_drewN hb _⟩
end Go.Proofs.Qxb6603079aDoor
