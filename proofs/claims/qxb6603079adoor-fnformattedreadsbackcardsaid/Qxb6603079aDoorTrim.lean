/-
  zzTrim and zzSameValue, walked.
-/
import Derived.Test.Qxb6603079aDoorState
import Derived.Test.Qxb6603079aDoorBackPlain
namespace Go.Proofs.Qxb6603079aDoor
open Go.RowKit Plain

theorem drop_at (s : ByteArray) (k : Nat) (h : k < s.size) : s.data.toList.drop k = s[k] :: s.data.toList.drop (k + 1) := by
  rw [List.drop_eq_getElem_cons (by simpa using h)]; rfl
theorem take_at (s : ByteArray) (k : Nat) (h : k < s.size) : s.data.toList.take (k + 1) = s.data.toList.take k ++ [s[k]] := by
  rw [List.take_succ_eq_append_getElem (by simpa using h)]; rfl
theorem is48 (c : UInt8) (h : ((c.toNat : Int) == 48) = true) : c = 48 := by
  have h' : (c.toNat : Int) = 48 := by simpa using h
  exact UInt8.toNat_inj.1 (by simp; omega)
theorem not48 (c : UInt8) (h : ((c.toNat : Int) == 48) = false) : c ≠ 48 := by
  intro e; subst e; revert h; decide

theorem tail_of (s : ByteArray) (k : Nat) : (s.extract k s.size).data.toList = s.data.toList.drop k := by
  rw [Lib.extract_data, List.take_of_length_le]
  rw [List.length_drop, size_list]
  exact Nat.le_refl _
theorem head_of (s : ByteArray) (p : Nat) : (s.extract 0 p).data.toList = s.data.toList.take p := by
  rw [Lib.extract_data, List.drop_zero, Nat.sub_zero]

theorem head_size (s : ByteArray) (p : Nat) (h : p ≤ s.size) : (s.extract 0 p).size = p := by
  have e := congrArg List.length (head_of s p)
  rw [size_list, List.length_take, size_list] at e
  omega

/-- The two results as values. -/
theorem ret_pair {a b : ByteArray} {x y : Int} (h1 : a = b) (h2 : x = y) : Ending.returned (.tuple #[.string a, .int .i64 x]) = .returned (.tuple #[.string b, .int .i64 y]) := by rw [h1, h2]

set_option maxHeartbeats 1600000 in
theorem trim_any (d : ByteArray) (e : Int) (w : World) (hd : d.size ≤ 1000000) (h1 : -5000000000000000000 ≤ e) (h2 : e ≤ 5000000000000000000) :
    Calls Tryd.prog 16 #[.string d, .int .i64 e] w fun r w' => ∃ s : ByteArray, Hid (s.data.toList = core d.data.toList) ∧ r = .returned (.tuple #[.string s, .int .i64 (e + tz d.data.toList)]) ∧ w' = w := by
  go_enter Tryd.func16, Tryd.ntmps16
  go_wp2
  go_loop [6] (fun i => ∃ k : Nat, k ≤ d.size ∧ i = .int .i64 (k : Int) ∧ Hid (ltrim (d.data.toList.drop k) = ltrim d.data.toList)) (fun i => d.size - (intOf i).toNat)
  case atStart => exact ⟨0, Nat.zero_le _, rfl, rfl⟩
  case round =>
    obtain ⟨k, hk, rfl, HL⟩ := hrel
    by_cases hgo : ∃ h : k < d.size, ((d[k].toNat : Int) == 48) = true
    · obtain ⟨hlt, h48⟩ := hgo
      have HL2 : Hid (ltrim (d.data.toList.drop (k + 1)) = ltrim d.data.toList) := by
        show _ = _
        rw [← HL.out, drop_at d k hlt, is48 _ h48, ltrim_zero]
      go_wp2
      go_round
      case rel => exact ⟨k + 1, by omega, by go_num, HL2⟩
      case measure => simp [intOf]; omega
    · -- the leading zeros are struck
      have HT : Hid ((d.extract k d.size).data.toList = ltrim d.data.toList) := by
        show _ = _
        rw [tail_of, ← HL.out]
        by_cases hlt : k < d.size
        · have hn : ((d[k].toNat : Int) == 48) = false := by
            cases hb : ((d[k].toNat : Int) == 48) with
            | true => exact absurd ⟨hlt, hb⟩ hgo
            | false => rfl
          rw [drop_at d k hlt, ltrim_stop _ _ (not48 _ hn)]
        · rw [List.drop_of_length_le (by rw [size_list]; omega)]; rfl
      have hsz : (d.extract k d.size).size ≤ 1000000 := Nat.le_trans (extract_len d k d.size) hd
      obtain ⟨t, ht⟩ : ∃ t, d.extract k d.size = t := ⟨_, rfl⟩
      rw [ht] at HT hsz
      have hcase : (∃ h : k < d.size, ((d[k].toNat : Int) == 48) = false) ∨ ¬ k < d.size := by
        by_cases hlt : k < d.size
        · left
          refine ⟨hlt, ?_⟩
          cases hb : ((d[k].toNat : Int) == 48) with
          | true => exact absurd ⟨hlt, hb⟩ hgo
          | false => rfl
        · exact .inr hlt
      clear hgo
      rcases hcase with ⟨hlt, hn⟩ | hlt
      all_goals
        go_wp2
        clear ht
        go_loop [1, 7] (fun ev j => ∃ q : Nat, q ≤ t.size ∧ j = .int .i64 (q : Int) ∧ ev = .int .i64 (e + ((t.size : Int) - (q : Int))) ∧ Hid (rtrim (t.data.toList.take q) = rtrim t.data.toList)) (fun _ j => (intOf j).toNat)
        case atStart => exact ⟨t.size, Nat.le_refl _, rfl, by go_num, by show _ = _; rw [List.take_of_length_le (by rw [size_list]; exact Nat.le_refl _)]⟩
        case round =>
          obtain ⟨q, hq, rfl, rfl, HR⟩ := hrel
          cases q with
          | zero =>
            have HC : Hid (core d.data.toList = (t.extract 0 0).data.toList) := by
              show rtrim (ltrim d.data.toList) = _
              rw [← HT.out, ← HR.out, head_of]
              rfl
            have HZ : Hid (e + ((t.size : Int) - ((0 : Nat) : Int)) = e + tz d.data.toList) := by
              show _ = _
              unfold tz
              rw [HC.out, ← HT.out, size_list, size_list, head_size t 0 (by omega)]
            have HC0 : Hid (ByteArray.empty.data.toList = core d.data.toList) := by
              show _ = _
              rw [HC.out, head_of]
              rfl
            go_wp2
            go_ret2
            exact ⟨ByteArray.empty, HC0, ret_pair rfl (by rw [← HZ.out]; omega), rfl⟩
          | succ q =>
            have hql : q < t.size := hq
            by_cases hz : ((t[q].toNat : Int) == 48) = true
            · have HR2 : Hid (rtrim (t.data.toList.take q) = rtrim t.data.toList) := by
                show _ = _
                rw [← HR.out, take_at t q hql, is48 _ hz, rtrim_zero]
              go_wp2
              go_round
              case rel => exact ⟨q, by omega, by go_num, by go_num, HR2⟩
              case measure => simp [intOf]
            · have hz' : ((t[q].toNat : Int) == 48) = false := by
                cases hb : ((t[q].toNat : Int) == 48) with
                | true => exact absurd hb hz
                | false => rfl
              have HC : Hid (core d.data.toList = (t.extract 0 (q + 1)).data.toList) := by
                show rtrim (ltrim d.data.toList) = _
                rw [← HT.out, ← HR.out, head_of, take_at t q hql, rtrim_stop _ _ (not48 _ hz')]
              have HZ : Hid (e + ((t.size : Int) - ((q + 1 : Nat) : Int)) = e + tz d.data.toList) := by
                show _ = _
                unfold tz
                rw [HC.out, ← HT.out, size_list, size_list, head_size t (q + 1) hq]
              clear hz
              go_wp2
              go_ret2
              exact ⟨_, HC.out.symm, ret_pair rfl (by rw [← HZ.out]; omega), rfl⟩

theorem list_nil (s : ByteArray) (h : s.data.toList = []) : s.size = 0 := by rw [← size_list, h]; rfl
theorem ext_back {x y : ByteArray} (h : x.data.toList = y.data.toList) : x = y := by
  obtain ⟨⟨l⟩⟩ := x
  obtain ⟨⟨m⟩⟩ := y
  simp only at h
  rw [h]

set_option maxHeartbeats 800000 in
theorem same_any (d m : ByteArray) (exp g : Int) (w : World) (hd : d.size ≤ 1000000) (hm : m.size ≤ 1000000) (h1 : -5000000000000000000 ≤ exp) (h2 : exp ≤ 5000000000000000000) (h3 : -5000000000000000000 ≤ g) (h4 : g ≤ 5000000000000000000)
    (hs : Same d.data.toList exp m.data.toList g) :
    Calls Tryd.prog 11 #[.string d, .int .i64 exp, .string m, .int .i64 g] w fun r w' => r = .returned (.bool true) ∧ w' = w := by
  have HS : Hid (Same d.data.toList exp m.data.toList g) := hs
  clear hs
  go_enter Tryd.func11, Tryd.ntmps11
  go_wp2_with fail
  refine (trim_any d exp _ hd h1 h2).mono ?_
  rintro e w' ⟨a, HA, rfl, rfl⟩
  go_wp2_with fail
  refine (trim_any m g _ hm h3 h4).mono ?_
  rintro e w' ⟨b, HB, rfl, rfl⟩
  obtain rfl : b = a := ext_back (by rw [HA.out, HB.out]; exact HS.out.1)
  by_cases h0 : b.size = 0
  · have h0' : ((b.size : Int) == 0) = true := by rw [h0]; rfl
    clear h0
    go_wp2
    go_ret
    exact ⟨rfl, rfl⟩
  · have h0' : ((b.size : Int) == 0) = false := beq_eq_false_iff_ne.2 (by omega)
    have hne : core d.data.toList ≠ [] := fun e => h0 (list_nil b (by rw [HA.out]; exact e))
    have hee : g + tz m.data.toList = exp + tz d.data.toList := (HS.out.2 hne).symm
    clear h0
    go_wp2
    go_ret
    exact ⟨rfl, rfl⟩
end Go.Proofs.Qxb6603079aDoor
