/-
  The law FnFieldPathSplitsBackAtLastDot itself, walked: at the root path and at a path that is not empty.
-/
import Derived.Test.Qxb6603457aWalks1
import Derived.Lib.Strings
namespace Go.Proofs.Qxb6603457a
open Go.RowKit

theorem noDot (s : ByteArray) (h : dotB s = false) (k : Nat) (hk : k < s.size) : s[k].toNat ≠ 46 := by
  intro e
  rw [dotB_true s k hk e] at h
  cases h

set_option maxHeartbeats 800000 in
theorem law_root (b : ByteArray) (w : World) (hb : b.size ≤ 524288) (hd : dotB b = false) :
    Calls Try.prog 4 #[.string ⟨#[]⟩, .string b] w fun e w' => e = .returned (.bool true) ∧ Grown w w' := by
  have hn := noDot b hd
  have HN : Hid (∀ k, (hk : k < b.size) → b[k].toNat ≠ 46) := hn
  clear hn
  have hz : (⟨#[]⟩ : ByteArray).size = 0 := rfl
  go_enter Try.func4, Try.ntmps4
  go_wp2_with (first
    | (go_at_call 7; refine (bytes_yes _ _ _ (by rw [hz]; omega)).mono ?_; rintro e w' ⟨rfl, rfl⟩)
    | (go_at_call 8; refine (hasDot_any _ _ (by unfold maxLen; omega)).mono ?_; rintro e w' ⟨rfl, rfl⟩)
    | (go_at_call 6; refine (fieldPath_root _ _).mono ?_; rintro e w' ⟨rfl, rfl⟩))
  go_loop [6, 7] (fun l i => l = .int .i64 (-1) ∧ ∃ k : Nat, k ≤ b.size ∧ i = .int .i64 ((k : Int) - 1)) (fun _ i => ((intOf i) + 1).toNat)
  case atStart => exact ⟨rfl, b.size, Nat.le_refl _, rfl⟩
  case round =>
    obtain ⟨rfl, k, hk, rfl⟩ := hrel
    cases k with
    | zero =>
      have e0 : ((0 : Nat) : Int) - 1 = -1 := rfl
      rw [e0]
      go_wp2
      go_ret
      exact ⟨rfl, Grown.refl _⟩
    | succ k =>
      have e1 : ((k + 1 : Nat) : Int) - 1 = (k : Int) := by omega
      rw [e1]
      have hlt : k < b.size := hk
      have hne : b[k].toNat ≠ 46 := HN.out k hlt
      have hd' : ((b[k].toNat : Int) == 46) = false := by simp; omega
      clear hne e1
      go_wp2
      go_round
      case rel => exact ⟨rfl, k, by omega, rfl⟩
      case measure => simp [intOf]

theorem data_mid (a b : ByteArray) : (a ++ ⟨#[46]⟩ ++ b).data.toList = a.data.toList ++ 46 :: b.data.toList := by
  simp [ByteArray.data_append]

theorem size_mid (a b : ByteArray) : (a ++ ⟨#[46]⟩ ++ b).size = a.size + 1 + b.size := by
  have h := congrArg List.length (data_mid a b)
  simp only [List.length_append, List.length_cons, Array.length_toList] at h
  show (a ++ ⟨#[46]⟩ ++ b).data.size = a.data.size + 1 + b.data.size
  omega

theorem get_list (g : ByteArray) (k : Nat) (h : k < g.size) : g.data.toList[k]? = some g[k] := by
  rw [List.getElem?_eq_getElem (by simpa using h)]; rfl

theorem at_dot (a b g : ByteArray) (hg : g = a ++ ⟨#[46]⟩ ++ b) (h : a.size < g.size) : g[a.size].toNat = 46 := by
  have e := get_list g a.size h
  have d : g.data.toList = a.data.toList ++ 46 :: b.data.toList := by rw [hg]; exact data_mid a b
  have l : a.size = a.data.toList.length := by simp
  rw [d, List.getElem?_append_right (by omega), show a.size - a.data.toList.length = 0 by omega] at e
  simp only [List.getElem?_cons_zero, Option.some.injEq] at e
  rw [← e]; rfl

theorem past_dot (a b g : ByteArray) (hg : g = a ++ ⟨#[46]⟩ ++ b) (k : Nat) (h : k < g.size) (hk : a.size < k) (hb : k - a.size - 1 < b.size) : g[k] = b[k - a.size - 1] := by
  have e := get_list g k h
  have d : g.data.toList = a.data.toList ++ 46 :: b.data.toList := by rw [hg]; exact data_mid a b
  have l : a.size = a.data.toList.length := by simp
  rw [d, List.getElem?_append_right (by omega), show k - a.data.toList.length = (k - a.size - 1) + 1 by omega, List.getElem?_cons_succ, get_list b _ hb] at e
  exact (Option.some.inj e).symm

theorem ext_list {x y : ByteArray} (h : x.data.toList = y.data.toList) : x = y := by
  obtain ⟨⟨l⟩⟩ := x
  obtain ⟨⟨m⟩⟩ := y
  simp only at h
  rw [h]

theorem cut_left (a b g : ByteArray) (hg : g = a ++ ⟨#[46]⟩ ++ b) : g.extract 0 a.size = a := by
  have d : g.data.toList = a.data.toList ++ 46 :: b.data.toList := by rw [hg]; exact data_mid a b
  have l : a.size = a.data.toList.length := by simp
  refine ext_list ?_
  rw [Lib.extract_data, d, l]
  simp
theorem cut_right (a b g : ByteArray) (hg : g = a ++ ⟨#[46]⟩ ++ b) : g.extract (a.size + 1) g.size = b := by
  have d : g.data.toList = a.data.toList ++ 46 :: b.data.toList := by rw [hg]; exact data_mid a b
  have l : a.size = a.data.toList.length := by simp
  have z : g.size = g.data.toList.length := by simp
  refine ext_list ?_
  rw [Lib.extract_data, z, d, l, List.drop_append, List.drop_of_length_le (by omega), show a.data.toList.length + 1 - a.data.toList.length = 1 by omega, List.nil_append, List.drop_succ_cons, List.drop_zero]
  exact List.take_of_length_le (by simp only [List.length_append, List.length_cons]; omega)

set_option maxHeartbeats 800000 in
theorem law_deep (a b g : ByteArray) (w : World) (ha0 : a.toList.isEmpty = false) (ha : a.size ≤ 524288) (hb : b.size ≤ 524288) (hd : dotB b = false) (hg : g = a ++ ⟨#[46]⟩ ++ b) :
    Calls Try.prog 4 #[.string a, .string b] w fun e w' => e = .returned (.bool true) ∧ Grown w w' := by
  have hsz : g.size = a.size + 1 + b.size := by rw [hg]; exact size_mid a b
  have hat := at_dot a b g hg (by omega)
  have HN : Hid (∀ k, (hk : k < g.size) → a.size < k → g[k].toNat ≠ 46) := fun k hk h => by
    rw [past_dot a b g hg k hk h (by omega)]
    exact noDot b hd _ _
  have HL : Hid (g.extract 0 a.size = a) := cut_left a b g hg
  have HR : Hid (g.extract (a.size + 1) g.size = b) := cut_right a b g hg
  have HG : Hid (a ++ ⟨#[46]⟩ ++ b = g) := hg.symm
  have HS : Hid (g.size = a.size + 1 + b.size) := hsz
  have HAT : Hid (∃ h : a.size < g.size, g[a.size].toNat = 46) := ⟨_, hat⟩
  have hs1 : g.size ≤ 1048577 := by omega
  have hs2 : a.size < g.size := by omega
  clear hg hat hsz
  go_enter Try.func4, Try.ntmps4
  go_wp2_with (first
    | (go_at_call 7; refine (bytes_yes _ _ _ (by omega)).mono ?_; rintro e w' ⟨rfl, rfl⟩)
    | (go_at_call 8; refine (hasDot_any _ _ (by unfold maxLen; omega)).mono ?_; rintro e w' ⟨rfl, rfl⟩)
    | (go_at_call 6; refine (fieldPath_deep _ _ _ ha0 (by omega)).mono ?_; rw [HG.out]; rintro e w' ⟨rfl, rfl⟩))
  go_loop [6, 7] (fun l i => l = .int .i64 (-1) ∧ ∃ k : Nat, k < g.size ∧ a.size ≤ k ∧ i = .int .i64 (k : Int)) (fun _ i => ((intOf i) + 1).toNat)
  case atStart => exact ⟨rfl, g.size - 1, by omega, by omega, by go_num⟩
  case round =>
    obtain ⟨rfl, k, hk, hak, rfl⟩ := hrel
    by_cases he : k = a.size
    · subst he
      obtain ⟨_, hat⟩ := HAT.out
      have hd' : ((g[a.size].toNat : Int) == 46) = true := by rw [hat]; rfl
      clear hat
      have hL := HL.out
      have hR := HR.out
      go_wp2
      go_ret
      exact ⟨rfl, Grown.refl _⟩
    · have hne : g[k].toNat ≠ 46 := HN.out k hk (by omega)
      have hd' : ((g[k].toNat : Int) == 46) = false := by simp; omega
      clear hne
      go_wp2
      go_round
      case rel => exact ⟨rfl, k - 1, by omega, by omega, by go_num⟩
      case measure => simp [intOf]
end Go.Proofs.Qxb6603457a
