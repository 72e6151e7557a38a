/-
  The callees on the road of FnFieldPathSplitsBackAtLastDot: the bound's check, zzHasDot, fieldPath.
-/
import Derived.Test.Qxb6603457aRows
import Derived.WalkKit
import Derived.WalkLawsBesides
import Derived.WalkSpells
import Derived.Outline
namespace Go.Proofs.Qxb6603457a
open Go.RowKit

/-- A dot among the bytes. -/
def dotB (s : ByteArray) : Bool := s.data.toList.any (fun c => c == 46)

theorem dotB_true (s : ByteArray) (k : Nat) (hk : k < s.size) (h : s[k].toNat = 46) : dotB s = true := by
  unfold dotB
  rw [List.any_eq_true]
  refine ⟨s[k], ?_, ?_⟩
  · exact Array.getElem_mem_toList hk
  · simp only [beq_iff_eq]
    exact UInt8.toNat_inj.1 h

theorem dotB_false (s : ByteArray) (h : ∀ k, (hk : k < s.size) → s[k].toNat ≠ 46) : dotB s = false := by
  unfold dotB
  rw [List.any_eq_false]
  intro c hc he
  simp only [beq_iff_eq] at he
  obtain ⟨i, hi, rfl⟩ := List.getElem_of_mem hc
  have hi' : i < s.size := by simpa using hi
  have e : s[i] = s.data.toList[i] := rfl
  exact h i hi' (by rw [e, he]; rfl)

theorem ret_bool {a b : Bool} (h : a = b) : Ending.returned (.bool a) = .returned (.bool b) := by rw [h]

set_option maxHeartbeats 400000 in
theorem hasDot_any (s : ByteArray) (w : World) (hs : s.size ≤ maxLen) :
    Calls Try.prog 8 #[.string s] w fun e w' => e = .returned (.bool (dotB s)) ∧ w' = w := by
  unfold maxLen at hs
  go_enter Try.func8, Try.ntmps8
  go_wp2
  go_loop [3] (fun i => ∃ k : Nat, k ≤ s.size ∧ i = .int .i64 k ∧ ∀ j, (hj : j < s.size) → j < k → s[j].toNat ≠ 46) (fun i => s.size - (intOf i).toNat)
  case atStart => exact ⟨0, Nat.zero_le _, rfl, fun j _ h => absurd h (Nat.not_lt_zero _)⟩
  case round =>
    obtain ⟨k, hk, rfl, hall⟩ := hrel
    have HA : Hid (∀ j, (hj : j < s.size) → j < k → s[j].toNat ≠ 46) := hall
    clear hall
    by_cases hlt : k < s.size
    · by_cases hd : s[k].toNat = 46
      · have hd' : ((s[k].toNat : Int) == 46) = true := by rw [hd]; rfl
        have HD : Hid (dotB s = true) := dotB_true s k hlt hd
        clear hd
        go_wp2
        go_ret
        exact ⟨ret_bool HD.out.symm, rfl⟩
      · have hd' : ((s[k].toNat : Int) == 46) = false := by simp; omega
        have HN : Hid (s[k].toNat ≠ 46) := hd
        clear hd
        go_wp2
        go_round
        case rel => 
          refine ⟨k + 1, by omega, by go_num, fun j hj hjk => ?_⟩
          by_cases e : j = k
          · subst e; exact HN.out
          · exact HA.out j hj (by omega)
        case measure => simp [intOf]; omega
    · have HF : Hid (dotB s = false) := dotB_false s (fun j hj => HA.out j hj (by omega))
      go_wp2
      go_ret
      exact ⟨ret_bool HF.out.symm, rfl⟩

theorem bytes_yes (a b : ByteArray) (w : World) (h : a.size + b.size ≤ 1048576) :
    Calls Try.prog 7 #[.string a, .string b] w fun e w' => e = .returned (.bool true) ∧ w' = w := by
  go_enter Try.func7, Try.ntmps7
  go_wp2
  go_ret
  exact ⟨rfl, rfl⟩

theorem bytes_no (a b : ByteArray) (w : World) (ha : a.size ≤ 9223372036854775807) (hb : b.size ≤ 9223372036854775807) (h : 1048576 < a.size + b.size) :
    Calls Try.prog 7 #[.string a, .string b] w fun e w' => e = .returned (.bool false) ∧ w' = w := by
  by_cases h1 : 1048576 < a.size
  · go_enter Try.func7, Try.ntmps7
    go_wp2
    go_ret
    exact ⟨rfl, rfl⟩
  · by_cases h2 : 1048576 < b.size
    · go_enter Try.func7, Try.ntmps7
      go_wp2
      go_ret
      exact ⟨rfl, rfl⟩
    · go_enter Try.func7, Try.ntmps7
      go_wp2
      go_ret
      exact ⟨rfl, rfl⟩

theorem fieldPath_root (b : ByteArray) (w : World) :
    Calls Try.prog 6 #[.string ⟨#[]⟩, .string b] w fun e w' => e = .returned (.string b) ∧ w' = w := by
  go_enter Try.func6, Try.ntmps6
  go_wp2
  go_ret
  exact ⟨rfl, rfl⟩

theorem fieldPath_deep (a b : ByteArray) (w : World) (h0 : a.toList.isEmpty = false) (hs : a.size + b.size ≤ 1048576) :
    Calls Try.prog 6 #[.string a, .string b] w fun e w' => e = .returned (.string (a ++ ⟨#[46]⟩ ++ b)) ∧ w' = w := by
  go_enter Try.func6, Try.ntmps6
  go_wp2
  go_ret
  exact ⟨rfl, rfl⟩
end Go.Proofs.Qxb6603457a
