/-
  zzShortlex, walked: it returns the plain shortlex order of its two texts; the world: draws alone.
-/
import Derived.Test.Qxb6603072aDoorRows
import Derived.Test.Qxb6603072aDoorPlain
import Derived.WalkKit
import Derived.WalkLawsBesides
import Derived.WalkSpells
import Derived.Outline
import Derived.Deep.QuietTactic
import Derived.BigQuiet
import Derived.Lib.Strings
namespace Go.Proofs.Qxb6603072aDoor
open Go.RowKit Plain

theorem ret_int {k : IntKind} {a b : Int} (h : a = b) : Ending.returned (.int k a) = .returned (.int k b) := by rw [h]

theorem drop_at (s : ByteArray) (k : Nat) (h : k < s.size) : s.data.toList.drop k = s[k] :: s.data.toList.drop (k + 1) := by
  rw [List.drop_eq_getElem_cons (by simpa using h)]; rfl

theorem cmp_at (x y : ByteArray) (k : Nat) (hx : k < x.size) (hy : k < y.size) :
    cmpL (x.data.toList.drop k) (y.data.toList.drop k) = if x[k].toNat < y[k].toNat then -1 else if y[k].toNat < x[k].toNat then 1 else cmpL (x.data.toList.drop (k + 1)) (y.data.toList.drop (k + 1)) := by
  rw [drop_at x k hx, drop_at y k hy, cmpL]

theorem size_list (s : ByteArray) : s.data.toList.length = s.size := by simp

theorem drew2 (w : World) (a b : Nat) : ∃ n, (w.drewN a).drewN b = w.drewN n := ⟨_, World.drewN_drewN w a b⟩
theorem drew3 (w : World) (a b c : Nat) : ∃ n, ((w.drewN a).drewN b).drewN c = w.drewN n := by
  rw [World.drewN_drewN]; exact drew2 w _ _

set_option maxHeartbeats 800000 in
theorem lex_same (x y : ByteArray) (w : World) (hx : x.size ≤ maxLen) (hxy : x.size = y.size) :
    Calls Tryd.prog 7 #[.string x, .string y] w fun e w' => e = .returned (.int .i64 (shortlex x.data.toList y.data.toList)) ∧ ∃ n, w' = w.drewN n := by
  unfold maxLen at hx
  have HS : Hid (shortlex x.data.toList y.data.toList = cmpL x.data.toList y.data.toList) := by
    show shortlex _ _ = _
    unfold shortlex
    rw [size_list, size_list, if_neg (by omega), if_neg (by omega)]
  have HXY : Hid (x.size = y.size) := hxy
  have h1 : ¬ x.size < y.size := by omega
  have h2 : ¬ y.size < x.size := by omega
  have h3 : y.size ≤ 9223372036854775807 := by omega
  clear hxy
  go_enter Tryd.func7, Tryd.ntmps7
  go_wp2
  go_loopw [5] (fun i wr => ∃ k : Nat, k ≤ x.size ∧ i = .int .i64 k ∧ cmpL (x.data.toList.drop k) (y.data.toList.drop k) = cmpL x.data.toList y.data.toList ∧ ∃ n, wr = w.drewN n) (fun i _ => x.size - (intOf i).toNat)
  case atStart => exact ⟨0, Nat.zero_le _, rfl, rfl, 0, rfl⟩
  case round =>
    obtain ⟨k, hk, rfl, hc, n, rfl⟩ := hrel
    by_cases hlt : k < x.size
    · have hlty : k < y.size := by have := HXY.out; omega
      have hca := cmp_at x y k hlt hlty
      have HC : Hid ((if x[k].toNat < y[k].toNat then -1 else if y[k].toNat < x[k].toNat then 1 else cmpL (x.data.toList.drop (k + 1)) (y.data.toList.drop (k + 1))) = cmpL x.data.toList y.data.toList) := by
        show _ = _
        rw [← hc, hca]
      clear hca hc
      by_cases ha : (x[k].toNat : Int) < (y[k].toNat : Int)
      · have HE : Hid (cmpL x.data.toList y.data.toList = -1) := by
          show _ = _
          rw [← HC.out, if_pos (by omega)]
        go_wp2
        go_quiet (fail)
        go_wp2
        go_ret
        exact ⟨ret_int (by rw [HS.out, HE.out]), drew2 _ _ _⟩
      · by_cases hb : (y[k].toNat : Int) < (x[k].toNat : Int)
        · have HE : Hid (cmpL x.data.toList y.data.toList = 1) := by
            show _ = _
            rw [← HC.out, if_neg (by omega), if_pos (by omega)]
          go_wp2
          go_quiet (fail)
          go_wp2
          go_quiet (fail)
          go_wp2
          go_ret
          exact ⟨ret_int (by rw [HS.out, HE.out]), drew3 _ _ _ _⟩
        · have HE : Hid (cmpL (x.data.toList.drop (k + 1)) (y.data.toList.drop (k + 1)) = cmpL x.data.toList y.data.toList) := by
            show _ = _
            rw [← HC.out, if_neg (by omega), if_neg (by omega)]
          go_wp2
          go_quiet (fail)
          go_wp2
          go_quiet (fail)
          go_wp2
          go_roundw
          case rel => exact ⟨k + 1, by omega, by go_num, HE.out, _, rfl⟩
          case measure => simp [intOf]; omega
    · have HE : Hid (cmpL x.data.toList y.data.toList = 0) := by
        show _ = _
        rw [← hc, List.drop_of_length_le (by rw [size_list]; omega)]
        rfl
      clear hc
      go_wp2
      go_ret
      exact ⟨ret_int (by rw [HS.out, HE.out]), _, rfl⟩

theorem lex_any (x y : ByteArray) (w : World) (hx : x.size ≤ maxLen) (_hy : y.size ≤ maxLen) :
    Calls Tryd.prog 7 #[.string x, .string y] w fun e w' => e = .returned (.int .i64 (shortlex x.data.toList y.data.toList)) ∧ ∃ n, w' = w.drewN n := by
  by_cases h : x.size = y.size
  · exact lex_same x y w hx h
  · unfold maxLen at hx _hy
    by_cases h1 : x.size < y.size
    · have HS : Hid (shortlex x.data.toList y.data.toList = -1) := by
        show shortlex _ _ = _
        unfold shortlex
        rw [size_list, size_list, if_pos h1]
      clear h
      go_enter Tryd.func7, Tryd.ntmps7
      go_wp2
      go_ret
      exact ⟨ret_int HS.out.symm, 0, rfl⟩
    · have h2 : y.size < x.size := by omega
      have HS : Hid (shortlex x.data.toList y.data.toList = 1) := by
        show shortlex _ _ = _
        unfold shortlex
        rw [size_list, size_list, if_neg h1, if_pos h2]
      clear h
      go_enter Tryd.func7, Tryd.ntmps7
      go_wp2
      go_ret
      exact ⟨ret_int HS.out.symm, 0, rfl⟩
end Go.Proofs.Qxb6603072aDoor
