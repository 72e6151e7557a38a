/-
  internal/strconv.formatBits at base 16, walked; FormatUint at the bases 8, 16 and 10.
-/
import Derived.Test.Qxb6603072aDoorBits8
import Derived.Test.Qxb6603072aDoorShelf
namespace Go.Proofs.Qxb6603072aDoor
open Go.RowKit Plain

theorem and_15 (x : Nat) (h : x < 18446744073709551616) : bits .and .u64 (x : Int) 15 = ((x % 16 : Nat) : Int) := by
  have e := u64_and_nat x 15 h (by omega)
  rw [Nat.and_two_pow_sub_one_eq_mod x 4] at e
  exact e

set_option maxHeartbeats 1600000 in
theorem bits_16 (u : Nat) (hu : u < 18446744073709551616) (w : World) (h2 : 2 < w.heap.size) (ht : w.cell? ⟨2, 15, none⟩ = some (.int .u8 4)) :
    Calls Tryd.prog 22 #[.slice none 0 0, .int .u64 u, .int .i64 16, .bool false, .bool false] w fun e w' => e = .returned (.tuple #[.slice none 0 0, .string ⟨(num 16 u).toArray⟩]) ∧ ∃ cs, w' = w.alloc (.cells cs 58) := by
  have ht2 : ∀ o, (w.alloc o).cell? ⟨2, 15, none⟩ = some (.int .u8 4) := fun o => (World.cell?_alloc_past _ _ _ h2).trans ht
  have hz := zeros65_run
  go_enter Tryd.func22, Tryd.ntmps22
  go_wp2_with (first
    | (go_at_call 26; refine (pow2_16 _).mono ?_; rintro e w' ⟨rfl, rfl⟩)
    | (go_at_call 27; refine (tz_16 _ (ht2 _)).mono ?_; rintro e w' ⟨rfl, rfl⟩))
  clear ht2 hz ht
  go_loopw [1, 13] (fun v i wr => ∃ (x : Nat) (acc : List UInt8) (m : Nat) (cs : Array Value), Inv 16 u x acc m cs ∧ x < 18446744073709551616 ∧ v = .int .u64 (x : Int) ∧ i = .int .i64 (m : Int) ∧ wr = w.alloc (.cells cs 58)) (fun v _ _ => (intOf v).toNat)
  case atStart => exact ⟨u, [], 65, zeros65, Inv.start 16 u, hu, rfl, rfl, rfl⟩
  case round =>
    obtain ⟨x, acc, m, cs, hI, hx, rfl, rfl, rfl⟩ := hrel
    have hm := hI.room (by omega) hu
    obtain ⟨m, rfl⟩ : ∃ k, m = k + 1 := ⟨m - 1, by omega⟩
    obtain ⟨v0, hv0⟩ := hI.cell m (by omega)
    have HI : Hid (Inv 16 u x acc (m + 1) cs) := hI
    clear hI
    by_cases hge : x < 16
    · have hd := dig36 x (by omega)
      have hsl := slice65 w.heap.size m (by omega)
      have hcv := text65 HI.out hge w
      go_wp2
      go_ret2
      exact ⟨rfl, _, rfl⟩
    · have hand := and_15 x hx
      have hlt : x % 16 < 36 := by omega
      have hd := dig36 (x % 16) hlt
      go_wp2
      go_roundw
      case rel =>
        have hs := HI.out.step (by omega) hge
        refine ⟨x / 16, dgt (x % 16) :: acc, m, _, hs, by omega, by go_num, rfl, ?_⟩
        rfl
      case measure => simp [intOf]; omega

theorem fu_8 (u : Nat) (hu : u < 18446744073709551616) (w : World) (h2 : 2 < w.heap.size) (ht : w.cell? ⟨2, 7, none⟩ = some (.int .u8 3)) :
    Calls Tryd.prog 15 #[.int .u64 u, .int .i64 8] w fun e w' => e = .returned (.string ⟨(num 8 u).toArray⟩) ∧ ∃ cs, w' = w.alloc (.cells cs 58) := by
  go_enter Tryd.func15, Tryd.ntmps15
  go_wp2_with (first
    | (go_at_call 22; refine (bits_8 u hu _ h2 ht).mono ?_; rintro e w' ⟨rfl, cs, rfl⟩)
    | go_in)
  go_ret
  exact ⟨rfl, _, rfl⟩
theorem fu_16 (u : Nat) (hu : u < 18446744073709551616) (w : World) (h2 : 2 < w.heap.size) (ht : w.cell? ⟨2, 15, none⟩ = some (.int .u8 4)) :
    Calls Tryd.prog 15 #[.int .u64 u, .int .i64 16] w fun e w' => e = .returned (.string ⟨(num 16 u).toArray⟩) ∧ ∃ cs, w' = w.alloc (.cells cs 58) := by
  go_enter Tryd.func15, Tryd.ntmps15
  go_wp2_with (first
    | (go_at_call 22; refine (bits_16 u hu _ h2 ht).mono ?_; rintro e w' ⟨rfl, cs, rfl⟩)
    | go_in)
  go_ret
  exact ⟨rfl, _, rfl⟩
end Go.Proofs.Qxb6603072aDoor
