/-
  internal/strconv.formatBits at base 8, walked: the numeral; one new block.
-/
import Derived.Test.Qxb6603072aDoorBits
import Derived.Laws.BitsAllLaws
import Derived.Laws.IdiomStrings
namespace Go.Proofs.Qxb6603072aDoor
open Go.RowKit Plain

theorem and_7 (x : Nat) (h : x < 18446744073709551616) : bits .and .u64 (x : Int) 7 = ((x % 8 : Nat) : Int) := by
  have e := u64_and_nat x 7 h (by omega)
  rw [Nat.and_two_pow_sub_one_eq_mod x 3] at e
  exact e

/-- The new array's cells. -/
def zeros65 : Array Value := Array.replicate 65 (.int .u8 0)
theorem zeros65_run (W : World) : (zeroValue 58).run Tryd.prog W = .ok (.agg zeros65) W := by kernel_rfl
theorem zeros65_size : zeros65.size = 65 := by simp [zeros65]

theorem dig36_fin : ∀ k : Fin 36, ((⟨#[48, 49, 50, 51, 52, 53, 54, 55, 56, 57, 97, 98, 99, 100, 101, 102, 103, 104, 105, 106, 107, 108, 109, 110, 111, 112, 113, 114, 115, 116, 117, 118, 119, 120, 121, 122]⟩ : ByteArray)[k.val]'k.isLt).toNat = (dgt k.val).toNat := by decide +kernel
theorem dig36 (k : Nat) (h : k < 36) : ((⟨#[48, 49, 50, 51, 52, 53, 54, 55, 56, 57, 97, 98, 99, 100, 101, 102, 103, 104, 105, 106, 107, 108, 109, 110, 111, 112, 113, 114, 115, 116, 117, 118, 119, 120, 121, 122]⟩ : ByteArray)[k]'h).toNat = (dgt k).toNat := dig36_fin ⟨k, h⟩

/-- The loop's state: x is left to write, acc is written, from cell m on. -/
def Inv (b u x : Nat) (acc : List UInt8) (m : Nat) (cs : Array Value) : Prop :=
  num b x ++ acc = num b u ∧ acc.length + m = 65 ∧ cs.size = 65 ∧ ∀ j (hj : j < acc.length), cs[m + j]? = some (.int .u8 (acc[j].toNat : Int))

theorem Inv.room {b u x : Nat} {acc : List UInt8} {m : Nat} {cs : Array Value} (h : Inv b u x acc m cs) (hb : 2 ≤ b) (hu : u < 18446744073709551616) : 2 ≤ m ∧ m ≤ 65 := by
  obtain ⟨h1, h2, _, _⟩ := h
  have e := congrArg List.length h1
  rw [List.length_append] at e
  have p := num_pos b x hb
  have q := num_len64 b u hb hu
  omega

theorem Inv.cell {b u x : Nat} {acc : List UInt8} {m : Nat} {cs : Array Value} (h : Inv b u x acc m cs) (k : Nat) (hk : k < 65) : ∃ v, cs[k]? = some v :=
  ⟨cs[k]'(by rw [h.2.2.1]; exact hk), Array.getElem?_eq_getElem _⟩

theorem Inv.put {acc : List UInt8} {m : Nat} {cs : Array Value} (c : UInt8) (h2 : acc.length + (m + 1) = 65) (h3 : cs.size = 65)
    (h4 : ∀ j (hj : j < acc.length), cs[m + 1 + j]? = some (.int .u8 (acc[j].toNat : Int))) :
    ∀ j (hj : j < (c :: acc).length), (cs.setIfInBounds m (.int .u8 (c.toNat : Int)))[m + j]? = some (.int .u8 ((c :: acc)[j].toNat : Int)) := by
  intro j hj
  cases j with
  | zero => simp [Array.getElem?_setIfInBounds, h3]; omega
  | succ j =>
    have hj' : j < acc.length := by simpa using hj
    rw [Array.getElem?_setIfInBounds, if_neg (by omega)]
    have := h4 j hj'
    rw [show m + (j + 1) = m + 1 + j by omega, this]
    rfl

theorem Inv.step {b u x : Nat} {acc : List UInt8} {m : Nat} {cs : Array Value} (h : Inv b u x acc (m + 1) cs) (hb : 2 ≤ b) (hx : ¬ x < b) :
    Inv b u (x / b) (dgt (x % b) :: acc) m (cs.setIfInBounds m (.int .u8 ((dgt (x % b)).toNat : Int))) := by
  obtain ⟨h1, h2, h3, h4⟩ := h
  refine ⟨?_, by simp; omega, by simp [h3], Inv.put _ h2 h3 h4⟩
  rw [← h1, num_big b x hb hx]
  simp

theorem Inv.last {b u x : Nat} {acc : List UInt8} {m : Nat} {cs : Array Value} (h : Inv b u x acc (m + 1) cs) (hx : x < b) :
    (num b u).length + m = 65 ∧ ∀ j (hj : j < (num b u).length), (cs.setIfInBounds m (.int .u8 ((dgt x).toNat : Int)))[m + j]? = some (.int .u8 ((num b u)[j].toNat : Int)) := by
  obtain ⟨h1, h2, h3, h4⟩ := h
  rw [num_small b x hx] at h1
  have e : num b u = dgt x :: acc := by rw [← h1]; rfl
  refine ⟨by rw [e]; simp; omega, ?_⟩
  rw [e]
  exact Inv.put _ h2 h3 h4

theorem arr65 : Tryd.prog.arrayLen 58 = 65 := by simp [Program.arrayLen, Tryd.underlying58]

/-- 'a[i:]' of the array. -/
theorem slice65 (N m : Nat) (hm : m ≤ 64) (W : World) :
    (Instr.sliceAt 58 (.pointer (some ⟨N, 0, none⟩)) (some (.int .i64 (m : Int))) none none).run Tryd.prog W = .ok (.slice (some ⟨N, m, none⟩) (65 - m) (65 - m)) W := by
  rw [run_sliceAt_array_l W 58 ⟨N, 0, none⟩ (by simp [Program.arrayLen, Program.elem, Tryd.underlying58]) .i64 (m : Int) (by omega) (by rw [arr65]; omega), arr65]
  go_simp
  omega

/-- 'string(a[i:])' of the array: the numeral. -/
theorem text65 {b u x : Nat} {acc : List UInt8} {m : Nat} {cs : Array Value} (h : Inv b u x acc (m + 1) cs) (hx : x < b) (w : World) :
    (convert 31 9 (.slice (some ⟨w.heap.size, m, none⟩) (65 - m) (65 - m))).run Tryd.prog (w.alloc (.cells (cs.setIfInBounds m (.int .u8 ((dgt x).toNat : Int))) 58)) =
      .ok (.string ⟨(num b u).toArray⟩) (w.alloc (.cells (cs.setIfInBounds m (.int .u8 ((dgt x).toNat : Int))) 58)) := by
  obtain ⟨h1, h2⟩ := h.last hx
  have e : 65 - m = (num b u).length := by omega
  have c := run_convert_bytes_back (P := Tryd.prog) (w.alloc (.cells (cs.setIfInBounds m (.int .u8 ((dgt x).toNat : Int))) 58)) 31 9 5 ⟨w.heap.size, m, none⟩ (65 - m) (num b u) Tryd.underlying31 Tryd.underlying5 Tryd.underlying9 (fun j hj => by
    rw [Lib.add_plain, World.cell?_alloc_new]
    exact h2 j hj)
  rw [← e] at c
  exact c

theorem Inv.start (b u : Nat) : Inv b u u [] 65 zeros65 := ⟨by simp, rfl, zeros65_size, fun j hj => absurd hj (Nat.not_lt_zero _)⟩

set_option maxHeartbeats 1600000 in
theorem bits_8 (u : Nat) (hu : u < 18446744073709551616) (w : World) (h2 : 2 < w.heap.size) (ht : w.cell? ⟨2, 7, none⟩ = some (.int .u8 3)) :
    Calls Tryd.prog 22 #[.slice none 0 0, .int .u64 u, .int .i64 8, .bool false, .bool false] w fun e w' => e = .returned (.tuple #[.slice none 0 0, .string ⟨(num 8 u).toArray⟩]) ∧ ∃ cs, w' = w.alloc (.cells cs 58) := by
  have ht2 : ∀ o, (w.alloc o).cell? ⟨2, 7, none⟩ = some (.int .u8 3) := fun o => (World.cell?_alloc_past _ _ _ h2).trans ht
  have hz := zeros65_run
  go_enter Tryd.func22, Tryd.ntmps22
  go_wp2_with (first
    | (go_at_call 26; refine (pow2_8 _).mono ?_; rintro e w' ⟨rfl, rfl⟩)
    | (go_at_call 27; refine (tz_8 _ (ht2 _)).mono ?_; rintro e w' ⟨rfl, rfl⟩))
  clear ht2 hz ht
  go_loopw [1, 13] (fun v i wr => ∃ (x : Nat) (acc : List UInt8) (m : Nat) (cs : Array Value), Inv 8 u x acc m cs ∧ x < 18446744073709551616 ∧ v = .int .u64 (x : Int) ∧ i = .int .i64 (m : Int) ∧ wr = w.alloc (.cells cs 58)) (fun v _ _ => (intOf v).toNat)
  case atStart => exact ⟨u, [], 65, zeros65, Inv.start 8 u, hu, rfl, rfl, rfl⟩
  case round =>
    obtain ⟨x, acc, m, cs, hI, hx, rfl, rfl, rfl⟩ := hrel
    have hm := hI.room (by omega) hu
    obtain ⟨m, rfl⟩ : ∃ k, m = k + 1 := ⟨m - 1, by omega⟩
    obtain ⟨v0, hv0⟩ := hI.cell m (by omega)
    have HI : Hid (Inv 8 u x acc (m + 1) cs) := hI
    clear hI
    by_cases hge : x < 8
    · have hd := dig36 x (by omega)
      have hsl := slice65 w.heap.size m (by omega)
      have hcv := text65 HI.out hge w
      go_wp2
      go_ret2
      exact ⟨rfl, _, rfl⟩
    · have hand := and_7 x hx
      have hlt : x % 8 < 36 := by omega
      have hd := dig36 (x % 8) hlt
      go_wp2
      go_roundw
      case rel =>
        have hs := HI.out.step (by omega) hge
        refine ⟨x / 8, dgt (x % 8) :: acc, m, _, hs, by omega, by go_num, rfl, ?_⟩
        rfl
      case measure => simp [intOf]; omega
end Go.Proofs.Qxb6603072aDoor
