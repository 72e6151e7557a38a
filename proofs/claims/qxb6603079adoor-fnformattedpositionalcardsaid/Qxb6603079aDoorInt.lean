/-
  zzAppendInt, walked: the decimal numeral appended.
-/
import Derived.Test.Qxb6603079aDoorOut
namespace Go.Proofs.Qxb6603079aDoor
open Go.RowKit Plain

/-- The new array's cells. -/
def zeros20 : Array Value := Array.replicate 20 (.int .u8 0)
theorem zeros20_run (W : World) : (zeroValue 44).run Tryd.prog W = .ok (.agg zeros20) W := by kernel_rfl
theorem zeros20_size : zeros20.size = 20 := by simp [zeros20]

/-- The loop's state: x is left to write, acc is written, from cell m on. -/
def Inv (u x : Nat) (acc : List UInt8) (m : Nat) (cs : Array Value) : Prop :=
  Lib.decDigits x ++ acc = Lib.decDigits u ∧ acc.length + m = 20 ∧ cs.size = 20 ∧ ∀ j (hj : j < acc.length), cs[m + j]? = some (.int .u8 (acc[j].toNat : Int))

def dgt (x : Nat) : UInt8 := UInt8.ofNat (48 + x % 10)
theorem dgt_toNat (x : Nat) : (dgt x).toNat = 48 + x % 10 := by
  unfold dgt; simp [UInt8.toNat_ofNat]; omega
theorem dec_small (x : Nat) (h : x < 10) : Lib.decDigits x = [dgt x] := by
  rw [Lib.decDigits_one h]; unfold dgt; rw [Nat.mod_eq_of_lt h]
theorem dec_big (x : Nat) (h : ¬ x < 10) : Lib.decDigits x = Lib.decDigits (x / 10) ++ [dgt x] := by
  rw [Lib.decDigits, dif_neg h]; rfl
theorem dec_pos (x : Nat) : 1 ≤ (Lib.decDigits x).length := by rw [Lib.decDigits_length]; exact Lib.nDigits_pos x
theorem dec_len20 (u : Nat) (h : u < 18446744073709551616) : (Lib.decDigits u).length ≤ 20 := by
  rw [Lib.decDigits_length]
  by_cases h0 : u = 0
  · subst h0; rw [Lib.nDigits_small (by omega)]; omega
  · have := Lib.numDigits_eq u (by omega) h; split at this <;> omega

theorem Inv.room {u x : Nat} {acc : List UInt8} {m : Nat} {cs : Array Value} (h : Inv u x acc m cs) (hu : u < 18446744073709551616) : 1 ≤ m ∧ m ≤ 20 := by
  obtain ⟨h1, h2, _, _⟩ := h
  have e := congrArg List.length h1
  rw [List.length_append] at e
  have p := dec_pos x
  have q := dec_len20 u hu
  omega

theorem Inv.cell {u x : Nat} {acc : List UInt8} {m : Nat} {cs : Array Value} (h : Inv u x acc m cs) (k : Nat) (hk : k < 20) : ∃ v, cs[k]? = some v :=
  ⟨cs[k]'(by rw [h.2.2.1]; exact hk), Array.getElem?_eq_getElem _⟩

theorem put_cell {acc : List UInt8} {m : Nat} {cs : Array Value} (c : UInt8) (h2 : acc.length + (m + 1) = 20) (h3 : cs.size = 20)
    (h4 : ∀ j (hj : j < acc.length), cs[m + 1 + j]? = some (.int .u8 (acc[j].toNat : Int))) :
    ∀ j (hj : j < (c :: acc).length), (cs.setIfInBounds m (.int .u8 (c.toNat : Int)))[m + j]? = some (.int .u8 ((c :: acc)[j].toNat : Int)) := by
  intro j hj
  cases j with
  | zero => simp [Array.getElem?_setIfInBounds, h3]; omega
  | succ j =>
    have hj' : j < acc.length := by simpa using hj
    rw [Array.getElem?_setIfInBounds, if_neg (by omega)]
    have := h4 j hj'
    rw [show m + (j + 1) = m + 1 + j by omega, this]
    rfl

theorem Inv.step {u x : Nat} {acc : List UInt8} {m : Nat} {cs : Array Value} (h : Inv u x acc (m + 1) cs) (hx : ¬ x < 10) :
    Inv u (x / 10) (dgt x :: acc) m (cs.setIfInBounds m (.int .u8 ((dgt x).toNat : Int))) := by
  obtain ⟨h1, h2, h3, h4⟩ := h
  refine ⟨?_, by simp; omega, by simp [h3], put_cell _ h2 h3 h4⟩
  rw [← h1, dec_big x hx]
  simp

theorem Inv.last {u x : Nat} {acc : List UInt8} {m : Nat} {cs : Array Value} (h : Inv u x acc (m + 1) cs) (hx : x < 10) :
    (Lib.decDigits u).length + m = 20 ∧ ∀ j (hj : j < (Lib.decDigits u).length), (cs.setIfInBounds m (.int .u8 ((dgt x).toNat : Int)))[m + j]? = some (.int .u8 ((Lib.decDigits u)[j].toNat : Int)) := by
  obtain ⟨h1, h2, h3, h4⟩ := h
  rw [dec_small x hx] at h1
  have e : Lib.decDigits u = dgt x :: acc := by rw [← h1]; rfl
  refine ⟨by rw [e]; simp; omega, ?_⟩
  rw [e]
  exact put_cell _ h2 h3 h4

theorem Inv.start (u : Nat) : Inv u u [] 20 zeros20 := ⟨by simp, rfl, zeros20_size, fun j hj => absurd hj (Nat.not_lt_zero _)⟩

theorem arr20 : Tryd.prog.arrayLen 44 = 20 := by simp [Program.arrayLen, Tryd.underlying44]
/-- 'buf[i:]' of the array. -/
theorem slice20 (N m : Nat) (hm : m ≤ 19) (W : World) :
    (Instr.sliceAt 44 (.pointer (some ⟨N, 0, .none⟩)) (some (.int .i64 (m : Int))) .none .none).run Tryd.prog W = .ok (.slice (some ⟨N, m, .none⟩) (20 - m) (20 - m)) W := by
  rw [run_sliceAt_array_l W 44 ⟨N, 0, .none⟩ (by simp [Program.arrayLen, Program.elem, Tryd.underlying44]) .i64 (m : Int) (by omega) (by rw [arr20]; omega), arr20]
  go_simp
  omega

/-- The byte as the walk comes to it. -/
theorem dgt_int (x : Nat) : ((dgt x).toNat : Int) = 48 + (x : Int) % 10 := by rw [dgt_toNat]; omega

/-- The last round's array: its cells from m on are the numeral. -/
theorem last_int {u x : Nat} {acc : List UInt8} {m : Nat} {cs : Array Value} (h : Inv u x acc (m + 1) cs) (hx : x < 10) (w : World) :
    (Lib.decDigits u).length + m = 20 ∧ ∀ j (hj : j < (Lib.decDigits u).length), (w.alloc (.cells (cs.setIfInBounds m (.int .u8 (48 + (x : Int) % 10))) 44)).cell? ⟨w.heap.size, m + j, .none⟩ = some (.int .u8 ((Lib.decDigits u)[j].toNat : Int)) := by
  obtain ⟨h1, h2⟩ := h.last hx
  refine ⟨h1, fun j hj => ?_⟩
  rw [World.cell?_alloc_new, ← dgt_int]
  exact h2 j hj

set_option maxHeartbeats 1600000 in
theorem int_pos (B : Nat) (v0 : Value) (l : List UInt8) (u : Nat) (w : World) (hu : u < 9223372036854775808) (h : Out B v0 l w) (hl : l.length ≤ 900000) :
    Calls Tryd.prog 14 #[v0, .int .i64 u] w fun e w' => ∃ v', e = .returned v' ∧ Out B v' (l ++ Lib.decDigits u) w' ∧ Below B w w' := by
  have hz := zeros20_run
  have hB := h.2
  have H : Hid (Out B v0 l w) := h
  have hdl := dec_len20 u (by omega)
  clear h
  go_enter Tryd.func14, Tryd.ntmps14
  go_wp2
  clear hz
  go_loopw [5, 7] (fun uu i wr => ∃ (x : Nat) (acc : List UInt8) (m : Nat) (cs : Array Value), Inv u x acc m cs ∧ x < 18446744073709551616 ∧ uu = .int .u64 (x : Int) ∧ i = .int .i64 (m : Int) ∧ wr = w.alloc (.cells cs 44)) (fun uu _ _ => (intOf uu).toNat)
  case atStart => exact ⟨u, [], 20, zeros20, Inv.start u, by omega, rfl, rfl, rfl⟩
  case round =>
    obtain ⟨x, acc, m, cs, hI, hx, rfl, rfl, rfl⟩ := hrel
    have hm := hI.room (by omega)
    obtain ⟨m, rfl⟩ : ∃ k, m = k + 1 := ⟨m - 1, by omega⟩
    obtain ⟨c0, hc0⟩ := hI.cell m (by omega)
    have HI : Hid (Inv u x acc (m + 1) cs) := hI
    clear hI
    by_cases hlt : x < 10
    · have hq : ((x : Int) / 10 == 0) = true := by rw [beq_iff_eq]; omega
      have hsl := slice20 w.heap.size m (by omega)
      have HE := Lib.hid (last_int HI.out hlt w)
      go_wp2_with (at_builtin; refine pushRow rfl _ _ rfl (H.out.alloc _) (Lib.decDigits u) w.heap.size m (20 - m) (20 - m) (by have := HE.out.1; omega) rfl rfl HE.out.2 (by omega) (by omega) ?_)
      intro v' w' hO hb
      go_wp2
      go_ret
      exact ⟨v', rfl, hO, ((Below.refl B w).alloc hB _).trans hb⟩
    · have hq : ((x : Int) / 10 == 0) = false := beq_eq_false_iff_ne.2 (by omega)
      go_wp2
      go_roundw
      case rel =>
        have hs := HI.out.step hlt
        rw [dgt_int] at hs
        exact ⟨x / 10, dgt x :: acc, m, _, hs, by omega, by go_num, rfl, rfl⟩
      case measure => simp [intOf]; omega

set_option maxHeartbeats 1600000 in
theorem int_neg (B : Nat) (v0 : Value) (l : List UInt8) (u : Nat) (w : World) (hu1 : 1 ≤ u) (hu : u < 9223372036854775808) (h : Out B v0 l w) (hl : l.length ≤ 900000) :
    Calls Tryd.prog 14 #[v0, .int .i64 (-(u : Int))] w fun e w' => ∃ v', e = .returned v' ∧ Out B v' (l ++ 45 :: Lib.decDigits u) w' ∧ Below B w w' := by
  have hz := zeros20_run
  have hB := h.2
  have H : Hid (Out B v0 l w) := h
  have hdl := dec_len20 u (by omega)
  clear h
  go_enter Tryd.func14, Tryd.ntmps14
  go_wp2_with (at_builtin; refine push1 rfl _ _ rfl H.out 45 45 e45 5 rfl rfl (by omega) ?_)
  intro v1 w1 hO1 hb1
  have H1 : Hid (Out B v1 (l ++ [45]) w1) := hO1
  have hB1 := hO1.2
  clear hO1
  go_wp2
  clear hz
  go_loopw [5, 7] (fun uu i wr => ∃ (x : Nat) (acc : List UInt8) (m : Nat) (cs : Array Value), Inv u x acc m cs ∧ x < 18446744073709551616 ∧ uu = .int .u64 (x : Int) ∧ i = .int .i64 (m : Int) ∧ wr = w1.alloc (.cells cs 44)) (fun uu _ _ => (intOf uu).toNat)
  case atStart => exact ⟨u, [], 20, zeros20, Inv.start u, by omega, by go_num, rfl, rfl⟩
  case round =>
    obtain ⟨x, acc, m, cs, hI, hx, rfl, rfl, rfl⟩ := hrel
    have hm := hI.room (by omega)
    obtain ⟨m, rfl⟩ : ∃ k, m = k + 1 := ⟨m - 1, by omega⟩
    obtain ⟨c0, hc0⟩ := hI.cell m (by omega)
    have HI : Hid (Inv u x acc (m + 1) cs) := hI
    clear hI
    by_cases hlt : x < 10
    · have hq : ((x : Int) / 10 == 0) = true := by rw [beq_iff_eq]; omega
      have hsl := slice20 w1.heap.size m (by omega)
      have HE := Lib.hid (last_int HI.out hlt w1)
      go_wp2_with (at_builtin; refine pushRow rfl _ _ rfl (H1.out.alloc _) (Lib.decDigits u) w1.heap.size m (20 - m) (20 - m) (by have := HE.out.1; omega) rfl rfl HE.out.2 (by simp; omega) (by omega) ?_)
      intro v' w' hO hb
      go_wp2
      go_ret
      exact ⟨v', rfl, by simpa using hO, hb1.trans (((Below.refl B w1).alloc hB1 _).trans hb)⟩
    · have hq : ((x : Int) / 10 == 0) = false := beq_eq_false_iff_ne.2 (by omega)
      go_wp2
      go_roundw
      case rel =>
        have hs := HI.out.step hlt
        rw [dgt_int] at hs
        exact ⟨x / 10, dgt x :: acc, m, _, hs, by omega, by go_num, rfl, rfl⟩
      case measure => simp [intOf]; omega

/-- zzAppendInt: the numeral appended. -/
theorem int_any (B : Nat) (v0 : Value) (l : List UInt8) (n : Int) (w : World) (h0 : -9223372036854775808 < n) (h1 : n < 9223372036854775808) (h : Out B v0 l w) (hl : l.length ≤ 900000) :
    Calls Tryd.prog 14 #[v0, .int .i64 n] w fun e w' => ∃ v', e = .returned v' ∧ Out B v' (l ++ Lib.itoa n) w' ∧ Below B w w' := by
  by_cases hn : n < 0
  · obtain ⟨u, rfl⟩ : ∃ u : Nat, n = -(u : Int) := ⟨n.natAbs, by omega⟩
    rw [Lib.itoa_neg u (by omega)]
    exact int_neg B v0 l u w (by omega) (by omega) h hl
  · obtain ⟨u, rfl⟩ : ∃ u : Nat, n = u := ⟨n.toNat, by omega⟩
    rw [Lib.itoa_nonneg]
    exact int_pos B v0 l u w (by omega) h hl
end Go.Proofs.Qxb6603079aDoor
