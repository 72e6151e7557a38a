/-
  zzPositional where the rounds are at most 100000, walked: one theorem a way (written by a small program of ours).
-/
import Derived.Test.Qxb6603079aDoorInt
import Derived.Test.Qxb6603079aDoorPosPlain
namespace Go.Proofs.Qxb6603079aDoor
open Go.RowKit Plain
set_option linter.unusedVariables false      -- a way need not use every bound by its name

theorem e48 : ((48 : UInt8).toNat : Int) = 48 := by decide
theorem dgAt_in (dg : ByteArray) (exp q : Int) (k : Nat) (hk : (dg.size : Int) - 1 - (q - exp) = (k : Int)) (hlt : k < dg.size) : dgAt dg.data.toList exp q = dg[k] := by
  unfold dgAt
  rw [size_list, hk, if_pos (by omega)]
  have : k < dg.data.toList.length := by rw [size_list]; exact hlt
  simp [hlt]
  rfl
theorem dgAt_out (dg : ByteArray) (exp q : Int) (h : ¬ (0 ≤ (dg.size : Int) - 1 - (q - exp) ∧ (dg.size : Int) - 1 - (q - exp) < dg.size)) : dgAt dg.data.toList exp q = 48 := by
  unfold dgAt
  rw [size_list, if_neg h]
theorem emits_ne (d : List UInt8) (exp lo : Int) (m : Nat) (p : Int) (h : 1 ≤ m) : emits d exp lo m p ≠ [] := by
  obtain ⟨k, rfl⟩ : ∃ k, m = k + 1 := ⟨m - 1, by omega⟩
  rw [emits]
  unfold emit
  split <;> simp
theorem emit_plain (d : List UInt8) (exp lo p : Int) (h : ¬ (p = 0 ∧ lo < 0)) : emit d exp lo p = [dgAt d exp p] := by unfold emit; rw [if_neg h]
theorem emit_point (d : List UInt8) (exp lo p : Int) (h : p = 0 ∧ lo < 0) : emit d exp lo p = [dgAt d exp p, 46] := by unfold emit; rw [if_pos h]

set_option maxHeartbeats 3200000 in
theorem pos_up_true (dg : ByteArray) (exp : Int) (M : Nat) (w : World) (h1 : 1 ≤ dg.size) (h2 : dg.size ≤ 100000) (hx1 : exp ≤ 4611686018427387904) (hx2 : -4611686018427387904 ≤ exp) (hlead : ¬ (dg.size : Int) + exp - 1 < 0) (hexp : 0 < exp) (hM : (M : Int) = ((dg.size : Int) + exp - 1) - (0 : Int) + 1) (hM1 : M ≤ 100000) (hM0 : 1 ≤ M) :
    Calls Tryd.prog 8 #[.bool true, .string dg, .int .i64 exp] w fun e w' => ∃ s : ByteArray, Hid (s.data.toList = sgn true ++ emits dg.data.toList exp (0 : Int) M ((dg.size : Int) + exp - 1)) ∧ e = .returned (.string s) ∧ Below w.heap.size w w' := by
  have HN : Hid (emits dg.data.toList exp (0 : Int) M ((dg.size : Int) + exp - 1) ≠ []) := emits_ne _ _ _ _ _ hM0
  have HM : Hid ((M : Int) = ((dg.size : Int) + exp - 1) - (0 : Int) + 1) := hM
  have hcnt : (dg.size : Int) + exp ≤ 100000 := by omega
  clear hM
  go_enter Tryd.func8, Tryd.ntmps8
  go_wp2_with (at_builtin; refine push1 rfl _ _ rfl (Out.nil w.heap.size w (Nat.le_refl _)) 45 45 e45 5 rfl rfl (by simp) ?_)
  intro v0 w0 hO0 hb0
  have HO0 : Hid (Out w.heap.size v0 ([] ++ [45]) w0) := hO0
  clear hO0
  go_wp2
  try simp only [Int.sub_zero, Int.sub_add_cancel, Int.zero_sub]
  go_loopw [12, 13] (fun o p wr => ∃ (m : Nat) (q : Int) (acc : List UInt8), q = (0 : Int) + m - 1 ∧ p = .int .i64 q ∧ Hid (acc ++ emits dg.data.toList exp (0 : Int) m q = emits dg.data.toList exp (0 : Int) M ((dg.size : Int) + exp - 1)) ∧ acc.length + 2 * m ≤ 2 * M ∧ Out w.heap.size o (sgn true ++ acc) wr ∧ Below w.heap.size w wr) (fun _ p _ => (intOf p - (0 : Int) + 1).toNat)
  case atStart => exact ⟨M, ((dg.size : Int) + exp - 1), [], by have := HM.out; omega, rfl, rfl, by simp, by simpa [sgn] using HO0.out, hb0⟩
  case round =>
    obtain ⟨m, q, acc, hq, rfl, HE, hlen, hO, hb⟩ := hrel
    have HO : Hid (Out w.heap.size u12 (sgn true ++ acc) wr) := hO
    have HQ : Hid (q = (0 : Int) + m - 1) := hq
    have hsz : (sgn true ++ acc).length ≤ 1000000 := by rw [List.length_append, sgn_len]; simp; omega
    have hq1 : q ≤ 4611686018427487904 := by omega
    have hq2 : -4611686018427387905 ≤ q := by omega
    clear hO
    cases m with
    | zero =>
      have hlt : q < (0 : Int) := by omega
      have HA : Hid (acc = emits dg.data.toList exp (0 : Int) M ((dg.size : Int) + exp - 1)) := by show acc = _; have := HE.out; simpa [emits] using this
      obtain ⟨s, hs⟩ : ∃ s : ByteArray, s = ⟨(sgn true ++ acc).toArray⟩ := ⟨_, rfl⟩
      have hcv := HO.out.text (by intro e; have := (List.append_eq_nil_iff.1 e).2; rw [HA.out] at this; exact HN.out this)
      rw [← hs] at hcv
      have HS : Hid (s.data.toList = sgn true ++ emits dg.data.toList exp (0 : Int) M ((dg.size : Int) + exp - 1)) := by show s.data.toList = _; rw [hs, HA.out]
      clear hs hq
      go_wp2
      go_ret
      exact ⟨s, HS, rfl, hb⟩
    | succ m =>
      have hge : (0 : Int) ≤ q := by omega
      have hHE : Hid (acc ++ emit dg.data.toList exp (0 : Int) q ++ emits dg.data.toList exp (0 : Int) m (q - 1) = emits dg.data.toList exp (0 : Int) M ((dg.size : Int) + exp - 1)) := by have := HE.out; rw [emits, ← List.append_assoc] at this; exact this
      clear hq HE
      by_cases hin : 0 ≤ (dg.size : Int) - 1 - (q - exp) ∧ (dg.size : Int) - 1 - (q - exp) < dg.size
      · obtain ⟨k, hk⟩ : ∃ k : Nat, (dg.size : Int) - 1 - (q - exp) = k := ⟨((dg.size : Int) - 1 - (q - exp)).toNat, by omega⟩
        have hklt : k < dg.size := by omega
        have HD : Hid (dgAt dg.data.toList exp q = dg[k]) := dgAt_in dg exp q k hk hklt
        clear hin
        by_cases hpt : q = 0 ∧ (0 : Int) < 0
        · exact absurd hpt.2 (by omega)
        · have HEM : Hid (emit dg.data.toList exp (0 : Int) q = [dg[k]]) := by show _ = _; rw [emit_plain _ _ _ _ hpt, HD.out]
          by_cases hq0 : q = 0
          · have hp0 : (q == 0) = true := by rw [hq0]; rfl
            have hp1 : ¬ (0 : Int) < 0 := by omega
            clear hpt hq0
            go_wp2_with (at_builtin; refine push1 rfl _ _ rfl HO.out dg[k] (dg[k].toNat : Int) rfl 5 rfl rfl hsz ?_)
            intro v1 w1 hO1 hb1
            go_wp2
            go_roundw
            case rel =>
              refine ⟨m, q - 1, acc ++ [dg[k]], by have := HQ.out; omega, by go_num, ?_, by simp; omega, by simpa using hO1, hb.trans hb1⟩
              show _ = _
              rw [← hHE.out, HEM.out]
            case measure => simp [intOf]; omega
          · have hp0 : (q == 0) = false := beq_eq_false_iff_ne.2 hq0
            clear hpt hq0
            go_wp2_with (at_builtin; refine push1 rfl _ _ rfl HO.out dg[k] (dg[k].toNat : Int) rfl 5 rfl rfl hsz ?_)
            intro v1 w1 hO1 hb1
            go_wp2
            go_roundw
            case rel =>
              refine ⟨m, q - 1, acc ++ [dg[k]], by have := HQ.out; omega, by go_num, ?_, by simp; omega, by simpa using hO1, hb.trans hb1⟩
              show _ = _
              rw [← hHE.out, HEM.out]
            case measure => simp [intOf]; omega
      · have HD : Hid (dgAt dg.data.toList exp q = 48) := dgAt_out dg exp q hin
        by_cases hneg : 0 ≤ (dg.size : Int) - 1 - (q - exp)
        · have hbig : ¬ (dg.size : Int) - 1 - (q - exp) < dg.size := by omega
          clear hin
          by_cases hpt : q = 0 ∧ (0 : Int) < 0
          · exact absurd hpt.2 (by omega)
          · have HEM : Hid (emit dg.data.toList exp (0 : Int) q = [48]) := by show _ = _; rw [emit_plain _ _ _ _ hpt, HD.out]
            by_cases hq0 : q = 0
            · have hp0 : (q == 0) = true := by rw [hq0]; rfl
              have hp1 : ¬ (0 : Int) < 0 := by omega
              clear hpt hq0
              go_wp2_with (at_builtin; refine push1 rfl _ _ rfl HO.out 48 48 e48 5 rfl rfl hsz ?_)
              intro v1 w1 hO1 hb1
              go_wp2
              go_roundw
              case rel =>
                refine ⟨m, q - 1, acc ++ [48], by have := HQ.out; omega, by go_num, ?_, by simp; omega, by simpa using hO1, hb.trans hb1⟩
                show _ = _
                rw [← hHE.out, HEM.out]
              case measure => simp [intOf]; omega
            · have hp0 : (q == 0) = false := beq_eq_false_iff_ne.2 hq0
              clear hpt hq0
              go_wp2_with (at_builtin; refine push1 rfl _ _ rfl HO.out 48 48 e48 5 rfl rfl hsz ?_)
              intro v1 w1 hO1 hb1
              go_wp2
              go_roundw
              case rel =>
                refine ⟨m, q - 1, acc ++ [48], by have := HQ.out; omega, by go_num, ?_, by simp; omega, by simpa using hO1, hb.trans hb1⟩
                show _ = _
                rw [← hHE.out, HEM.out]
              case measure => simp [intOf]; omega
        · clear hin
          by_cases hpt : q = 0 ∧ (0 : Int) < 0
          · exact absurd hpt.2 (by omega)
          · have HEM : Hid (emit dg.data.toList exp (0 : Int) q = [48]) := by show _ = _; rw [emit_plain _ _ _ _ hpt, HD.out]
            by_cases hq0 : q = 0
            · have hp0 : (q == 0) = true := by rw [hq0]; rfl
              have hp1 : ¬ (0 : Int) < 0 := by omega
              clear hpt hq0
              go_wp2_with (at_builtin; refine push1 rfl _ _ rfl HO.out 48 48 e48 5 rfl rfl hsz ?_)
              intro v1 w1 hO1 hb1
              go_wp2
              go_roundw
              case rel =>
                refine ⟨m, q - 1, acc ++ [48], by have := HQ.out; omega, by go_num, ?_, by simp; omega, by simpa using hO1, hb.trans hb1⟩
                show _ = _
                rw [← hHE.out, HEM.out]
              case measure => simp [intOf]; omega
            · have hp0 : (q == 0) = false := beq_eq_false_iff_ne.2 hq0
              clear hpt hq0
              go_wp2_with (at_builtin; refine push1 rfl _ _ rfl HO.out 48 48 e48 5 rfl rfl hsz ?_)
              intro v1 w1 hO1 hb1
              go_wp2
              go_roundw
              case rel =>
                refine ⟨m, q - 1, acc ++ [48], by have := HQ.out; omega, by go_num, ?_, by simp; omega, by simpa using hO1, hb.trans hb1⟩
                show _ = _
                rw [← hHE.out, HEM.out]
              case measure => simp [intOf]; omega

set_option maxHeartbeats 3200000 in
theorem pos_up_false (dg : ByteArray) (exp : Int) (M : Nat) (w : World) (h1 : 1 ≤ dg.size) (h2 : dg.size ≤ 100000) (hx1 : exp ≤ 4611686018427387904) (hx2 : -4611686018427387904 ≤ exp) (hlead : ¬ (dg.size : Int) + exp - 1 < 0) (hexp : 0 < exp) (hM : (M : Int) = ((dg.size : Int) + exp - 1) - (0 : Int) + 1) (hM1 : M ≤ 100000) (hM0 : 1 ≤ M) :
    Calls Tryd.prog 8 #[.bool false, .string dg, .int .i64 exp] w fun e w' => ∃ s : ByteArray, Hid (s.data.toList = sgn false ++ emits dg.data.toList exp (0 : Int) M ((dg.size : Int) + exp - 1)) ∧ e = .returned (.string s) ∧ Below w.heap.size w w' := by
  have HN : Hid (emits dg.data.toList exp (0 : Int) M ((dg.size : Int) + exp - 1) ≠ []) := emits_ne _ _ _ _ _ hM0
  have HM : Hid ((M : Int) = ((dg.size : Int) + exp - 1) - (0 : Int) + 1) := hM
  have hcnt : ((dg.size : Int) + exp - 1) - (0 : Int) + 1 ≤ 100000 := by omega
  clear hM
  go_enter Tryd.func8, Tryd.ntmps8
  have HO0 : Hid (Out w.heap.size (.slice .none 0 0) [] w) := Out.nil w.heap.size w (Nat.le_refl _)
  go_wp2
  go_loopw [12, 13] (fun o p wr => ∃ (m : Nat) (q : Int) (acc : List UInt8), q = (0 : Int) + m - 1 ∧ p = .int .i64 q ∧ Hid (acc ++ emits dg.data.toList exp (0 : Int) m q = emits dg.data.toList exp (0 : Int) M ((dg.size : Int) + exp - 1)) ∧ acc.length + 2 * m ≤ 2 * M ∧ Out w.heap.size o (sgn false ++ acc) wr ∧ Below w.heap.size w wr) (fun _ p _ => (intOf p - (0 : Int) + 1).toNat)
  case atStart => exact ⟨M, ((dg.size : Int) + exp - 1), [], by have := HM.out; omega, rfl, rfl, by simp, by simpa [sgn] using HO0.out, Below.refl _ _⟩
  case round =>
    obtain ⟨m, q, acc, hq, rfl, HE, hlen, hO, hb⟩ := hrel
    have HO : Hid (Out w.heap.size u12 (sgn false ++ acc) wr) := hO
    have HQ : Hid (q = (0 : Int) + m - 1) := hq
    have hsz : (sgn false ++ acc).length ≤ 1000000 := by rw [List.length_append, sgn_len]; simp; omega
    have hq1 : q ≤ 4611686018427487904 := by omega
    have hq2 : -4611686018427387905 ≤ q := by omega
    clear hO
    cases m with
    | zero =>
      have hlt : q < (0 : Int) := by omega
      have HA : Hid (acc = emits dg.data.toList exp (0 : Int) M ((dg.size : Int) + exp - 1)) := by show acc = _; have := HE.out; simpa [emits] using this
      obtain ⟨s, hs⟩ : ∃ s : ByteArray, s = ⟨(sgn false ++ acc).toArray⟩ := ⟨_, rfl⟩
      have hcv := HO.out.text (by intro e; have := (List.append_eq_nil_iff.1 e).2; rw [HA.out] at this; exact HN.out this)
      rw [← hs] at hcv
      have HS : Hid (s.data.toList = sgn false ++ emits dg.data.toList exp (0 : Int) M ((dg.size : Int) + exp - 1)) := by show s.data.toList = _; rw [hs, HA.out]
      clear hs hq
      go_wp2
      go_ret
      exact ⟨s, HS, rfl, hb⟩
    | succ m =>
      have hge : (0 : Int) ≤ q := by omega
      have hHE : Hid (acc ++ emit dg.data.toList exp (0 : Int) q ++ emits dg.data.toList exp (0 : Int) m (q - 1) = emits dg.data.toList exp (0 : Int) M ((dg.size : Int) + exp - 1)) := by have := HE.out; rw [emits, ← List.append_assoc] at this; exact this
      clear hq HE
      by_cases hin : 0 ≤ (dg.size : Int) - 1 - (q - exp) ∧ (dg.size : Int) - 1 - (q - exp) < dg.size
      · obtain ⟨k, hk⟩ : ∃ k : Nat, (dg.size : Int) - 1 - (q - exp) = k := ⟨((dg.size : Int) - 1 - (q - exp)).toNat, by omega⟩
        have hklt : k < dg.size := by omega
        have HD : Hid (dgAt dg.data.toList exp q = dg[k]) := dgAt_in dg exp q k hk hklt
        clear hin
        by_cases hpt : q = 0 ∧ (0 : Int) < 0
        · exact absurd hpt.2 (by omega)
        · have HEM : Hid (emit dg.data.toList exp (0 : Int) q = [dg[k]]) := by show _ = _; rw [emit_plain _ _ _ _ hpt, HD.out]
          by_cases hq0 : q = 0
          · have hp0 : (q == 0) = true := by rw [hq0]; rfl
            have hp1 : ¬ (0 : Int) < 0 := by omega
            clear hpt hq0
            go_wp2_with (at_builtin; refine push1 rfl _ _ rfl HO.out dg[k] (dg[k].toNat : Int) rfl 5 rfl rfl hsz ?_)
            intro v1 w1 hO1 hb1
            go_wp2
            go_roundw
            case rel =>
              refine ⟨m, q - 1, acc ++ [dg[k]], by have := HQ.out; omega, by go_num, ?_, by simp; omega, by simpa using hO1, hb.trans hb1⟩
              show _ = _
              rw [← hHE.out, HEM.out]
            case measure => simp [intOf]; omega
          · have hp0 : (q == 0) = false := beq_eq_false_iff_ne.2 hq0
            clear hpt hq0
            go_wp2_with (at_builtin; refine push1 rfl _ _ rfl HO.out dg[k] (dg[k].toNat : Int) rfl 5 rfl rfl hsz ?_)
            intro v1 w1 hO1 hb1
            go_wp2
            go_roundw
            case rel =>
              refine ⟨m, q - 1, acc ++ [dg[k]], by have := HQ.out; omega, by go_num, ?_, by simp; omega, by simpa using hO1, hb.trans hb1⟩
              show _ = _
              rw [← hHE.out, HEM.out]
            case measure => simp [intOf]; omega
      · have HD : Hid (dgAt dg.data.toList exp q = 48) := dgAt_out dg exp q hin
        by_cases hneg : 0 ≤ (dg.size : Int) - 1 - (q - exp)
        · have hbig : ¬ (dg.size : Int) - 1 - (q - exp) < dg.size := by omega
          clear hin
          by_cases hpt : q = 0 ∧ (0 : Int) < 0
          · exact absurd hpt.2 (by omega)
          · have HEM : Hid (emit dg.data.toList exp (0 : Int) q = [48]) := by show _ = _; rw [emit_plain _ _ _ _ hpt, HD.out]
            by_cases hq0 : q = 0
            · have hp0 : (q == 0) = true := by rw [hq0]; rfl
              have hp1 : ¬ (0 : Int) < 0 := by omega
              clear hpt hq0
              go_wp2_with (at_builtin; refine push1 rfl _ _ rfl HO.out 48 48 e48 5 rfl rfl hsz ?_)
              intro v1 w1 hO1 hb1
              go_wp2
              go_roundw
              case rel =>
                refine ⟨m, q - 1, acc ++ [48], by have := HQ.out; omega, by go_num, ?_, by simp; omega, by simpa using hO1, hb.trans hb1⟩
                show _ = _
                rw [← hHE.out, HEM.out]
              case measure => simp [intOf]; omega
            · have hp0 : (q == 0) = false := beq_eq_false_iff_ne.2 hq0
              clear hpt hq0
              go_wp2_with (at_builtin; refine push1 rfl _ _ rfl HO.out 48 48 e48 5 rfl rfl hsz ?_)
              intro v1 w1 hO1 hb1
              go_wp2
              go_roundw
              case rel =>
                refine ⟨m, q - 1, acc ++ [48], by have := HQ.out; omega, by go_num, ?_, by simp; omega, by simpa using hO1, hb.trans hb1⟩
                show _ = _
                rw [← hHE.out, HEM.out]
              case measure => simp [intOf]; omega
        · clear hin
          by_cases hpt : q = 0 ∧ (0 : Int) < 0
          · exact absurd hpt.2 (by omega)
          · have HEM : Hid (emit dg.data.toList exp (0 : Int) q = [48]) := by show _ = _; rw [emit_plain _ _ _ _ hpt, HD.out]
            by_cases hq0 : q = 0
            · have hp0 : (q == 0) = true := by rw [hq0]; rfl
              have hp1 : ¬ (0 : Int) < 0 := by omega
              clear hpt hq0
              go_wp2_with (at_builtin; refine push1 rfl _ _ rfl HO.out 48 48 e48 5 rfl rfl hsz ?_)
              intro v1 w1 hO1 hb1
              go_wp2
              go_roundw
              case rel =>
                refine ⟨m, q - 1, acc ++ [48], by have := HQ.out; omega, by go_num, ?_, by simp; omega, by simpa using hO1, hb.trans hb1⟩
                show _ = _
                rw [← hHE.out, HEM.out]
              case measure => simp [intOf]; omega
            · have hp0 : (q == 0) = false := beq_eq_false_iff_ne.2 hq0
              clear hpt hq0
              go_wp2_with (at_builtin; refine push1 rfl _ _ rfl HO.out 48 48 e48 5 rfl rfl hsz ?_)
              intro v1 w1 hO1 hb1
              go_wp2
              go_roundw
              case rel =>
                refine ⟨m, q - 1, acc ++ [48], by have := HQ.out; omega, by go_num, ?_, by simp; omega, by simpa using hO1, hb.trans hb1⟩
                show _ = _
                rw [← hHE.out, HEM.out]
              case measure => simp [intOf]; omega

set_option maxHeartbeats 3200000 in
theorem pos_mid_true (dg : ByteArray) (exp : Int) (M : Nat) (w : World) (h1 : 1 ≤ dg.size) (h2 : dg.size ≤ 100000) (hx1 : exp ≤ 4611686018427387904) (hx2 : -4611686018427387904 ≤ exp) (hlead : ¬ (dg.size : Int) + exp - 1 < 0) (hexp : ¬ 0 < exp) (hM : (M : Int) = ((dg.size : Int) + exp - 1) - exp + 1) (hM1 : M ≤ 100000) (hM0 : 1 ≤ M) :
    Calls Tryd.prog 8 #[.bool true, .string dg, .int .i64 exp] w fun e w' => ∃ s : ByteArray, Hid (s.data.toList = sgn true ++ emits dg.data.toList exp exp M ((dg.size : Int) + exp - 1)) ∧ e = .returned (.string s) ∧ Below w.heap.size w w' := by
  have HN : Hid (emits dg.data.toList exp exp M ((dg.size : Int) + exp - 1) ≠ []) := emits_ne _ _ _ _ _ hM0
  have HM : Hid ((M : Int) = ((dg.size : Int) + exp - 1) - exp + 1) := hM
  have hcnt : ((dg.size : Int) + exp - 1) - exp + 1 ≤ 100000 := by omega
  clear hM
  go_enter Tryd.func8, Tryd.ntmps8
  go_wp2_with (at_builtin; refine push1 rfl _ _ rfl (Out.nil w.heap.size w (Nat.le_refl _)) 45 45 e45 5 rfl rfl (by simp) ?_)
  intro v0 w0 hO0 hb0
  have HO0 : Hid (Out w.heap.size v0 ([] ++ [45]) w0) := hO0
  clear hO0
  go_wp2
  try simp only [Int.sub_zero, Int.sub_add_cancel, Int.zero_sub]
  go_loopw [12, 13] (fun o p wr => ∃ (m : Nat) (q : Int) (acc : List UInt8), q = exp + m - 1 ∧ p = .int .i64 q ∧ Hid (acc ++ emits dg.data.toList exp exp m q = emits dg.data.toList exp exp M ((dg.size : Int) + exp - 1)) ∧ acc.length + 2 * m ≤ 2 * M ∧ Out w.heap.size o (sgn true ++ acc) wr ∧ Below w.heap.size w wr) (fun _ p _ => (intOf p - exp + 1).toNat)
  case atStart => exact ⟨M, ((dg.size : Int) + exp - 1), [], by have := HM.out; omega, rfl, rfl, by simp, by simpa [sgn] using HO0.out, hb0⟩
  case round =>
    obtain ⟨m, q, acc, hq, rfl, HE, hlen, hO, hb⟩ := hrel
    have HO : Hid (Out w.heap.size u12 (sgn true ++ acc) wr) := hO
    have HQ : Hid (q = exp + m - 1) := hq
    have hsz : (sgn true ++ acc).length ≤ 1000000 := by rw [List.length_append, sgn_len]; simp; omega
    have hq1 : q ≤ 4611686018427487904 := by omega
    have hq2 : -4611686018427387905 ≤ q := by omega
    clear hO
    cases m with
    | zero =>
      have hlt : q < exp := by omega
      have HA : Hid (acc = emits dg.data.toList exp exp M ((dg.size : Int) + exp - 1)) := by show acc = _; have := HE.out; simpa [emits] using this
      obtain ⟨s, hs⟩ : ∃ s : ByteArray, s = ⟨(sgn true ++ acc).toArray⟩ := ⟨_, rfl⟩
      have hcv := HO.out.text (by intro e; have := (List.append_eq_nil_iff.1 e).2; rw [HA.out] at this; exact HN.out this)
      rw [← hs] at hcv
      have HS : Hid (s.data.toList = sgn true ++ emits dg.data.toList exp exp M ((dg.size : Int) + exp - 1)) := by show s.data.toList = _; rw [hs, HA.out]
      clear hs hq
      go_wp2
      go_ret
      exact ⟨s, HS, rfl, hb⟩
    | succ m =>
      have hge : exp ≤ q := by omega
      have hHE : Hid (acc ++ emit dg.data.toList exp exp q ++ emits dg.data.toList exp exp m (q - 1) = emits dg.data.toList exp exp M ((dg.size : Int) + exp - 1)) := by have := HE.out; rw [emits, ← List.append_assoc] at this; exact this
      clear hq HE
      by_cases hin : 0 ≤ (dg.size : Int) - 1 - (q - exp) ∧ (dg.size : Int) - 1 - (q - exp) < dg.size
      · obtain ⟨k, hk⟩ : ∃ k : Nat, (dg.size : Int) - 1 - (q - exp) = k := ⟨((dg.size : Int) - 1 - (q - exp)).toNat, by omega⟩
        have hklt : k < dg.size := by omega
        have HD : Hid (dgAt dg.data.toList exp q = dg[k]) := dgAt_in dg exp q k hk hklt
        clear hin
        by_cases hpt : q = 0 ∧ exp < 0
        · have hp0 : (q == 0) = true := by rw [hpt.1]; rfl
          have hp1 : exp < 0 := hpt.2
          have HEM : Hid (emit dg.data.toList exp exp q = [dg[k], 46]) := by show _ = _; rw [emit_point _ _ _ _ hpt, HD.out]
          clear hpt
          go_wp2_with (at_builtin; refine push1 rfl _ _ rfl HO.out dg[k] (dg[k].toNat : Int) rfl 5 rfl rfl hsz ?_)
          intro v1 w1 hO1 hb1
          have HO1 : Hid (Out w.heap.size v1 (sgn true ++ acc ++ [dg[k]]) w1) := hO1
          clear hO1
          go_wp2_with (at_builtin; refine push1 rfl _ _ rfl HO1.out 46 46 e46 5 rfl rfl (by rw [List.length_append, List.length_append, sgn_len]; simp; omega) ?_)
          intro v2 w2 hO2 hb2
          go_wp2
          go_roundw
          case rel =>
            refine ⟨m, q - 1, acc ++ [dg[k], 46], by have := HQ.out; omega, by go_num, ?_, by simp; omega, by simpa using hO2, hb.trans (hb1.trans hb2)⟩
            show _ = _
            rw [← hHE.out, HEM.out]
          case measure => simp [intOf]; omega
        · have HEM : Hid (emit dg.data.toList exp exp q = [dg[k]]) := by show _ = _; rw [emit_plain _ _ _ _ hpt, HD.out]
          by_cases hq0 : q = 0
          · have hp0 : (q == 0) = true := by rw [hq0]; rfl
            have hp1 : ¬ exp < 0 := by omega
            clear hpt hq0
            go_wp2_with (at_builtin; refine push1 rfl _ _ rfl HO.out dg[k] (dg[k].toNat : Int) rfl 5 rfl rfl hsz ?_)
            intro v1 w1 hO1 hb1
            go_wp2
            go_roundw
            case rel =>
              refine ⟨m, q - 1, acc ++ [dg[k]], by have := HQ.out; omega, by go_num, ?_, by simp; omega, by simpa using hO1, hb.trans hb1⟩
              show _ = _
              rw [← hHE.out, HEM.out]
            case measure => simp [intOf]; omega
          · have hp0 : (q == 0) = false := beq_eq_false_iff_ne.2 hq0
            clear hpt hq0
            go_wp2_with (at_builtin; refine push1 rfl _ _ rfl HO.out dg[k] (dg[k].toNat : Int) rfl 5 rfl rfl hsz ?_)
            intro v1 w1 hO1 hb1
            go_wp2
            go_roundw
            case rel =>
              refine ⟨m, q - 1, acc ++ [dg[k]], by have := HQ.out; omega, by go_num, ?_, by simp; omega, by simpa using hO1, hb.trans hb1⟩
              show _ = _
              rw [← hHE.out, HEM.out]
            case measure => simp [intOf]; omega
      · have HD : Hid (dgAt dg.data.toList exp q = 48) := dgAt_out dg exp q hin
        by_cases hneg : 0 ≤ (dg.size : Int) - 1 - (q - exp)
        · have hbig : ¬ (dg.size : Int) - 1 - (q - exp) < dg.size := by omega
          clear hin
          exfalso; omega
        · clear hin
          by_cases hpt : q = 0 ∧ exp < 0
          · have hp0 : (q == 0) = true := by rw [hpt.1]; rfl
            have hp1 : exp < 0 := hpt.2
            have HEM : Hid (emit dg.data.toList exp exp q = [48, 46]) := by show _ = _; rw [emit_point _ _ _ _ hpt, HD.out]
            clear hpt
            go_wp2_with (at_builtin; refine push1 rfl _ _ rfl HO.out 48 48 e48 5 rfl rfl hsz ?_)
            intro v1 w1 hO1 hb1
            have HO1 : Hid (Out w.heap.size v1 (sgn true ++ acc ++ [48]) w1) := hO1
            clear hO1
            go_wp2_with (at_builtin; refine push1 rfl _ _ rfl HO1.out 46 46 e46 5 rfl rfl (by rw [List.length_append, List.length_append, sgn_len]; simp; omega) ?_)
            intro v2 w2 hO2 hb2
            go_wp2
            go_roundw
            case rel =>
              refine ⟨m, q - 1, acc ++ [48, 46], by have := HQ.out; omega, by go_num, ?_, by simp; omega, by simpa using hO2, hb.trans (hb1.trans hb2)⟩
              show _ = _
              rw [← hHE.out, HEM.out]
            case measure => simp [intOf]; omega
          · have HEM : Hid (emit dg.data.toList exp exp q = [48]) := by show _ = _; rw [emit_plain _ _ _ _ hpt, HD.out]
            by_cases hq0 : q = 0
            · have hp0 : (q == 0) = true := by rw [hq0]; rfl
              have hp1 : ¬ exp < 0 := by omega
              clear hpt hq0
              go_wp2_with (at_builtin; refine push1 rfl _ _ rfl HO.out 48 48 e48 5 rfl rfl hsz ?_)
              intro v1 w1 hO1 hb1
              go_wp2
              go_roundw
              case rel =>
                refine ⟨m, q - 1, acc ++ [48], by have := HQ.out; omega, by go_num, ?_, by simp; omega, by simpa using hO1, hb.trans hb1⟩
                show _ = _
                rw [← hHE.out, HEM.out]
              case measure => simp [intOf]; omega
            · have hp0 : (q == 0) = false := beq_eq_false_iff_ne.2 hq0
              clear hpt hq0
              go_wp2_with (at_builtin; refine push1 rfl _ _ rfl HO.out 48 48 e48 5 rfl rfl hsz ?_)
              intro v1 w1 hO1 hb1
              go_wp2
              go_roundw
              case rel =>
                refine ⟨m, q - 1, acc ++ [48], by have := HQ.out; omega, by go_num, ?_, by simp; omega, by simpa using hO1, hb.trans hb1⟩
                show _ = _
                rw [← hHE.out, HEM.out]
              case measure => simp [intOf]; omega

set_option maxHeartbeats 3200000 in
theorem pos_mid_false (dg : ByteArray) (exp : Int) (M : Nat) (w : World) (h1 : 1 ≤ dg.size) (h2 : dg.size ≤ 100000) (hx1 : exp ≤ 4611686018427387904) (hx2 : -4611686018427387904 ≤ exp) (hlead : ¬ (dg.size : Int) + exp - 1 < 0) (hexp : ¬ 0 < exp) (hM : (M : Int) = ((dg.size : Int) + exp - 1) - exp + 1) (hM1 : M ≤ 100000) (hM0 : 1 ≤ M) :
    Calls Tryd.prog 8 #[.bool false, .string dg, .int .i64 exp] w fun e w' => ∃ s : ByteArray, Hid (s.data.toList = sgn false ++ emits dg.data.toList exp exp M ((dg.size : Int) + exp - 1)) ∧ e = .returned (.string s) ∧ Below w.heap.size w w' := by
  have HN : Hid (emits dg.data.toList exp exp M ((dg.size : Int) + exp - 1) ≠ []) := emits_ne _ _ _ _ _ hM0
  have HM : Hid ((M : Int) = ((dg.size : Int) + exp - 1) - exp + 1) := hM
  have hcnt : ((dg.size : Int) + exp - 1) - exp + 1 ≤ 100000 := by omega
  clear hM
  go_enter Tryd.func8, Tryd.ntmps8
  have HO0 : Hid (Out w.heap.size (.slice .none 0 0) [] w) := Out.nil w.heap.size w (Nat.le_refl _)
  go_wp2
  go_loopw [12, 13] (fun o p wr => ∃ (m : Nat) (q : Int) (acc : List UInt8), q = exp + m - 1 ∧ p = .int .i64 q ∧ Hid (acc ++ emits dg.data.toList exp exp m q = emits dg.data.toList exp exp M ((dg.size : Int) + exp - 1)) ∧ acc.length + 2 * m ≤ 2 * M ∧ Out w.heap.size o (sgn false ++ acc) wr ∧ Below w.heap.size w wr) (fun _ p _ => (intOf p - exp + 1).toNat)
  case atStart => exact ⟨M, ((dg.size : Int) + exp - 1), [], by have := HM.out; omega, rfl, rfl, by simp, by simpa [sgn] using HO0.out, Below.refl _ _⟩
  case round =>
    obtain ⟨m, q, acc, hq, rfl, HE, hlen, hO, hb⟩ := hrel
    have HO : Hid (Out w.heap.size u12 (sgn false ++ acc) wr) := hO
    have HQ : Hid (q = exp + m - 1) := hq
    have hsz : (sgn false ++ acc).length ≤ 1000000 := by rw [List.length_append, sgn_len]; simp; omega
    have hq1 : q ≤ 4611686018427487904 := by omega
    have hq2 : -4611686018427387905 ≤ q := by omega
    clear hO
    cases m with
    | zero =>
      have hlt : q < exp := by omega
      have HA : Hid (acc = emits dg.data.toList exp exp M ((dg.size : Int) + exp - 1)) := by show acc = _; have := HE.out; simpa [emits] using this
      obtain ⟨s, hs⟩ : ∃ s : ByteArray, s = ⟨(sgn false ++ acc).toArray⟩ := ⟨_, rfl⟩
      have hcv := HO.out.text (by intro e; have := (List.append_eq_nil_iff.1 e).2; rw [HA.out] at this; exact HN.out this)
      rw [← hs] at hcv
      have HS : Hid (s.data.toList = sgn false ++ emits dg.data.toList exp exp M ((dg.size : Int) + exp - 1)) := by show s.data.toList = _; rw [hs, HA.out]
      clear hs hq
      go_wp2
      go_ret
      exact ⟨s, HS, rfl, hb⟩
    | succ m =>
      have hge : exp ≤ q := by omega
      have hHE : Hid (acc ++ emit dg.data.toList exp exp q ++ emits dg.data.toList exp exp m (q - 1) = emits dg.data.toList exp exp M ((dg.size : Int) + exp - 1)) := by have := HE.out; rw [emits, ← List.append_assoc] at this; exact this
      clear hq HE
      by_cases hin : 0 ≤ (dg.size : Int) - 1 - (q - exp) ∧ (dg.size : Int) - 1 - (q - exp) < dg.size
      · obtain ⟨k, hk⟩ : ∃ k : Nat, (dg.size : Int) - 1 - (q - exp) = k := ⟨((dg.size : Int) - 1 - (q - exp)).toNat, by omega⟩
        have hklt : k < dg.size := by omega
        have HD : Hid (dgAt dg.data.toList exp q = dg[k]) := dgAt_in dg exp q k hk hklt
        clear hin
        by_cases hpt : q = 0 ∧ exp < 0
        · have hp0 : (q == 0) = true := by rw [hpt.1]; rfl
          have hp1 : exp < 0 := hpt.2
          have HEM : Hid (emit dg.data.toList exp exp q = [dg[k], 46]) := by show _ = _; rw [emit_point _ _ _ _ hpt, HD.out]
          clear hpt
          go_wp2_with (at_builtin; refine push1 rfl _ _ rfl HO.out dg[k] (dg[k].toNat : Int) rfl 5 rfl rfl hsz ?_)
          intro v1 w1 hO1 hb1
          have HO1 : Hid (Out w.heap.size v1 (sgn false ++ acc ++ [dg[k]]) w1) := hO1
          clear hO1
          go_wp2_with (at_builtin; refine push1 rfl _ _ rfl HO1.out 46 46 e46 5 rfl rfl (by rw [List.length_append, List.length_append, sgn_len]; simp; omega) ?_)
          intro v2 w2 hO2 hb2
          go_wp2
          go_roundw
          case rel =>
            refine ⟨m, q - 1, acc ++ [dg[k], 46], by have := HQ.out; omega, by go_num, ?_, by simp; omega, by simpa using hO2, hb.trans (hb1.trans hb2)⟩
            show _ = _
            rw [← hHE.out, HEM.out]
          case measure => simp [intOf]; omega
        · have HEM : Hid (emit dg.data.toList exp exp q = [dg[k]]) := by show _ = _; rw [emit_plain _ _ _ _ hpt, HD.out]
          by_cases hq0 : q = 0
          · have hp0 : (q == 0) = true := by rw [hq0]; rfl
            have hp1 : ¬ exp < 0 := by omega
            clear hpt hq0
            go_wp2_with (at_builtin; refine push1 rfl _ _ rfl HO.out dg[k] (dg[k].toNat : Int) rfl 5 rfl rfl hsz ?_)
            intro v1 w1 hO1 hb1
            go_wp2
            go_roundw
            case rel =>
              refine ⟨m, q - 1, acc ++ [dg[k]], by have := HQ.out; omega, by go_num, ?_, by simp; omega, by simpa using hO1, hb.trans hb1⟩
              show _ = _
              rw [← hHE.out, HEM.out]
            case measure => simp [intOf]; omega
          · have hp0 : (q == 0) = false := beq_eq_false_iff_ne.2 hq0
            clear hpt hq0
            go_wp2_with (at_builtin; refine push1 rfl _ _ rfl HO.out dg[k] (dg[k].toNat : Int) rfl 5 rfl rfl hsz ?_)
            intro v1 w1 hO1 hb1
            go_wp2
            go_roundw
            case rel =>
              refine ⟨m, q - 1, acc ++ [dg[k]], by have := HQ.out; omega, by go_num, ?_, by simp; omega, by simpa using hO1, hb.trans hb1⟩
              show _ = _
              rw [← hHE.out, HEM.out]
            case measure => simp [intOf]; omega
      · have HD : Hid (dgAt dg.data.toList exp q = 48) := dgAt_out dg exp q hin
        by_cases hneg : 0 ≤ (dg.size : Int) - 1 - (q - exp)
        · have hbig : ¬ (dg.size : Int) - 1 - (q - exp) < dg.size := by omega
          clear hin
          exfalso; omega
        · clear hin
          by_cases hpt : q = 0 ∧ exp < 0
          · have hp0 : (q == 0) = true := by rw [hpt.1]; rfl
            have hp1 : exp < 0 := hpt.2
            have HEM : Hid (emit dg.data.toList exp exp q = [48, 46]) := by show _ = _; rw [emit_point _ _ _ _ hpt, HD.out]
            clear hpt
            go_wp2_with (at_builtin; refine push1 rfl _ _ rfl HO.out 48 48 e48 5 rfl rfl hsz ?_)
            intro v1 w1 hO1 hb1
            have HO1 : Hid (Out w.heap.size v1 (sgn false ++ acc ++ [48]) w1) := hO1
            clear hO1
            go_wp2_with (at_builtin; refine push1 rfl _ _ rfl HO1.out 46 46 e46 5 rfl rfl (by rw [List.length_append, List.length_append, sgn_len]; simp; omega) ?_)
            intro v2 w2 hO2 hb2
            go_wp2
            go_roundw
            case rel =>
              refine ⟨m, q - 1, acc ++ [48, 46], by have := HQ.out; omega, by go_num, ?_, by simp; omega, by simpa using hO2, hb.trans (hb1.trans hb2)⟩
              show _ = _
              rw [← hHE.out, HEM.out]
            case measure => simp [intOf]; omega
          · have HEM : Hid (emit dg.data.toList exp exp q = [48]) := by show _ = _; rw [emit_plain _ _ _ _ hpt, HD.out]
            by_cases hq0 : q = 0
            · have hp0 : (q == 0) = true := by rw [hq0]; rfl
              have hp1 : ¬ exp < 0 := by omega
              clear hpt hq0
              go_wp2_with (at_builtin; refine push1 rfl _ _ rfl HO.out 48 48 e48 5 rfl rfl hsz ?_)
              intro v1 w1 hO1 hb1
              go_wp2
              go_roundw
              case rel =>
                refine ⟨m, q - 1, acc ++ [48], by have := HQ.out; omega, by go_num, ?_, by simp; omega, by simpa using hO1, hb.trans hb1⟩
                show _ = _
                rw [← hHE.out, HEM.out]
              case measure => simp [intOf]; omega
            · have hp0 : (q == 0) = false := beq_eq_false_iff_ne.2 hq0
              clear hpt hq0
              go_wp2_with (at_builtin; refine push1 rfl _ _ rfl HO.out 48 48 e48 5 rfl rfl hsz ?_)
              intro v1 w1 hO1 hb1
              go_wp2
              go_roundw
              case rel =>
                refine ⟨m, q - 1, acc ++ [48], by have := HQ.out; omega, by go_num, ?_, by simp; omega, by simpa using hO1, hb.trans hb1⟩
                show _ = _
                rw [← hHE.out, HEM.out]
              case measure => simp [intOf]; omega

set_option maxHeartbeats 3200000 in
theorem pos_low_true (dg : ByteArray) (exp : Int) (M : Nat) (w : World) (h1 : 1 ≤ dg.size) (h2 : dg.size ≤ 100000) (hx1 : exp ≤ 4611686018427387904) (hx2 : -4611686018427387904 ≤ exp) (hlead : (dg.size : Int) + exp - 1 < 0) (hexp : ¬ 0 < exp) (hM : (M : Int) = (0 : Int) - exp + 1) (hM1 : M ≤ 100000) (hM0 : 1 ≤ M) :
    Calls Tryd.prog 8 #[.bool true, .string dg, .int .i64 exp] w fun e w' => ∃ s : ByteArray, Hid (s.data.toList = sgn true ++ emits dg.data.toList exp exp M (0 : Int)) ∧ e = .returned (.string s) ∧ Below w.heap.size w w' := by
  have HN : Hid (emits dg.data.toList exp exp M (0 : Int) ≠ []) := emits_ne _ _ _ _ _ hM0
  have HM : Hid ((M : Int) = (0 : Int) - exp + 1) := hM
  have hcnt : -exp + 1 ≤ 100000 := by omega
  clear hM
  go_enter Tryd.func8, Tryd.ntmps8
  go_wp2_with (at_builtin; refine push1 rfl _ _ rfl (Out.nil w.heap.size w (Nat.le_refl _)) 45 45 e45 5 rfl rfl (by simp) ?_)
  intro v0 w0 hO0 hb0
  have HO0 : Hid (Out w.heap.size v0 ([] ++ [45]) w0) := hO0
  clear hO0
  go_wp2
  try simp only [Int.sub_zero, Int.sub_add_cancel, Int.zero_sub]
  go_loopw [12, 13] (fun o p wr => ∃ (m : Nat) (q : Int) (acc : List UInt8), q = exp + m - 1 ∧ p = .int .i64 q ∧ Hid (acc ++ emits dg.data.toList exp exp m q = emits dg.data.toList exp exp M (0 : Int)) ∧ acc.length + 2 * m ≤ 2 * M ∧ Out w.heap.size o (sgn true ++ acc) wr ∧ Below w.heap.size w wr) (fun _ p _ => (intOf p - exp + 1).toNat)
  case atStart => exact ⟨M, (0 : Int), [], by have := HM.out; omega, rfl, rfl, by simp, by simpa [sgn] using HO0.out, hb0⟩
  case round =>
    obtain ⟨m, q, acc, hq, rfl, HE, hlen, hO, hb⟩ := hrel
    have HO : Hid (Out w.heap.size u12 (sgn true ++ acc) wr) := hO
    have HQ : Hid (q = exp + m - 1) := hq
    have hsz : (sgn true ++ acc).length ≤ 1000000 := by rw [List.length_append, sgn_len]; simp; omega
    have hq1 : q ≤ 4611686018427487904 := by omega
    have hq2 : -4611686018427387905 ≤ q := by omega
    clear hO
    cases m with
    | zero =>
      have hlt : q < exp := by omega
      have HA : Hid (acc = emits dg.data.toList exp exp M (0 : Int)) := by show acc = _; have := HE.out; simpa [emits] using this
      obtain ⟨s, hs⟩ : ∃ s : ByteArray, s = ⟨(sgn true ++ acc).toArray⟩ := ⟨_, rfl⟩
      have hcv := HO.out.text (by intro e; have := (List.append_eq_nil_iff.1 e).2; rw [HA.out] at this; exact HN.out this)
      rw [← hs] at hcv
      have HS : Hid (s.data.toList = sgn true ++ emits dg.data.toList exp exp M (0 : Int)) := by show s.data.toList = _; rw [hs, HA.out]
      clear hs hq
      go_wp2
      go_ret
      exact ⟨s, HS, rfl, hb⟩
    | succ m =>
      have hge : exp ≤ q := by omega
      have hHE : Hid (acc ++ emit dg.data.toList exp exp q ++ emits dg.data.toList exp exp m (q - 1) = emits dg.data.toList exp exp M (0 : Int)) := by have := HE.out; rw [emits, ← List.append_assoc] at this; exact this
      clear hq HE
      by_cases hin : 0 ≤ (dg.size : Int) - 1 - (q - exp) ∧ (dg.size : Int) - 1 - (q - exp) < dg.size
      · obtain ⟨k, hk⟩ : ∃ k : Nat, (dg.size : Int) - 1 - (q - exp) = k := ⟨((dg.size : Int) - 1 - (q - exp)).toNat, by omega⟩
        have hklt : k < dg.size := by omega
        have HD : Hid (dgAt dg.data.toList exp q = dg[k]) := dgAt_in dg exp q k hk hklt
        clear hin
        by_cases hpt : q = 0 ∧ exp < 0
        · have hp0 : (q == 0) = true := by rw [hpt.1]; rfl
          have hp1 : exp < 0 := hpt.2
          have HEM : Hid (emit dg.data.toList exp exp q = [dg[k], 46]) := by show _ = _; rw [emit_point _ _ _ _ hpt, HD.out]
          clear hpt
          go_wp2_with (at_builtin; refine push1 rfl _ _ rfl HO.out dg[k] (dg[k].toNat : Int) rfl 5 rfl rfl hsz ?_)
          intro v1 w1 hO1 hb1
          have HO1 : Hid (Out w.heap.size v1 (sgn true ++ acc ++ [dg[k]]) w1) := hO1
          clear hO1
          go_wp2_with (at_builtin; refine push1 rfl _ _ rfl HO1.out 46 46 e46 5 rfl rfl (by rw [List.length_append, List.length_append, sgn_len]; simp; omega) ?_)
          intro v2 w2 hO2 hb2
          go_wp2
          go_roundw
          case rel =>
            refine ⟨m, q - 1, acc ++ [dg[k], 46], by have := HQ.out; omega, by go_num, ?_, by simp; omega, by simpa using hO2, hb.trans (hb1.trans hb2)⟩
            show _ = _
            rw [← hHE.out, HEM.out]
          case measure => simp [intOf]; omega
        · have HEM : Hid (emit dg.data.toList exp exp q = [dg[k]]) := by show _ = _; rw [emit_plain _ _ _ _ hpt, HD.out]
          by_cases hq0 : q = 0
          · exact absurd hq0 (by omega)
          · have hp0 : (q == 0) = false := beq_eq_false_iff_ne.2 hq0
            clear hpt hq0
            go_wp2_with (at_builtin; refine push1 rfl _ _ rfl HO.out dg[k] (dg[k].toNat : Int) rfl 5 rfl rfl hsz ?_)
            intro v1 w1 hO1 hb1
            go_wp2
            go_roundw
            case rel =>
              refine ⟨m, q - 1, acc ++ [dg[k]], by have := HQ.out; omega, by go_num, ?_, by simp; omega, by simpa using hO1, hb.trans hb1⟩
              show _ = _
              rw [← hHE.out, HEM.out]
            case measure => simp [intOf]; omega
      · have HD : Hid (dgAt dg.data.toList exp q = 48) := dgAt_out dg exp q hin
        by_cases hneg : 0 ≤ (dg.size : Int) - 1 - (q - exp)
        · have hbig : ¬ (dg.size : Int) - 1 - (q - exp) < dg.size := by omega
          clear hin
          exfalso; omega
        · clear hin
          by_cases hpt : q = 0 ∧ exp < 0
          · have hp0 : (q == 0) = true := by rw [hpt.1]; rfl
            have hp1 : exp < 0 := hpt.2
            have HEM : Hid (emit dg.data.toList exp exp q = [48, 46]) := by show _ = _; rw [emit_point _ _ _ _ hpt, HD.out]
            clear hpt
            go_wp2_with (at_builtin; refine push1 rfl _ _ rfl HO.out 48 48 e48 5 rfl rfl hsz ?_)
            intro v1 w1 hO1 hb1
            have HO1 : Hid (Out w.heap.size v1 (sgn true ++ acc ++ [48]) w1) := hO1
            clear hO1
            go_wp2_with (at_builtin; refine push1 rfl _ _ rfl HO1.out 46 46 e46 5 rfl rfl (by rw [List.length_append, List.length_append, sgn_len]; simp; omega) ?_)
            intro v2 w2 hO2 hb2
            go_wp2
            go_roundw
            case rel =>
              refine ⟨m, q - 1, acc ++ [48, 46], by have := HQ.out; omega, by go_num, ?_, by simp; omega, by simpa using hO2, hb.trans (hb1.trans hb2)⟩
              show _ = _
              rw [← hHE.out, HEM.out]
            case measure => simp [intOf]; omega
          · have HEM : Hid (emit dg.data.toList exp exp q = [48]) := by show _ = _; rw [emit_plain _ _ _ _ hpt, HD.out]
            by_cases hq0 : q = 0
            · exact absurd hq0 (by omega)
            · have hp0 : (q == 0) = false := beq_eq_false_iff_ne.2 hq0
              clear hpt hq0
              go_wp2_with (at_builtin; refine push1 rfl _ _ rfl HO.out 48 48 e48 5 rfl rfl hsz ?_)
              intro v1 w1 hO1 hb1
              go_wp2
              go_roundw
              case rel =>
                refine ⟨m, q - 1, acc ++ [48], by have := HQ.out; omega, by go_num, ?_, by simp; omega, by simpa using hO1, hb.trans hb1⟩
                show _ = _
                rw [← hHE.out, HEM.out]
              case measure => simp [intOf]; omega

set_option maxHeartbeats 3200000 in
theorem pos_low_false (dg : ByteArray) (exp : Int) (M : Nat) (w : World) (h1 : 1 ≤ dg.size) (h2 : dg.size ≤ 100000) (hx1 : exp ≤ 4611686018427387904) (hx2 : -4611686018427387904 ≤ exp) (hlead : (dg.size : Int) + exp - 1 < 0) (hexp : ¬ 0 < exp) (hM : (M : Int) = (0 : Int) - exp + 1) (hM1 : M ≤ 100000) (hM0 : 1 ≤ M) :
    Calls Tryd.prog 8 #[.bool false, .string dg, .int .i64 exp] w fun e w' => ∃ s : ByteArray, Hid (s.data.toList = sgn false ++ emits dg.data.toList exp exp M (0 : Int)) ∧ e = .returned (.string s) ∧ Below w.heap.size w w' := by
  have HN : Hid (emits dg.data.toList exp exp M (0 : Int) ≠ []) := emits_ne _ _ _ _ _ hM0
  have HM : Hid ((M : Int) = (0 : Int) - exp + 1) := hM
  have hcnt : (0 : Int) - exp + 1 ≤ 100000 := by omega
  clear hM
  go_enter Tryd.func8, Tryd.ntmps8
  have HO0 : Hid (Out w.heap.size (.slice .none 0 0) [] w) := Out.nil w.heap.size w (Nat.le_refl _)
  go_wp2
  go_loopw [12, 13] (fun o p wr => ∃ (m : Nat) (q : Int) (acc : List UInt8), q = exp + m - 1 ∧ p = .int .i64 q ∧ Hid (acc ++ emits dg.data.toList exp exp m q = emits dg.data.toList exp exp M (0 : Int)) ∧ acc.length + 2 * m ≤ 2 * M ∧ Out w.heap.size o (sgn false ++ acc) wr ∧ Below w.heap.size w wr) (fun _ p _ => (intOf p - exp + 1).toNat)
  case atStart => exact ⟨M, (0 : Int), [], by have := HM.out; omega, rfl, rfl, by simp, by simpa [sgn] using HO0.out, Below.refl _ _⟩
  case round =>
    obtain ⟨m, q, acc, hq, rfl, HE, hlen, hO, hb⟩ := hrel
    have HO : Hid (Out w.heap.size u12 (sgn false ++ acc) wr) := hO
    have HQ : Hid (q = exp + m - 1) := hq
    have hsz : (sgn false ++ acc).length ≤ 1000000 := by rw [List.length_append, sgn_len]; simp; omega
    have hq1 : q ≤ 4611686018427487904 := by omega
    have hq2 : -4611686018427387905 ≤ q := by omega
    clear hO
    cases m with
    | zero =>
      have hlt : q < exp := by omega
      have HA : Hid (acc = emits dg.data.toList exp exp M (0 : Int)) := by show acc = _; have := HE.out; simpa [emits] using this
      obtain ⟨s, hs⟩ : ∃ s : ByteArray, s = ⟨(sgn false ++ acc).toArray⟩ := ⟨_, rfl⟩
      have hcv := HO.out.text (by intro e; have := (List.append_eq_nil_iff.1 e).2; rw [HA.out] at this; exact HN.out this)
      rw [← hs] at hcv
      have HS : Hid (s.data.toList = sgn false ++ emits dg.data.toList exp exp M (0 : Int)) := by show s.data.toList = _; rw [hs, HA.out]
      clear hs hq
      go_wp2
      go_ret
      exact ⟨s, HS, rfl, hb⟩
    | succ m =>
      have hge : exp ≤ q := by omega
      have hHE : Hid (acc ++ emit dg.data.toList exp exp q ++ emits dg.data.toList exp exp m (q - 1) = emits dg.data.toList exp exp M (0 : Int)) := by have := HE.out; rw [emits, ← List.append_assoc] at this; exact this
      clear hq HE
      by_cases hin : 0 ≤ (dg.size : Int) - 1 - (q - exp) ∧ (dg.size : Int) - 1 - (q - exp) < dg.size
      · obtain ⟨k, hk⟩ : ∃ k : Nat, (dg.size : Int) - 1 - (q - exp) = k := ⟨((dg.size : Int) - 1 - (q - exp)).toNat, by omega⟩
        have hklt : k < dg.size := by omega
        have HD : Hid (dgAt dg.data.toList exp q = dg[k]) := dgAt_in dg exp q k hk hklt
        clear hin
        by_cases hpt : q = 0 ∧ exp < 0
        · have hp0 : (q == 0) = true := by rw [hpt.1]; rfl
          have hp1 : exp < 0 := hpt.2
          have HEM : Hid (emit dg.data.toList exp exp q = [dg[k], 46]) := by show _ = _; rw [emit_point _ _ _ _ hpt, HD.out]
          clear hpt
          go_wp2_with (at_builtin; refine push1 rfl _ _ rfl HO.out dg[k] (dg[k].toNat : Int) rfl 5 rfl rfl hsz ?_)
          intro v1 w1 hO1 hb1
          have HO1 : Hid (Out w.heap.size v1 (sgn false ++ acc ++ [dg[k]]) w1) := hO1
          clear hO1
          go_wp2_with (at_builtin; refine push1 rfl _ _ rfl HO1.out 46 46 e46 5 rfl rfl (by rw [List.length_append, List.length_append, sgn_len]; simp; omega) ?_)
          intro v2 w2 hO2 hb2
          go_wp2
          go_roundw
          case rel =>
            refine ⟨m, q - 1, acc ++ [dg[k], 46], by have := HQ.out; omega, by go_num, ?_, by simp; omega, by simpa using hO2, hb.trans (hb1.trans hb2)⟩
            show _ = _
            rw [← hHE.out, HEM.out]
          case measure => simp [intOf]; omega
        · have HEM : Hid (emit dg.data.toList exp exp q = [dg[k]]) := by show _ = _; rw [emit_plain _ _ _ _ hpt, HD.out]
          by_cases hq0 : q = 0
          · exact absurd hq0 (by omega)
          · have hp0 : (q == 0) = false := beq_eq_false_iff_ne.2 hq0
            clear hpt hq0
            go_wp2_with (at_builtin; refine push1 rfl _ _ rfl HO.out dg[k] (dg[k].toNat : Int) rfl 5 rfl rfl hsz ?_)
            intro v1 w1 hO1 hb1
            go_wp2
            go_roundw
            case rel =>
              refine ⟨m, q - 1, acc ++ [dg[k]], by have := HQ.out; omega, by go_num, ?_, by simp; omega, by simpa using hO1, hb.trans hb1⟩
              show _ = _
              rw [← hHE.out, HEM.out]
            case measure => simp [intOf]; omega
      · have HD : Hid (dgAt dg.data.toList exp q = 48) := dgAt_out dg exp q hin
        by_cases hneg : 0 ≤ (dg.size : Int) - 1 - (q - exp)
        · have hbig : ¬ (dg.size : Int) - 1 - (q - exp) < dg.size := by omega
          clear hin
          exfalso; omega
        · clear hin
          by_cases hpt : q = 0 ∧ exp < 0
          · have hp0 : (q == 0) = true := by rw [hpt.1]; rfl
            have hp1 : exp < 0 := hpt.2
            have HEM : Hid (emit dg.data.toList exp exp q = [48, 46]) := by show _ = _; rw [emit_point _ _ _ _ hpt, HD.out]
            clear hpt
            go_wp2_with (at_builtin; refine push1 rfl _ _ rfl HO.out 48 48 e48 5 rfl rfl hsz ?_)
            intro v1 w1 hO1 hb1
            have HO1 : Hid (Out w.heap.size v1 (sgn false ++ acc ++ [48]) w1) := hO1
            clear hO1
            go_wp2_with (at_builtin; refine push1 rfl _ _ rfl HO1.out 46 46 e46 5 rfl rfl (by rw [List.length_append, List.length_append, sgn_len]; simp; omega) ?_)
            intro v2 w2 hO2 hb2
            go_wp2
            go_roundw
            case rel =>
              refine ⟨m, q - 1, acc ++ [48, 46], by have := HQ.out; omega, by go_num, ?_, by simp; omega, by simpa using hO2, hb.trans (hb1.trans hb2)⟩
              show _ = _
              rw [← hHE.out, HEM.out]
            case measure => simp [intOf]; omega
          · have HEM : Hid (emit dg.data.toList exp exp q = [48]) := by show _ = _; rw [emit_plain _ _ _ _ hpt, HD.out]
            by_cases hq0 : q = 0
            · exact absurd hq0 (by omega)
            · have hp0 : (q == 0) = false := beq_eq_false_iff_ne.2 hq0
              clear hpt hq0
              go_wp2_with (at_builtin; refine push1 rfl _ _ rfl HO.out 48 48 e48 5 rfl rfl hsz ?_)
              intro v1 w1 hO1 hb1
              go_wp2
              go_roundw
              case rel =>
                refine ⟨m, q - 1, acc ++ [48], by have := HQ.out; omega, by go_num, ?_, by simp; omega, by simpa using hO1, hb.trans hb1⟩
                show _ = _
                rw [← hHE.out, HEM.out]
              case measure => simp [intOf]; omega
end Go.Proofs.Qxb6603079aDoor
