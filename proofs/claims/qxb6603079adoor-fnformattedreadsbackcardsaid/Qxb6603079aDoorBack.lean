/-
  FnFormattedReadsBack, walked: the text that formatted writes is read back to the same value.
-/
import Derived.Test.Qxb6603079aDoorAll
import Derived.Test.Qxb6603079aDoorRead
namespace Go.Proofs.Qxb6603079aDoor
open Go.RowKit Plain

theorem Dig.app {a b : List UInt8} (ha : Dig a) (hb : Dig b) : Dig (a ++ b) := fun c hc => (List.mem_append.1 hc).elim (ha c) (hb c)
theorem Dig.zeros (k : Nat) : Dig (List.replicate k 48) := fun c hc => by
  obtain ⟨_, rfl⟩ := List.mem_replicate.1 hc
  decide
theorem Dig.take {a : List UInt8} (ha : Dig a) (k : Nat) : Dig (a.take k) := fun c hc => ha c (List.mem_of_mem_take hc)
theorem Dig.drop {a : List UInt8} (ha : Dig a) (k : Nat) : Dig (a.drop k) := fun c hc => ha c (List.mem_of_mem_drop hc)
theorem Dig.dec (u : Nat) : Dig (Lib.decDigits u) := dec_digit (u + 1) u (by omega)
theorem dec_pos1 (u : Nat) : 0 < (Lib.decDigits u).length := by rw [Lib.decDigits_length]; exact Lib.nDigits_pos u

/-- What the reading gives. -/
def Read (d : List UInt8) (exp : Int) (t : ByteArray) (g : Int) : Prop := Same d exp t.data.toList g ∧ t.size ≤ 1000000 ∧ -5000000000000000000 ≤ g ∧ g ≤ 5000000000000000000

theorem read_of {neg : Bool} {d : List UInt8} {exp : Int} {s : ByteArray} {w : World} {M : List UInt8} {G : Int}
    (h : Calls Tryd.prog 10 #[.string s] w fun e w' => ∃ (t : ByteArray) (g : Int), Hid (t.data.toList = M ∧ g = G) ∧ e = .returned (.tuple #[.bool true, .bool neg, .string t, .int .i64 g]) ∧ Below w.heap.size w w')
    (hS : Same d exp M G) (hl : M.length ≤ 1000000) (h1 : -5000000000000000000 ≤ G) (h2 : G ≤ 5000000000000000000) :
    Calls Tryd.prog 10 #[.string s] w fun e w' => ∃ (t : ByteArray) (g : Int), Hid (Read d exp t g) ∧ e = .returned (.tuple #[.bool true, .bool neg, .string t, .int .i64 g]) ∧ Below w.heap.size w w' := by
  refine h.mono ?_
  rintro e w' ⟨t, g, HG, he, hb⟩
  obtain ⟨g1, g2⟩ := HG.out
  refine ⟨t, g, ⟨?_, ?_, ?_, ?_⟩, he, hb⟩
  · rw [g1, g2]; exact hS
  · rw [← size_list, g1]; exact hl
  · rw [g2]; exact h1
  · rw [g2]; exact h2

theorem read_any (neg : Bool) (dg : ByteArray) (exp : Int) (s : ByteArray) (w : World) (h1 : 1 ≤ dg.size) (h2 : dg.size ≤ 100000) (hx1 : exp ≤ 4611686018427387904) (hx2 : -4611686018427387904 ≤ exp)
    (hD : Dig dg.data.toList) (hs : s.data.toList = text neg dg.data.toList exp) :
    Calls Tryd.prog 10 #[.string s] w fun e w' => ∃ (t : ByteArray) (g : Int), Hid (Read dg.data.toList exp t g) ∧ e = .returned (.tuple #[.bool true, .bool neg, .string t, .int .i64 g]) ∧ Below w.heap.size w w' := by
  have hl := size_list dg
  have hsz : s.size ≤ 300000 := by
    have b := body_len dg.data.toList exp (by rw [hl]; exact h1) (by rw [hl]; exact h2) hx1 hx2
    have e := congrArg List.length hs
    rw [size_list] at e
    unfold text at e
    rw [List.length_append, sgn_len] at e
    split at e <;> omega
  unfold text at hs
  generalize hd : dg.data.toList = d at hs hD hl
  have hld : (d.length : Int) = dg.size := by rw [hl]
  by_cases c1 : 0 ≤ exp ∧ (d.length : Int) + exp ≤ 100000
  · obtain ⟨c, rfl⟩ : ∃ c : Nat, exp = c := ⟨exp.toNat, by omega⟩
    have eb : body d (c : Int) = (d ++ List.replicate c 48) ++ [] := by
      unfold body; rw [if_pos c1, List.append_nil]; rfl
    rw [eb] at hs
    exact read_of (pr_no_none s neg (d ++ List.replicate c 48) w hsz hs (hD.app (Dig.zeros c)) (by rw [List.length_append]; omega)) (same_tail d c) (by rw [List.length_append, List.length_replicate]; omega) (by omega) (by omega)
  · by_cases c2 : exp < 0 ∧ 0 < (d.length : Int) + exp
    · obtain ⟨p, hp⟩ : ∃ p : Nat, (d.length : Int) + exp = p := ⟨((d.length : Int) + exp).toNat, by omega⟩
      have eb : body d exp = d.take p ++ (46 :: (d.drop p ++ [])) := by
        unfold body; rw [if_neg c1, if_pos c2, hp, List.append_nil]; rfl
      rw [eb] at hs
      refine read_of (pr_pt_none s neg (d.take p) (d.drop p) w hsz hs (hD.take p) (by rw [List.length_take]; omega) (hD.drop p) (by rw [List.length_drop]; omega)) ?_ (by rw [List.take_append_drop]; omega) (by rw [List.length_drop]; omega) (by rw [List.length_drop]; omega)
      rw [List.take_append_drop, show (0 : Int) - ((d.drop p).length : Int) = exp by rw [List.length_drop]; omega]
      exact same_refl d exp
    · by_cases c3 : exp < 0 ∧ 1 - exp ≤ 100000
      · obtain ⟨q, hq⟩ : ∃ q : Nat, (d.length : Int) + exp = -(q : Int) := ⟨(-((d.length : Int) + exp)).toNat, by omega⟩
        have eb : body d exp = [48] ++ (46 :: ((List.replicate q 48 ++ d) ++ [])) := by
          unfold body; rw [if_neg c1, if_neg c2, if_pos c3, hq, Int.neg_neg, List.append_nil]; rfl
        rw [eb] at hs
        refine read_of (pr_pt_none s neg [48] (List.replicate q 48 ++ d) w hsz hs (fun c hc => by rw [List.mem_singleton] at hc; subst hc; decide) (by simp) ((Dig.zeros q).app hD) (by rw [List.length_append]; omega)) ?_ (by simp; omega) (by rw [List.length_append, List.length_replicate]; omega) (by rw [List.length_append]; omega)
        have e1 : [48] ++ (List.replicate q 48 ++ d) = List.replicate (q + 1) 48 ++ d := by rw [List.replicate_succ]; rfl
        rw [e1, show (0 : Int) - (((List.replicate q 48 ++ d : List UInt8)).length : Int) = exp by rw [List.length_append, List.length_replicate]; omega]
        exact same_lead d exp (q + 1)
      · have eb : body d exp = d.take 1 ++ (if 1 < d.length then 46 :: d.drop 1 else []) ++ [101] ++ (if 0 < (d.length : Int) + exp then [43] else []) ++ Lib.itoa ((d.length : Int) + exp - 1) := by
          unfold body; rw [if_neg c1, if_neg c2, if_neg c3]
        by_cases g1 : 0 < (d.length : Int) + exp
        · obtain ⟨u, hu⟩ : ∃ u : Nat, (d.length : Int) + exp - 1 = u := ⟨((d.length : Int) + exp - 1).toNat, by omega⟩
          rw [if_pos g1, hu, Lib.itoa_nonneg] at eb
          by_cases hn : 1 < d.length
          · rw [if_pos hn] at eb
            have eb2 : body d exp = d.take 1 ++ (46 :: (d.drop 1 ++ (101 :: 43 :: Lib.decDigits u))) := by rw [eb]; simp
            rw [eb2] at hs
            refine read_of (pr_pt_plus s neg (d.take 1) (d.drop 1) (Lib.decDigits u) u w hsz hs (hD.take 1) (by rw [List.length_take]; omega) (hD.drop 1) (by rw [List.length_drop]; omega) (Dig.dec u) (dec_pos1 u) (val_dec (u + 1) u (by omega)) (by omega)) ?_ (by rw [List.take_append_drop]; omega) (by rw [List.length_drop]; omega) (by omega)
            rw [List.take_append_drop, show (u : Int) - ((d.drop 1).length : Int) = exp by rw [List.length_drop]; omega]
            exact same_refl d exp
          · rw [if_neg hn] at eb
            have ed : d.take 1 = d := List.take_of_length_le (by omega)
            have eb2 : body d exp = d ++ (101 :: 43 :: Lib.decDigits u) := by rw [eb, ed]; simp
            rw [eb2] at hs
            refine read_of (pr_no_plus s neg d (Lib.decDigits u) u w hsz hs hD (by omega) (Dig.dec u) (dec_pos1 u) (val_dec (u + 1) u (by omega)) (by omega)) ?_ (by omega) (by omega) (by omega)
            rw [show (u : Int) - 0 = exp by omega]
            exact same_refl d exp
        · obtain ⟨u, hu⟩ : ∃ u : Nat, (d.length : Int) + exp - 1 = -(u : Int) := ⟨(-((d.length : Int) + exp - 1)).toNat, by omega⟩
          rw [if_neg g1, hu, Lib.itoa_neg u (by omega)] at eb
          by_cases hn : 1 < d.length
          · rw [if_pos hn] at eb
            have eb2 : body d exp = d.take 1 ++ (46 :: (d.drop 1 ++ (101 :: 45 :: Lib.decDigits u))) := by rw [eb]; simp
            rw [eb2] at hs
            refine read_of (pr_pt_minus s neg (d.take 1) (d.drop 1) (Lib.decDigits u) u w hsz hs (hD.take 1) (by rw [List.length_take]; omega) (hD.drop 1) (by rw [List.length_drop]; omega) (Dig.dec u) (dec_pos1 u) (val_dec (u + 1) u (by omega)) (by omega)) ?_ (by rw [List.take_append_drop]; omega) (by rw [List.length_drop]; omega) (by omega)
            rw [List.take_append_drop, show -(u : Int) - ((d.drop 1).length : Int) = exp by rw [List.length_drop]; omega]
            exact same_refl d exp
          · rw [if_neg hn] at eb
            have ed : d.take 1 = d := List.take_of_length_le (by omega)
            have eb2 : body d exp = d ++ (101 :: 45 :: Lib.decDigits u) := by rw [eb, ed]; simp
            rw [eb2] at hs
            refine read_of (pr_no_minus s neg d (Lib.decDigits u) u w hsz hs hD (by omega) (Dig.dec u) (dec_pos1 u) (val_dec (u + 1) u (by omega)) (by omega)) ?_ (by omega) (by omega) (by omega)
            rw [show -(u : Int) - 0 = exp by omega]
            exact same_refl d exp

theorem bytes9_yes (neg : Bool) (dg : ByteArray) (exp : Int) (w : World) (h : dg.size ≤ 1048576) :
    Calls Tryd.prog 9 #[.bool neg, .string dg, .int .i64 exp] w fun e w' => e = .returned (.bool true) ∧ w' = w := by
  go_enter Tryd.func9, Tryd.ntmps9
  go_wp2
  go_ret
  exact ⟨rfl, rfl⟩
theorem bytes9_no (neg : Bool) (dg : ByteArray) (exp : Int) (w : World) (h : 1048576 < dg.size) (hm : dg.size ≤ 9223372036854775807) :
    Calls Tryd.prog 9 #[.bool neg, .string dg, .int .i64 exp] w fun e w' => e = .returned (.bool false) ∧ w' = w := by
  go_enter Tryd.func9, Tryd.ntmps9
  go_wp2
  go_ret
  exact ⟨rfl, rfl⟩

theorem back_out (neg : Bool) (dg : ByteArray) (exp : Int) (w : World) (hm : dg.size ≤ maxLen)
    (h : dg.size = 0 ∨ 100000 < dg.size ∨ 4611686018427387904 < exp ∨ exp < -4611686018427387904) :
    Calls Tryd.prog 4 #[.bool neg, .string dg, .int .i64 exp] w fun e w' => e = .returned (.bool true) ∧ Below w.heap.size w w' := by
  unfold maxLen at hm
  by_cases h0 : 1048576 < dg.size
  · clear h
    go_enter Tryd.func4, Tryd.ntmps4
    go_wp2_with (go_at_call 9; refine (bytes9_no _ _ _ _ h0 hm).mono ?_; rintro e w' ⟨rfl, rfl⟩)
    go_ret
    exact ⟨rfl, Below.refl _ _⟩
  · have h0' : dg.size ≤ 1048576 := by omega
    by_cases h1 : dg.size = 0
    · have h1' : ((dg.size : Int) == 0) = true := by rw [h1]; rfl
      clear h h1
      go_enter Tryd.func4, Tryd.ntmps4
      go_wp2_with (go_at_call 9; refine (bytes9_yes _ _ _ _ h0').mono ?_; rintro e w' ⟨rfl, rfl⟩)
      go_ret
      exact ⟨rfl, Below.refl _ _⟩
    · have h1' : ((dg.size : Int) == 0) = false := beq_eq_false_iff_ne.2 (by omega)
      by_cases h2 : 100000 < dg.size
      · clear h h1
        go_enter Tryd.func4, Tryd.ntmps4
        go_wp2_with (go_at_call 9; refine (bytes9_yes _ _ _ _ h0').mono ?_; rintro e w' ⟨rfl, rfl⟩)
        go_ret
        exact ⟨rfl, Below.refl _ _⟩
      · by_cases h3 : 4611686018427387904 < exp
        · clear h h1
          go_enter Tryd.func4, Tryd.ntmps4
          go_wp2_with (go_at_call 9; refine (bytes9_yes _ _ _ _ h0').mono ?_; rintro e w' ⟨rfl, rfl⟩)
          go_ret
          exact ⟨rfl, Below.refl _ _⟩
        · have h4 : exp < -4611686018427387904 := by omega
          clear h h1
          go_enter Tryd.func4, Tryd.ntmps4
          go_wp2_with (go_at_call 9; refine (bytes9_yes _ _ _ _ h0').mono ?_; rintro e w' ⟨rfl, rfl⟩)
          go_ret
          exact ⟨rfl, Below.refl _ _⟩

theorem dig_of (dg : ByteArray) (h : ∀ j (hj : j < dg.size), 48 ≤ dg[j].toNat ∧ dg[j].toNat ≤ 57) : Dig dg.data.toList := by
  intro c hc
  obtain ⟨j, hj, rfl⟩ := List.getElem_of_mem hc
  have hj' : j < dg.size := by rw [← size_list]; exact hj
  exact h j hj'

set_option maxHeartbeats 1600000 in
theorem back_in (neg : Bool) (dg : ByteArray) (exp : Int) (w : World) (h1 : 1 ≤ dg.size) (h2 : dg.size ≤ 100000) (h3 : exp ≤ 4611686018427387904) (h4 : -4611686018427387904 ≤ exp) (ht : Tab w) :
    Calls Tryd.prog 4 #[.bool neg, .string dg, .int .i64 exp] w fun e w' => e = .returned (.bool true) ∧ Below w.heap.size w w' := by
  have h1' : ((dg.size : Int) == 0) = false := beq_eq_false_iff_ne.2 (by omega)
  have HT : Hid (Tab w) := ht
  clear ht
  go_enter Tryd.func4, Tryd.ntmps4
  go_wp2_with (go_at_call 9; refine (bytes9_yes _ _ _ _ (by omega)).mono ?_; rintro e w' ⟨rfl, rfl⟩)
  go_loop [7] (fun i => ∃ k : Nat, k ≤ dg.size ∧ i = .int .i64 (k : Int) ∧ Hid (∀ j (hj : j < dg.size), j < k → 48 ≤ dg[j].toNat ∧ dg[j].toNat ≤ 57)) (fun i => dg.size - (intOf i).toNat)
  case atStart => exact ⟨0, Nat.zero_le _, rfl, fun j _ h => absurd h (Nat.not_lt_zero _)⟩
  case round =>
    obtain ⟨k, hk, rfl, HA⟩ := hrel
    by_cases hlt : k < dg.size
    · by_cases ha : (dg[k].toNat : Int) < 48
      · go_wp2
        go_ret
        exact ⟨rfl, Below.refl _ _⟩
      · by_cases hb : 57 < (dg[k].toNat : Int)
        · go_wp2
          go_ret
          exact ⟨rfl, Below.refl _ _⟩
        · have HA2 : Hid (∀ j (hj : j < dg.size), j < k + 1 → 48 ≤ dg[j].toNat ∧ dg[j].toNat ≤ 57) := fun j hj hjk => by
            by_cases e : j = k
            · subst e; omega
            · exact HA.out j hj (by omega)
          go_wp2
          go_round
          case rel => exact ⟨k + 1, by omega, by go_num, HA2⟩
          case measure => simp [intOf]; omega
    · have HD : Hid (Dig dg.data.toList) := dig_of dg (fun j hj => HA.out j hj (by omega))
      go_wp2_with fail
      refine (zz_any _ _ _ _ h1 h2 h3 h4 HT.out).mono ?_
      rintro e w1 ⟨s, HS, rfl, hb⟩
      go_wp2_with fail
      refine (read_any neg dg exp s _ h1 h2 h3 h4 HD.out HS.out).mono ?_
      rintro e w2 ⟨t, g, HR, rfl, hb2⟩
      go_wp2_with fail
      refine (same_any dg t exp g _ (by omega) HR.out.2.1 (by omega) (by omega) HR.out.2.2.1 HR.out.2.2.2 HR.out.1).mono ?_
      rintro e w3 ⟨rfl, rfl⟩
      go_wp2
      go_ret
      exact ⟨rfl, hb.trans (hb2.mono hb.size)⟩

/-- THE LAW, walked. -/
theorem back_any (neg : Bool) (dg : ByteArray) (exp : Int) (w : World) (hm : dg.size ≤ maxLen) (_hx1 : -9223372036854775808 ≤ exp) (_hx2 : exp ≤ 9223372036854775807) (ht : Tab w) :
    Calls Tryd.prog 4 #[.bool neg, .string dg, .int .i64 exp] w fun e w' => e = .returned (.bool true) ∧ Below w.heap.size w w' := by
  by_cases h : dg.size = 0 ∨ 100000 < dg.size ∨ 4611686018427387904 < exp ∨ exp < -4611686018427387904
  · exact back_out neg dg exp w hm h
  · exact back_in neg dg exp w (by omega) (by omega) (by omega) (by omega) ht
end Go.Proofs.Qxb6603079aDoor
