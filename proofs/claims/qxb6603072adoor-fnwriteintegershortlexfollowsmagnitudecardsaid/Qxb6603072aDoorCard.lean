/-
  THE ROW AND THE TIED CARD of FnWriteIntegerShortlexFollowsMagnitude: from the listed tables to what the walks ask; the row's step (the guide's template, a listed row); the card by the builder's one call over the given tie.
-/
import Derived.Test.Qxb6603072aDoorRows
import Derived.Test.Qxb6603072aDoorTie
import Derived.Test.Qxb6603072aDoorCards
import Derived.Test.Qxb6603072aDoorLaw
import Derived.ProofKit
import Derived.LaidMore
import Derived.OpenShut
import Derived.Stop.Joined
import Derived.SevenTiedAt
import Derived.Lib.LaidTab
import Derived.Stop.LaidErr
namespace Go.Proofs.Qxb6603072aDoor
open Go.ChangeShapes Go.WideShapes Go.ChangeAt Go.RowKit

theorem own : ownKnob Tryd.prog.godebug = none := by kernel_rfl

/-! ### The listed tables -/
def db32 : List Int := [0, 1, 28, 2, 29, 14, 24, 3, 30, 22, 20, 15, 25, 17, 4, 8, 31, 27, 13, 23, 21, 19, 16, 7, 26, 12, 18, 6, 11, 5, 10, 9]
def db64 : List Int := [0, 1, 56, 2, 57, 49, 28, 3, 61, 58, 42, 50, 38, 29, 17, 4, 62, 47, 59, 36, 45, 43, 51, 22, 53, 39, 33, 30, 24, 18, 12, 5, 63, 55, 48, 27, 60, 41, 37, 16, 46, 35, 44, 21, 52, 32, 23, 11, 54, 26, 40, 15, 34, 20, 31, 10, 25, 14, 19, 9, 13, 8, 7, 6]
def nm32 : String := match Rows.fnWriteIntegerShortlexFollowsMagnitudeRow.laid with
  | (n, _) :: _ => n
  | _ => ""
def nm64 : String := match Rows.fnWriteIntegerShortlexFollowsMagnitudeRow.laid with
  | _ :: (n, _) :: _ => n
  | _ => ""
theorem laid_eq : Rows.fnWriteIntegerShortlexFollowsMagnitudeRow.laid = [(nm32, Lib.tabData .u8 db32), (nm64, Lib.tabData .u8 db64), (powName, Lib.tabData .u64 Lib.pow10Tab)] := by kernel_rfl
theorem g64 : Tryd.prog.globalNamed nm64 = some 2 := by kernel_rfl
theorem g64Type : (Tryd.prog.globals[2]?).map (·.type) = some 64 := by kernel_rfl
theorem g0Type : (Tryd.prog.globals[0]?).map (·.type) = some 56 := by kernel_rfl
theorem cells5 : Tryd.prog.cellsOf 5 = 1 := by kernel_rfl
theorem cells25 : Tryd.prog.cellsOf 25 = 1 := by kernel_rfl
theorem cells64 : Tryd.prog.cellsOf 64 = 64 := by kernel_rfl
theorem cells56 : Tryd.prog.cellsOf 56 = 20 := by kernel_rfl

/-- WHAT THE CONDITION GIVES THE WALKS. -/
theorem tabs_of_laid {W : World} (h : laidMetH Tryd.prog Rows.fnWriteIntegerShortlexFollowsMagnitudeRow.laid W) : Tabs W := by
  rw [MakeChecks.laidMetH_plain _ _ _ (by kernel_rfl), laid_eq] at h
  have h64 := h.tail
  have hp := h64.tail
  have t64 := Lib.tabIs_of_head g64 g64Type Tryd.underlying64 Tryd.underlying5 cells5 cells64 h64
  have tp := Lib.tabIs_of_head pow_global g0Type Tryd.underlying56 Tryd.underlying25 cells25 cells56 hp
  have c7 : W.cell? ⟨2, 7, .none⟩ = some (.int .u8 3) := t64.cell g64 7 (by decide)
  have c15 : W.cell? ⟨2, 15, .none⟩ = some (.int .u8 4) := t64.cell g64 15 (by decide)
  refine ⟨?_, c7, c15, tp⟩
  rcases Nat.lt_or_ge 2 W.heap.size with h' | h'
  · exact h'
  · simp [World.cell?, Array.getElem?_eq_none h'] at c7

/-- The door's own heap meets the condition. -/
theorem door_met (os : Os) (args : Array Value) : laidMetH Tryd.prog Rows.fnWriteIntegerShortlexFollowsMagnitudeRow.laid ((World.doorLaid Tryd.prog 24 os).forCall (fun _ _ => 0) ⟨#[], args, []⟩).memory :=
  laidMetH_of_parts3 (fuel := 8) (laidMet_of_run' 8 (by kernel_rfl) (by kernel_rfl)) (by kernel_rfl) (by kernel_rfl)

set_option maxRecDepth 100000 in
theorem lifted (os : Os) (started : os.Started) (H : Type) (enc : TypeId × Value → H) :
    ReturnsInHanded {} Tryd.checked os 4 .any (fun w args => (Rows.fnWriteIntegerShortlexFollowsMagnitudeSpec.pre enc Tryd.prog Tryd.f4 [] false w args ∧ laidMetH Tryd.prog Rows.fnWriteIntegerShortlexFollowsMagnitudeRow.laid w) ∧ sizedMet enc Tryd.prog Tryd.f4 (OpenSpec.ofChange Rows.fnWriteIntegerShortlexFollowsMagnitudeSpec) false w args)
      (Rows.fnWriteIntegerShortlexFollowsMagnitudeSpec.post enc Tryd.prog Tryd.f4 false true false false) := by
  refine returnsInHanded_of_change_and (C := Tryd.checked) (X := fun w _ => laidMetH Tryd.prog Rows.fnWriteIntegerShortlexFollowsMagnitudeRow.laid w) (fun _ _ _ hh h => h.of_heap hh) own started (by kernel_rfl) Tryd.func4
    (ChangeSpec.witness_shaped (enc := enc) (C := Tryd.checked) (os := os) (X := fun w _ => laidMetH Tryd.prog Rows.fnWriteIntegerShortlexFollowsMagnitudeRow.laid w) false (World.doorLaid Tryd.prog 24 os) #[.bool false, .int .u64 0, .int .u64 0, .int .u8 0, .int .u8 0] 8 rfl (World.shaped_of_RefB (by kernel_rfl) (by kernel_rfl)) (by kernel_rfl) (by kernel_rfl) (by kernel_rfl) (door_met os _)) ?_
  intro W base args ds gs before hval0 hW _ _ hL _
  have hval : ∀ (j : Nat) t v, Tryd.f4.params[j]? = some t → args[j]? = some v → Value.okWide Tryd.prog W .any base t v := hval0
  have hW' := hW
  obtain ⟨p, q, hA0, hV, rfl, hfz, hnd⟩ := hW
  have hA : DataW.TrodAll enc Tryd.prog W 0 (fun _ => true) true Tryd.f4.params.toList args.toList ds p := hA0
  rw [Tryd.params4] at hA hval
  obtain ⟨v0, vs0, d0, ds0, p0, q0, hargs, rfl, rfl, h0, r0⟩ := trodAll_cons hA
  obtain ⟨v1, vs1, d1, ds1, p1, q1, rfl, rfl, rfl, h1, r1⟩ := trodAll_cons r0
  obtain ⟨v2, vs2, d2, ds2, p2, q2, rfl, rfl, rfl, h2, r2⟩ := trodAll_cons r1
  obtain ⟨v3, vs3, d3, ds3, p3, q3, rfl, rfl, rfl, h3, r3⟩ := trodAll_cons r2
  obtain ⟨v4, vs4, d4, ds4, p4, q4, rfl, rfl, rfl, h4, r4⟩ := trodAll_cons r3
  obtain ⟨rfl, rfl, rfl⟩ := trodAll_nil r4
  obtain rfl : args = #[v0, v1, v2, v3, v4] := by cases args; simp_all
  obtain ⟨rfl, rfl⟩ := trodVars_none hV
  obtain ⟨neg, rfl, rfl, rfl⟩ := open_bool Tryd.underlying4 (hval 0 4 v0 rfl rfl) h0
  obtain ⟨a, rfl, rfl, rfl, wa⟩ := open_int Tryd.underlying25 (hval 1 25 v1 rfl rfl) h1
  obtain ⟨b, rfl, rfl, rfl, wb⟩ := open_int Tryd.underlying25 (hval 2 25 v2 rfl rfl) h2
  obtain ⟨sg, rfl, rfl, rfl, ws⟩ := open_int Tryd.underlying5 (hval 3 5 v3 rfl rfl) h3
  obtain ⟨bs, rfl, rfl, rfl, wt⟩ := open_int Tryd.underlying5 (hval 4 5 v4 rfl rfl) h4
  have ba := bounds_u64 wa
  have bb := bounds_u64 wb
  obtain ⟨n, rfl⟩ : ∃ n : Nat, a = n := ⟨a.toNat, by omega⟩
  obtain ⟨m, rfl⟩ : ∃ m : Nat, b = m := ⟨b.toNat, by omega⟩
  clear hA0 hval0
  simp only [List.append_nil] at hW'
  refine (law_any neg n m sg bs W (by omega) (by omega) (tabs_of_laid hL)).mono fun e W' ⟨he, hg⟩ => ?_
  subst he
  refine ⟨_, rfl, _, _, _, [], [], [], hW', ?_, ?_, rfl, hg.frame _, fun h => by cases h⟩
  · exact trodAll_cons_mk (shut_bool Tryd.underlying4 _) trodAll_mk0
  · exact trodAll_cons_mk (shut_bool Tryd.underlying4 _) (trodAll_cons_mk (shut_int Tryd.underlying25 wa) (trodAll_cons_mk (shut_int Tryd.underlying25 wb) (trodAll_cons_mk (shut_int Tryd.underlying5 ws) (trodAll_cons_mk (shut_int Tryd.underlying5 wt) trodAll_mk0))))

theorem row_holds : Rows.FnWriteIntegerShortlexFollowsMagnitudeSaid :=
  OpenClaim.holds_of_wide 4 Tryd.f4 rfl rfl rfl rfl rfl rfl rfl ⟨rfl, rfl, rfl, rfl, rfl⟩ rfl rfl rfl rfl rfl (by kernel_rfl) Tryd.func4 (by kernel_rfl)
    (of_decide_eq_true (by kernel_rfl)) (by unfold Func.isWrapper; first | (rw [if_pos (by decide +kernel)]; kernel_rfl) | (rw [if_neg (by decide +kernel)]; exact ⟨rfl, rfl⟩))
    (fun os started H enc _ => lifted os started H enc)

theorem fn_named : Tryd.prog.funcNamed Rows.fnWriteIntegerShortlexFollowsMagnitudeRow.func = some 4 := by kernel_rfl

/-- THE GIVEN STATEMENT. -/
theorem card_holds : Rows.FnWriteIntegerShortlexFollowsMagnitudeCardSaid :=
  Claim7.holds_tied_plain_at .later [] [.data, .data, .data] true (true, "294a11fccfbcd96815ae6d3e4d1553a80120148c0b5edcd86c3c60cf0d4bcf0f") false
    row_holds (fun _ h => by cases h) (by kernel_rfl) (fun _ h => by cases h) fnWriteIntegerShortlexFollowsMagnitude_row_tie rfl ⟨rfl, rfl⟩ (by kernel_rfl) rfl
    (fun f fn hf hfn => by
      obtain rfl : f = 4 := Option.some.inj (fn_named.symm.trans hf) |>.symm
      obtain rfl : fn = Tryd.f4 := (Option.some.inj (Tryd.func4.symm.trans hfn)).symm
      exact ⟨by kernel_rfl, fun j t ht => by
        rw [Tryd.params4] at ht
        have hm : t ∈ [4, 25, 25, 5, 5] := by simpa using Array.mem_of_getElem? ht
        have hall : ([4, 25, 25, 5, 5].all fun u => !Tryd.prog.wantsStandIn u) = true := by kernel_rfl
        exact (show Tryd.prog.wantsStandIn t = false by simpa using List.all_eq_true.1 hall t hm)⟩)
    (by kernel_rfl)
end Go.Proofs.Qxb6603072aDoor
