/-
  THE PROOF OF 'Rows.FnFastOrSlowSignSymmetrySaid' (zzlaws_internal_report_b1.FnFastOrSlowSignSymmetry). The frame is the guide's template at this function's number and types (a float parameter); the walk is ours; the plain law of the floats: Qxb6603444aPlain.
-/
import Derived.Test.Qxb6603444aRows
import Derived.Test.Qxb6603444aPlain
import Derived.WalkKit
import Derived.WalkLawsBesides
import Derived.ProofKit
import Derived.OpenShut
import Derived.ShutString
namespace Go.Proofs.Qxb6603444a.fnFastOrSlowSignSymmetry
open Go.ChangeShapes Go.WideShapes Go.ChangeAt Go.RowKit

theorem own : ownKnob Try.prog.godebug = none := by kernel_rfl

/-- x above zero. -/
theorem walk_gt (x y : Nat) (w : World) (hy : Op.negFloat .f64 x = y)
    (h1 : FloatKind.f64.format.order x 0 = some .gt) (h2 : FloatKind.f64.format.order y 0 = some .lt) (h3 : FloatKind.f64.format.order x x = some .eq) :
    Calls Try.prog 4 #[.float .f64 x] w fun e w' => e = .returned (.bool true) ∧ Grown w w' := by
  have hn : ∀ W, (Op.unary .neg (.float .f64 x)).run Try.prog W = .ok (.float .f64 y) W := fun _ => by rw [← hy]; rfl
  clear hy
  go_enter Try.func4, Try.ntmps4
  go_wp2
  go_ret
  exact ⟨rfl, Grown.refl _⟩

/-- x below zero. -/
theorem walk_lt (x y : Nat) (w : World) (hy : Op.negFloat .f64 x = y)
    (h1 : FloatKind.f64.format.order x 0 = some .lt) (h2 : FloatKind.f64.format.order y 0 = some .gt) (h3 : FloatKind.f64.format.order x x = some .eq) :
    Calls Try.prog 4 #[.float .f64 x] w fun e w' => e = .returned (.bool true) ∧ Grown w w' := by
  have hn : ∀ W, (Op.unary .neg (.float .f64 x)).run Try.prog W = .ok (.float .f64 y) W := fun _ => by rw [← hy]; rfl
  clear hy
  go_enter Try.func4, Try.ntmps4
  go_wp2
  go_ret
  exact ⟨rfl, Grown.refl _⟩

/-- x a zero. -/
theorem walk_eq (x y : Nat) (w : World) (hy : Op.negFloat .f64 x = y)
    (h1 : FloatKind.f64.format.order x 0 = some .eq) (h2 : FloatKind.f64.format.order y 0 = some .eq) :
    Calls Try.prog 4 #[.float .f64 x] w fun e w' => e = .returned (.bool true) ∧ Grown w w' := by
  have hn : ∀ W, (Op.unary .neg (.float .f64 x)).run Try.prog W = .ok (.float .f64 y) W := fun _ => by rw [← hy]; rfl
  clear hy
  go_enter Try.func4, Try.ntmps4
  go_wp2
  go_ret
  exact ⟨rfl, Grown.refl _⟩

/-- x a NaN. -/
theorem walk_nan (x y : Nat) (w : World) (hy : Op.negFloat .f64 x = y)
    (h1 : FloatKind.f64.format.order x 0 = .none) (h2 : FloatKind.f64.format.order y 0 = .none) (h3 : FloatKind.f64.format.order x x = .none) :
    Calls Try.prog 4 #[.float .f64 x] w fun e w' => e = .returned (.bool true) ∧ Grown w w' := by
  have hn : ∀ W, (Op.unary .neg (.float .f64 x)).run Try.prog W = .ok (.float .f64 y) W := fun _ => by rw [← hy]; rfl
  clear hy
  go_enter Try.func4, Try.ntmps4
  go_wp2
  go_ret
  exact ⟨rfl, Grown.refl _⟩

/-! ### STEP 1: THE WALK -/
theorem walk (x : Nat) (w : World) :
    Calls Try.prog 4 #[.float .f64 x] w fun e w' => e = .returned (.bool true) ∧ Grown w w' := by
  rcases Plain.ways x with ⟨h1, h2, h3⟩ | ⟨h1, h2, h3⟩ | ⟨h1, h2⟩ | ⟨h1, h2, h3⟩
  · exact walk_gt x _ w rfl h1 h2 h3
  · exact walk_lt x _ w rfl h1 h2 h3
  · exact walk_eq x _ w rfl h1 h2
  · exact walk_nan x _ w rfl h1 h2 h3

/-! ### THE ROW's STEP -/
set_option maxRecDepth 100000 in
theorem lifted (os : Os) (started : os.Started) (H : Type) (enc : TypeId × Value → H) :
    ReturnsInHanded {} Try.checked os 4 .any (Rows.fnFastOrSlowSignSymmetrySpec.pre6 enc Try.prog Try.f4 Rows.fnFastOrSlowSignSymmetryRow.domain false) (Rows.fnFastOrSlowSignSymmetrySpec.post enc Try.prog Try.f4 false true false false) := by
  refine returnsInHanded_of_change (C := Try.checked) own started (by kernel_rfl) Try.func4
    (ChangeSpec.witness6 (enc := enc) (C := Try.checked) false ⟨#[], #[.float .f64 0], []⟩ 8 (by kernel_rfl) (by kernel_rfl) (by kernel_rfl) (by kernel_rfl)) ?_
  intro W base args ds gs before hval0 hW hcnd _
  have hval : ∀ (j : Nat) t v, Try.f4.params[j]? = some t → args[j]? = some v → Value.okWide Try.prog W .any base t v := hval0
  have hW' := hW
  obtain ⟨p, q, hA0, hV, rfl, hfz, hnd⟩ := hW
  have hA : DataW.TrodAll enc Try.prog W 0 (fun _ => true) true Try.f4.params.toList args.toList ds p := hA0
  rw [Try.params4] at hA hval
  obtain ⟨v0, vs0, d0, ds0, p0, q0, hargs, rfl, rfl, h0, r0⟩ := trodAll_cons hA
  obtain ⟨rfl, rfl, rfl⟩ := trodAll_nil r0
  obtain rfl : args = #[v0] := by cases args; simp_all
  obtain ⟨rfl, rfl⟩ := trodVars_none hV
  obtain ⟨a0, rfl, rfl, rfl, w0⟩ := open_float Try.underlying27 (hval 0 27 v0 rfl rfl) h0
  clear hA0 hval0
  simp only [List.append_nil] at hW'
  refine (walk a0 W).mono fun e W' ⟨he, hg⟩ => ?_
  subst he
  exact ⟨_, rfl, post_of_same (pa := []) (pv := []) hW' (fun _ _ _ => (trodAll_cons_mk (shut_bool Try.underlying4 _) trodAll_mk0)) (fun sp _ => (trodAll_cons_mk (shut_float Try.underlying27 w0) trodAll_mk0)) (fun _ _ => rfl) rfl
    (hg.frame _) hg.2.1 (ok_one (by kernel_rfl) rfl (okWide_bool_mk Try.underlying4 _))⟩

theorem over : Rows.fnFastOrSlowSignSymmetryRow.holds Try.pinned (OpenSpec.ofChange Rows.fnFastOrSlowSignSymmetrySpec) :=
  OpenClaim.holds_of_wide 4 Try.f4 rfl rfl rfl rfl rfl rfl rfl ⟨rfl, rfl, rfl, rfl, rfl⟩ rfl rfl rfl rfl rfl (by kernel_rfl) Try.func4 (by kernel_rfl)
    (of_decide_eq_true (by kernel_rfl)) (by unfold Func.isWrapper; first | (rw [if_pos (by decide +kernel)]; kernel_rfl) | (rw [if_neg (by decide +kernel)]; exact ⟨rfl, rfl⟩))
    (fun os started H enc _ => lifted os started H enc)
end Go.Proofs.Qxb6603444a.fnFastOrSlowSignSymmetry
namespace Go.Proofs.Qxb6603444a
/-- THE GIVEN STATEMENT. -/
theorem signSymmetry_proved : Rows.FnFastOrSlowSignSymmetrySaid := fnFastOrSlowSignSymmetry.over
end Go.Proofs.Qxb6603444a
