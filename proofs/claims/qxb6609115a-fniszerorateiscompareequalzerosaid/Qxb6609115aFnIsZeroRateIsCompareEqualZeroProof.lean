/-
  A PROOF OF 'Rows.FnIsZeroRateIsCompareEqualZeroSaid'. The frame is the guide's template at this function's number and types (a float parameter: Derived/Laws/Cover2.lean's 'open_float', 'shut_float'); the walk is ours (contracts: Qxb6609115aValues).
-/
import Derived.Test.Qxb6609115aRows
import Derived.WalkKit
import Derived.ProofKit
import Derived.OpenShut
import Derived.ShutString
import Derived.Test.Qxb6609115aValues
namespace Go.Proofs.Qxb6609115a.fnIsZeroRateIsCompareEqualZero
open Go.ChangeShapes Go.WideShapes Go.ChangeAt Go.RowKit
open Go.ChangeMaps (open_string shut_string)
set_option linter.unusedVariables false      -- a walk need not use every 'w<i>' (that an integer argument fits its kind)

theorem own : ownKnob Try.prog.godebug = none := by kernel_rfl

attribute [local go_sem] run_store_float
/-! ### THE WALK -/
theorem walk_nan (a : Nat) (h : FloatKind.f64.format.order a a = none) (h0 : FloatKind.f64.format.order a 0 = none) (w : World) :
    Calls Try.prog 4 #[.float .f64 a] w fun e w' => e = .returned (.bool true) ∧ Grown w w' := by
  have z := zero_zero
  go_enter Try.func4, Try.ntmps4
  go_wp2_with (first | (go_at_call 8; refine (zz8 _ _).mono ?_; rintro e w1 ⟨rfl, rfl⟩) | go_in)
  go_ret
  exact ⟨rfl, by repeat (first | exact Grown.refl _ | apply Grown.drew | apply Grown.alloc)⟩
theorem walk_lt (a : Nat) (h : FloatKind.f64.format.order a a = some .eq) (h0 : FloatKind.f64.format.order a 0 = some .lt) (w : World) :
    Calls Try.prog 4 #[.float .f64 a] w fun e w' => e = .returned (.bool true) ∧ Grown w w' := by
  have z := zero_zero
  go_enter Try.func4, Try.ntmps4
  go_wp2_with (first | (go_at_call 8; refine (zz8 _ _).mono ?_; rintro e w1 ⟨rfl, rfl⟩) | go_in)
  go_ret
  exact ⟨rfl, by repeat (first | exact Grown.refl _ | apply Grown.drew | apply Grown.alloc)⟩
theorem walk_eq (a : Nat) (h : FloatKind.f64.format.order a a = some .eq) (h0 : FloatKind.f64.format.order a 0 = some .eq) (w : World) :
    Calls Try.prog 4 #[.float .f64 a] w fun e w' => e = .returned (.bool true) ∧ Grown w w' := by
  have z := zero_zero
  go_enter Try.func4, Try.ntmps4
  go_wp2_with (first | (go_at_call 8; refine (zz8 _ _).mono ?_; rintro e w1 ⟨rfl, rfl⟩) | go_in)
  go_ret
  exact ⟨rfl, by repeat (first | exact Grown.refl _ | apply Grown.drew | apply Grown.alloc)⟩
theorem walk_gt (a : Nat) (h : FloatKind.f64.format.order a a = some .eq) (h0 : FloatKind.f64.format.order a 0 = some .gt) (w : World) :
    Calls Try.prog 4 #[.float .f64 a] w fun e w' => e = .returned (.bool true) ∧ Grown w w' := by
  have z := zero_zero
  go_enter Try.func4, Try.ntmps4
  go_wp2_with (first | (go_at_call 8; refine (zz8 _ _).mono ?_; rintro e w1 ⟨rfl, rfl⟩) | go_in)
  go_ret
  exact ⟨rfl, by repeat (first | exact Grown.refl _ | apply Grown.drew | apply Grown.alloc)⟩
theorem walk (a : Nat) (w : World) :
    Calls Try.prog 4 #[.float .f64 a] w fun e w' => e = .returned (.bool true) ∧ Grown w w' := by
  rcases self_zero a with ⟨h, h0⟩ | ⟨h, h0⟩
  · exact walk_nan a h h0 w
  · cases ho : FloatKind.f64.format.order a 0 with
    | none => exact absurd ho h0
    | some o =>
      cases o with
      | lt => exact walk_lt a h ho w
      | eq => exact walk_eq a h ho w
      | gt => exact walk_gt a h ho w

/-! ### THE ROW's STEP: WRITTEN OUT: LEAVE IT -/
set_option maxRecDepth 100000 in
theorem lifted (os : Os) (started : os.Started) (H : Type) (enc : TypeId × Value → H) :
    ReturnsInHanded {} Try.checked os 4 .any (Rows.fnIsZeroRateIsCompareEqualZeroSpec.pre6 enc Try.prog Try.f4 Rows.fnIsZeroRateIsCompareEqualZeroRow.domain false) (Rows.fnIsZeroRateIsCompareEqualZeroSpec.post enc Try.prog Try.f4 false true false false) := by
  refine returnsInHanded_of_change (C := Try.checked) own started (by kernel_rfl) Try.func4
    (ChangeSpec.witness6 (enc := enc) (C := Try.checked) false ⟨#[], #[.float .f64 0], []⟩ 8 (by kernel_rfl) (by kernel_rfl) (by kernel_rfl) (by kernel_rfl)) ?_
  intro W base args ds gs before hval0 hW hcnd _
  have hval : ∀ (j : Nat) t v, Try.f4.params[j]? = some t → args[j]? = some v → Value.okWide Try.prog W .any base t v := hval0
  have hW' := hW
  obtain ⟨p, q, hA0, hV, rfl, hfz, hnd⟩ := hW
  have hA : DataW.TrodAll enc Try.prog W 0 (fun _ => true) true Try.f4.params.toList args.toList ds p := hA0
  rw [Try.params4] at hA hval
  obtain ⟨v0, vs0, d0, ds0, p0, q0, hargs, rfl, rfl, h0, r0⟩ := trodAll_cons hA
  obtain ⟨rfl, rfl, rfl⟩ := trodAll_nil r0
  obtain rfl : args = #[v0] := by cases args; simp_all
  obtain ⟨rfl, rfl⟩ := trodVars_none hV
  obtain ⟨a0, rfl, rfl, rfl, w0⟩ := open_float Try.underlying22 (hval 0 22 v0 rfl rfl) h0
  clear hA0 hval0
  simp only [List.append_nil] at hW'
  refine (walk a0 W).mono fun e W' ⟨he, hg⟩ => ?_
  subst he
  exact ⟨_, rfl, post_of_same (pa := []) (pv := []) hW' (fun _ _ _ => (trodAll_cons_mk (shut_bool Try.underlying4 _) trodAll_mk0)) (fun sp _ => (trodAll_cons_mk (shut_float Try.underlying22 w0) trodAll_mk0)) (fun _ _ => rfl) rfl
    (hg.frame _) hg.2.1 (ok_one (by kernel_rfl) rfl (okWide_bool_mk Try.underlying4 _))⟩

theorem over : Rows.fnIsZeroRateIsCompareEqualZeroRow.holds Try.pinned (OpenSpec.ofChange Rows.fnIsZeroRateIsCompareEqualZeroSpec) :=
  OpenClaim.holds_of_wide 4 Try.f4 rfl rfl rfl rfl rfl rfl rfl ⟨rfl, rfl, rfl, rfl, rfl⟩ rfl rfl rfl rfl rfl (by kernel_rfl) Try.func4 (by kernel_rfl)
    (of_decide_eq_true (by kernel_rfl)) (by unfold Func.isWrapper; first | (rw [if_pos (by decide +kernel)]; kernel_rfl) | (rw [if_neg (by decide +kernel)]; exact ⟨rfl, rfl⟩))
    (fun os started H enc _ => lifted os started H enc)

/-- ████ THE STATEMENT ████ -/
theorem proved : Rows.FnIsZeroRateIsCompareEqualZeroSaid :=
  over
#print axioms proved
end Go.Proofs.Qxb6609115a.fnIsZeroRateIsCompareEqualZero
