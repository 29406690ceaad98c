/-
  A PROOF OF 'Rows.FnWord32IsFirstFourBytesAndAgreesWithWord64Said'. The frame is the guide's shell for this function; the walk is ours (contracts and plain laws: Qxb6608759aWords, Qxb6608759aWords64).
-/
import Derived.Test.Qxb6608759aRows
import Derived.WalkKit
import Derived.ProofKit
import Derived.OpenShut
import Derived.ShutString
import Derived.LoopTactic
import Derived.Test.Qxb6608759aWords64
namespace Go.Proofs.Qxb6608759a.fnWord32IsFirstFourBytesAndAgreesWithWord64
open Go.ChangeShapes Go.WideShapes Go.ChangeAt Go.RowKit
open Go.ChangeMaps (open_string shut_string)
set_option linter.unusedVariables false      -- a walk need not use every 'w<i>' (that an integer argument fits its kind)

theorem own : ownKnob Try.prog.godebug = none := by kernel_rfl

/-! ### THE WALK -/
set_option maxHeartbeats 400000 in
theorem walk_mid (a0 : ByteArray) (h4 : 4 ≤ a0.size) (h20 : a0.size ≤ 1048576) (w : World) :
    Calls Try.prog 3 #[.string a0] w fun e w' => e = .returned (.bool true) ∧ Grown w w' := by
  have b0 : 0 < a0.size := by omega
  have b1 : (1 : Int) < (a0.size : Int) := by omega
  have b2 : (2 : Int) < (a0.size : Int) := by omega
  have b3 : (3 : Int) < (a0.size : Int) := by omega
  have b4 : (4 : Int) ≤ (a0.size : Int) := by omega
  go_enter Try.func3, Try.ntmps3
  go_wp2_with (first | (go_at_call 6; refine (zz32_any _ (by omega) _).mono ?_; rintro e w1 ⟨rfl, hw1⟩; have H1 : Hid (∃ n, w1 = w.drewN n) := hw1; clear hw1) | go_in)
  go_loop [4] (fun i => ∃ k : Nat, k ≤ 4 ∧ i = .int .i64 k) (fun i => 4 - (intOf i).toNat)
  case atStart => exact ⟨0, by omega, rfl⟩
  case round =>
    obtain ⟨k, hk, rfl⟩ := hrel
    have hkk : k = 0 ∨ k = 1 ∨ k = 2 ∨ k = 3 ∨ k = 4 := by omega
    rcases hkk with rfl | rfl | rfl | rfl | rfl
    · have e := nib0 a0 (by omega)
      go_wp2
      exact ⟨⟨1, by omega, rfl⟩, by simp [intOf]⟩
    · have e := nib1 a0 (by omega)
      go_wp2
      exact ⟨⟨2, by omega, rfl⟩, by simp [intOf]⟩
    · have e := nib2 a0 (by omega)
      go_wp2
      exact ⟨⟨3, by omega, rfl⟩, by simp [intOf]⟩
    · have e := nib3 a0 (by omega)
      go_wp2
      exact ⟨⟨4, by omega, rfl⟩, by simp [intOf]⟩
    · by_cases h8 : 8 ≤ a0.size
      · have h8' : (8 : Int) ≤ (a0.size : Int) := by omega
        go_wp2_with (first | (go_at_call 7; refine (zz64_any _ h8 _).mono ?_; rintro e w2 ⟨rfl, hw2⟩; have H2 : Hid (∃ n, w2 = w1.drewN n) := hw2; clear hw2; have e1 := half0 a0; have e2 := half1 a0) | (go_at_call 6; refine (zz32_any _ (by simp; omega) _).mono ?_; rintro e w3 ⟨rfl, hw3⟩; have H3 : Hid (∃ n, w3 = w2.drewN n) := hw3; clear hw3) | go_in)
        go_ret
        obtain ⟨n1, rfl⟩ := H1.out
        obtain ⟨n2, rfl⟩ := H2.out
        obtain ⟨n3, rfl⟩ := H3.out
        exact ⟨rfl, Grown.refl _⟩
      · have h8' : ¬ (8 : Int) ≤ (a0.size : Int) := by omega
        go_wp2
        go_ret
        obtain ⟨n1, rfl⟩ := H1.out
        exact ⟨rfl, Grown.refl _⟩
set_option maxHeartbeats 400000 in
theorem walk_long (a0 : ByteArray) (w0 : a0.size ≤ maxLen) (h20 : 1048576 < a0.size) (w : World) :
    Calls Try.prog 3 #[.string a0] w fun e w' => e = .returned (.bool true) ∧ Grown w w' := by
  unfold maxLen at w0
  have b1 : (1048576 : Int) < (a0.size : Int) := by omega
  go_enter Try.func3, Try.ntmps3
  go_wp2
  go_ret
  exact ⟨rfl, Grown.refl _⟩
set_option maxHeartbeats 400000 in
theorem walk_short (a0 : ByteArray) (h4 : a0.size < 4) (w : World) :
    Calls Try.prog 3 #[.string a0] w fun e w' => e = .returned (.bool true) ∧ Grown w w' := by
  have b1 : (a0.size : Int) < 4 := by omega
  go_enter Try.func3, Try.ntmps3
  go_wp2
  go_ret
  exact ⟨rfl, Grown.refl _⟩
theorem walk (a0 : ByteArray) (w0 : a0.size ≤ maxLen) (w : World) :
    Calls Try.prog 3 #[.string a0] w fun e w' => e = .returned (.bool true) ∧ Grown w w' := by
  by_cases h1 : 1048576 < a0.size
  · exact walk_long a0 w0 h1 w
  · by_cases h2 : a0.size < 4
    · exact walk_short a0 h2 w
    · exact walk_mid a0 (by omega) (by omega) w

/-! ### THE ROW's STEP: WRITTEN OUT: LEAVE IT -/
set_option maxRecDepth 100000 in
theorem lifted (os : Os) (started : os.Started) (H : Type) (enc : TypeId × Value → H) :
    ReturnsInHanded {} Try.checked os 3 .any (Rows.fnWord32IsFirstFourBytesAndAgreesWithWord64Spec.pre6 enc Try.prog Try.f3 Rows.fnWord32IsFirstFourBytesAndAgreesWithWord64Row.domain false) (Rows.fnWord32IsFirstFourBytesAndAgreesWithWord64Spec.post enc Try.prog Try.f3 false true false false) := by
  refine returnsInHanded_of_change (C := Try.checked) own started (by kernel_rfl) Try.func3
    (ChangeSpec.witness6 (enc := enc) (C := Try.checked) false ⟨#[], #[.string ByteArray.empty], []⟩ 8 (by kernel_rfl) (by kernel_rfl) (by kernel_rfl) (by kernel_rfl)) ?_
  intro W base args ds gs before hval0 hW hcnd _
  have hval : ∀ (j : Nat) t v, Try.f3.params[j]? = some t → args[j]? = some v → Value.okWide Try.prog W .any base t v := hval0
  have hW' := hW
  obtain ⟨p, q, hA0, hV, rfl, hfz, hnd⟩ := hW
  have hA : DataW.TrodAll enc Try.prog W 0 (fun _ => true) true Try.f3.params.toList args.toList ds p := hA0
  rw [Try.params3] at hA hval
  obtain ⟨v0, vs0, d0, ds0, p0, q0, hargs, rfl, rfl, h0, r0⟩ := trodAll_cons hA
  obtain ⟨rfl, rfl, rfl⟩ := trodAll_nil r0
  obtain rfl : args = #[v0] := by cases args; simp_all
  obtain ⟨rfl, rfl⟩ := trodVars_none hV
  obtain ⟨a0, rfl, rfl, rfl, w0⟩ := open_string Try.underlying9 (hval 0 9 v0 rfl rfl) h0
  clear hA0 hval0
  simp only [List.append_nil] at hW'
  refine (walk a0 w0 W).mono fun e W' ⟨he, hg⟩ => ?_
  subst he
  exact ⟨_, rfl, post_of_same (pa := []) (pv := []) hW' (fun _ _ _ => (trodAll_cons_mk (shut_bool Try.underlying4 _) trodAll_mk0)) (fun sp _ => (trodAll_cons_mk (shut_string Try.underlying9 w0) trodAll_mk0)) (fun _ _ => rfl) rfl
    (hg.frame _) hg.2.1 (ok_one (by kernel_rfl) rfl (okWide_bool_mk Try.underlying4 _))⟩

theorem over : Rows.fnWord32IsFirstFourBytesAndAgreesWithWord64Row.holds Try.pinned (OpenSpec.ofChange Rows.fnWord32IsFirstFourBytesAndAgreesWithWord64Spec) :=
  OpenClaim.holds_of_wide 3 Try.f3 rfl rfl rfl rfl rfl rfl rfl ⟨rfl, rfl, rfl, rfl, rfl⟩ rfl rfl rfl rfl rfl (by kernel_rfl) Try.func3 (by kernel_rfl)
    (of_decide_eq_true (by kernel_rfl)) (by unfold Func.isWrapper; first | (rw [if_pos (by decide +kernel)]; kernel_rfl) | (rw [if_neg (by decide +kernel)]; exact ⟨rfl, rfl⟩))
    (fun os started H enc _ => lifted os started H enc)

/-- ████ THE STATEMENT ████ -/
theorem proved : Rows.FnWord32IsFirstFourBytesAndAgreesWithWord64Said :=
  over
#print axioms proved
end Go.Proofs.Qxb6608759a.fnWord32IsFirstFourBytesAndAgreesWithWord64
