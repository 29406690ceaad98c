/-
  A PROOF OF 'Rows.FnEntryOrdersAsTuplesSaid'. The frame is turned from the guide's worked rows over slices; the walk is in Qxb6614843aTup.
-/
import Derived.Test.Qxb6614843aRows
import Derived.Test.Qxb6614843aOpen
import Derived.Test.Qxb6614843aTup
namespace Go.Proofs.Qxb6614843a.fnEntryOrdersAsTuples
open Go.ChangeShapes Go.WideShapes Go.ChangeAt Go.RowKit
set_option linter.unusedVariables false

set_option maxRecDepth 100000 in
theorem lifted (os : Os) (started : os.Started) (H : Type) (enc : TypeId × Value → H) :
    ReturnsInHanded {} Try.checked os 7 .any (Rows.fnEntryOrdersAsTuplesSpec.pre6 enc Try.prog Try.f7 Rows.fnEntryOrdersAsTuplesRow.domain false) (Rows.fnEntryOrdersAsTuplesSpec.post enc Try.prog Try.f7 false true false false) := by
  refine returnsInHanded_of_change (C := Try.checked) own started (by kernel_rfl) Try.func7
    (ChangeSpec.witness6 (enc := enc) (C := Try.checked) false ⟨#[], #[.slice none 0 0, .slice none 0 0, .slice none 0 0], []⟩ 8 (by kernel_rfl) (by kernel_rfl) (by kernel_rfl) (by kernel_rfl)) ?_
  intro W base args ds gs before hval0 hW hcnd _
  have hval : ∀ (j : Nat) t v, Try.f7.params[j]? = some t → args[j]? = some v → Value.okWide Try.prog W .any base t v := hval0
  have hW' := hW
  obtain ⟨p, q, hA0, hV, rfl, hfz, hnd⟩ := hW
  have hA : DataW.TrodAll enc Try.prog W 0 (fun _ => true) true Try.f7.params.toList args.toList ds p := hA0
  rw [Try.params7] at hA hval
  obtain ⟨v0, vs0, d0, ds0, p0, q0, hargs, rfl, rfl, h0, r0⟩ := trodAll_cons hA
  obtain ⟨v1, vs1, d1, ds1, p1, q1, rfl, rfl, rfl, h1, r1⟩ := trodAll_cons r0
  obtain ⟨v2, vs2, d2, ds2, p2, q2, rfl, rfl, rfl, h2, r2⟩ := trodAll_cons r1
  obtain ⟨rfl, rfl, rfl⟩ := trodAll_nil r2
  obtain rfl : args = #[v0, v1, v2] := by cases args; simp_all
  obtain ⟨rfl, rfl⟩ := trodVars_none hV
  have s0 := okWide_slice Try.underlying37 (hval 0 37 v0 rfl rfl)
  have s1 := okWide_slice Try.underlying38 (hval 1 38 v1 rfl rfl)
  have s2 := okWide_slice Try.underlying38 (hval 2 38 v2 rfl rfl)
  obtain ⟨ka, K, kcap, ks, rfl, hK, hk⟩ := open_keys s0 h0
  obtain ⟨a1, N1, cap1, S1, L1, C1, B1, rfl, hN1, hc1⟩ := open_cols s1 h1
  obtain ⟨a2, N2, cap2, S2, L2, C2, B2, rfl, hN2, hc2⟩ := open_cols s2 h2
  clear hA0 hval0
  simp only [List.append_nil] at hW'
  have hlt : ∀ x ∈ p0 ++ (p1 ++ p2), x.block < W.heap.size := fun x hx => by simpa using hW'.lt x (by simpa using hx)
  refine (law8 ka a1 a2 K kcap N1 cap1 N2 cap2 ks S1 S2 L1 C1 L2 C2 B1 B2 W hK hN1 hN2 hk hc1 hc2).mono fun e W' ⟨he, hb⟩ => ?_
  subst he
  have t0 := Below.trod laidOut (by kernel_rfl) (of_decide_eq_true (by kernel_rfl)) h0 hb (fun x hx => hlt x (by simp [hx]))
  have t1 := Below.trod laidOut (by kernel_rfl) (of_decide_eq_true (by kernel_rfl)) h1 hb (fun x hx => hlt x (by simp [hx]))
  have t2 := Below.trod laidOut (by kernel_rfl) (of_decide_eq_true (by kernel_rfl)) h2 hb (fun x hx => hlt x (by simp [hx]))
  exact ⟨_, rfl, _, _, _, [], _, [], hW', trodAll_cons_mk (shut_bool Try.underlying4 _) trodAll_mk0, trodAll_cons_mk t0 (trodAll_cons_mk t1 (trodAll_cons_mk t2 trodAll_mk0)), rfl, hb.frame _, fun h => by cases h⟩

theorem over : Rows.fnEntryOrdersAsTuplesRow.holds Try.pinned (OpenSpec.ofChange Rows.fnEntryOrdersAsTuplesSpec) :=
  OpenClaim.holds_of_wide 7 Try.f7 rfl rfl rfl rfl rfl rfl rfl ⟨rfl, rfl, rfl, rfl, rfl⟩ rfl rfl rfl rfl rfl (by kernel_rfl) Try.func7 (by kernel_rfl)
    (of_decide_eq_true (by kernel_rfl)) (by unfold Func.isWrapper; first | (rw [if_pos (by decide +kernel)]; kernel_rfl) | (rw [if_neg (by decide +kernel)]; exact ⟨rfl, rfl⟩))
    (fun os started H enc _ => lifted os started H enc)

/-- THE STATEMENT -/
theorem proved : Rows.FnEntryOrdersAsTuplesSaid :=
  over
#print axioms proved
end Go.Proofs.Qxb6614843a.fnEntryOrdersAsTuples
