/-
  A PROOF OF 'Rows.FnEntryDecodesToSelectedValuesSaid'. The frame is turned from the guide's worked rows over slices; the walk is in Qxb6614843aDec.
-/
import Derived.Test.Qxb6614843aRows
import Derived.Test.Qxb6614843aOpen
namespace Go.Proofs.Qxb6614843a.fnEntryDecodesToSelectedValues
open Go.ChangeShapes Go.WideShapes Go.ChangeAt Go.RowKit
set_option linter.unusedVariables false

set_option maxRecDepth 100000 in
theorem lifted (os : Os) (started : os.Started) (H : Type) (enc : TypeId × Value → H) :
    ReturnsInHanded {} Try.checked os 6 .any (Rows.fnEntryDecodesToSelectedValuesSpec.pre6 enc Try.prog Try.f6 Rows.fnEntryDecodesToSelectedValuesRow.domain false) (Rows.fnEntryDecodesToSelectedValuesSpec.post enc Try.prog Try.f6 false true false false) := by
  refine returnsInHanded_of_change (C := Try.checked) own started (by kernel_rfl) Try.func6
    (ChangeSpec.witness6 (enc := enc) (C := Try.checked) false ⟨#[], #[.slice none 0 0, .slice none 0 0, .slice none 0 0], []⟩ 8 (by kernel_rfl) (by kernel_rfl) (by kernel_rfl) (by kernel_rfl)) ?_
  intro W base args ds gs before hval0 hW hcnd _
  have hval : ∀ (j : Nat) t v, Try.f6.params[j]? = some t → args[j]? = some v → Value.okWide Try.prog W .any base t v := hval0
  have hW' := hW
  obtain ⟨p, q, hA0, hV, rfl, hfz, hnd⟩ := hW
  have hA : DataW.TrodAll enc Try.prog W 0 (fun _ => true) true Try.f6.params.toList args.toList ds p := hA0
  rw [Try.params6] at hA hval
  obtain ⟨v0, vs0, d0, ds0, p0, q0, hargs, rfl, rfl, h0, r0⟩ := trodAll_cons hA
  obtain ⟨v1, vs1, d1, ds1, p1, q1, rfl, rfl, rfl, h1, r1⟩ := trodAll_cons r0
  obtain ⟨v2, vs2, d2, ds2, p2, q2, rfl, rfl, rfl, h2, r2⟩ := trodAll_cons r1
  obtain ⟨rfl, rfl, rfl⟩ := trodAll_nil r2
  obtain rfl : args = #[v0, v1, v2] := by cases args; simp_all
  obtain ⟨rfl, rfl⟩ := trodVars_none hV
  have s0 := okWide_slice Try.underlying37 (hval 0 37 v0 rfl rfl)
  have s1 := okWide_slice Try.underlying38 (hval 1 38 v1 rfl rfl)
  have s2 := okWide_slice Try.underlying39 (hval 2 39 v2 rfl rfl)
  obtain ⟨ka, K, kcap, ks, rfl, hK, hk⟩ := open_keys s0 h0
  obtain ⟨a, N, cap, S, L, C, B, rfl, hN, hc⟩ := open_cols s1 h1
  obtain ⟨ia, M, icap, fs, rfl, hM, hf⟩ := open_flags s2 h2
  clear hA0 hval0
  simp only [List.append_nil] at hW'
  have hlt : ∀ x ∈ p0 ++ (p1 ++ p2), x.block < W.heap.size := fun x hx => by simpa using hW'.lt x (by simpa using hx)
  refine (law7 ka a ia K kcap N cap M icap ks S L C B fs W hK hN hM hk hc hf).mono fun e W' ⟨he, hb⟩ => ?_
  subst he
  have t0 := Below.trod laidOut (by kernel_rfl) (of_decide_eq_true (by kernel_rfl)) h0 hb (fun x hx => hlt x (by simp [hx]))
  have t1 := Below.trod laidOut (by kernel_rfl) (of_decide_eq_true (by kernel_rfl)) h1 hb (fun x hx => hlt x (by simp [hx]))
  have t2 := Below.trod laidOut (by kernel_rfl) (of_decide_eq_true (by kernel_rfl)) h2 hb (fun x hx => hlt x (by simp [hx]))
  exact ⟨_, rfl, _, _, _, [], _, [], hW', trodAll_cons_mk (shut_bool Try.underlying4 _) trodAll_mk0, trodAll_cons_mk t0 (trodAll_cons_mk t1 (trodAll_cons_mk t2 trodAll_mk0)), rfl, hb.frame _, fun h => by cases h⟩

theorem over : Rows.fnEntryDecodesToSelectedValuesRow.holds Try.pinned (OpenSpec.ofChange Rows.fnEntryDecodesToSelectedValuesSpec) :=
  OpenClaim.holds_of_wide 6 Try.f6 rfl rfl rfl rfl rfl rfl rfl ⟨rfl, rfl, rfl, rfl, rfl⟩ rfl rfl rfl rfl rfl (by kernel_rfl) Try.func6 (by kernel_rfl)
    (of_decide_eq_true (by kernel_rfl)) (by unfold Func.isWrapper; first | (rw [if_pos (by decide +kernel)]; kernel_rfl) | (rw [if_neg (by decide +kernel)]; exact ⟨rfl, rfl⟩))
    (fun os started H enc _ => lifted os started H enc)

/-- THE STATEMENT -/
theorem proved : Rows.FnEntryDecodesToSelectedValuesSaid :=
  over
#print axioms proved
end Go.Proofs.Qxb6614843a.fnEntryDecodesToSelectedValues
