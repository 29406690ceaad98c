/-
  The arguments of the two laws, opened: keys, columns, flags.
-/
import Derived.Test.Qxb6614843aDec
import Derived.ProofKit
import Derived.OpenShut
import Derived.Deep.Matrix
import Derived.Deep.Grids
namespace Go.Proofs.Qxb6614843a
open Go.ChangeShapes Go.WideShapes Go.ChangeAt Go.RowKit
set_option linter.unusedVariables false
theorem cells3 : Try.prog.cellsOf 3 = 1 := by kernel_rfl
theorem cells4 : Try.prog.cellsOf 4 = 1 := by kernel_rfl
theorem cells5 : Try.prog.cellsOf 5 = 1 := by kernel_rfl
theorem cells27 : Try.prog.cellsOf 27 = 1 := by kernel_rfl
theorem own : ownKnob Try.prog.godebug = none := by kernel_rfl
theorem laidOut : laidOutB Try.prog = true := by kernel_rfl
variable {H : Type} {enc : TypeId × Value → H}
/-- a row of cells at an address that may bear a spot only where the row is empty -/
theorem plain_row {w : World} {a : Addr} {n : Nat} {f : Nat → Value} (h : ∀ i, i < n → w.cell? (a.add i) = some (f i)) (h0 : 0 < n) : ∃ b o, some a = some (⟨b, o, none⟩ : Addr) ∧ b < w.heap.size ∧ ∀ i, i < n → w.cell? ⟨b, o + i, none⟩ = some (f i) := by
  obtain ⟨b, off, spot⟩ := a
  have hspot : spot = none := by simpa [Addr.add] using World.cell?_spot (h 0 h0)
  subst hspot
  refine ⟨b, off, rfl, ?_, fun i hi => by rw [← addr_add]; exact h i hi⟩
  have := cell_lt (h 0 h0)
  rwa [addr_block] at this
theorem open_keys {W : World} {v : Value} {d : DataW H} {ps : List MemPlace} (hv : ∃ a l c, v = .slice a l c) (h : DataW.Trod enc Try.prog W 0 (fun _ => true) true 37 v d ps) : ∃ A K cap ks, v = .slice A K cap ∧ K ≤ 9223372036854775807 ∧ Keys W A K ks := by
  obtain ⟨a0, l0, c0, rfl⟩ := hv
  obtain ⟨fuel, hf⟩ := h
  rcases open_ints Try.underlying37 Try.underlying3 cells3 hf with ⟨hcs, _⟩ | ⟨a, len, cap, zs, hcs, _, hl, hm, hz, _, hcell, _⟩
  · simp [Value.cells] at hcs
    obtain ⟨rfl, rfl, rfl⟩ := hcs
    exact ⟨_, _, _, fun _ => 0, rfl, by omega, fun h => by omega⟩
  · simp [Value.cells] at hcs
    obtain ⟨rfl, rfl, rfl⟩ := hcs
    simp only [if_true] at hz
    unfold maxLen at hm
    refine ⟨_, _, _, fun j => zs.getD j 0, rfl, by omega, fun h0 => ?_⟩
    exact plain_row (f := fun j => .int .i64 (zs.getD j 0)) (fun i hi => hcell i (by omega)) h0
theorem open_flags {W : World} {v : Value} {d : DataW H} {ps : List MemPlace} (hv : ∃ a l c, v = .slice a l c) (h : DataW.Trod enc Try.prog W 0 (fun _ => true) true 39 v d ps) : ∃ A M cap fs, v = .slice A M cap ∧ M ≤ 9223372036854775807 ∧ Flags W A M fs := by
  obtain ⟨a0, l0, c0, rfl⟩ := hv
  obtain ⟨fuel, hf⟩ := h
  rcases Go.Deep.open_bools Try.underlying39 Try.underlying4 cells4 hf with ⟨hcs, _⟩ | ⟨a, len, cap, B, hcs, _, hl, hm, _, hcell⟩
  · simp [Value.cells] at hcs
    obtain ⟨rfl, rfl, rfl⟩ := hcs
    exact ⟨_, _, _, fun _ => false, rfl, by omega, fun h => by omega⟩
  · simp [Value.cells] at hcs
    obtain ⟨rfl, rfl, rfl⟩ := hcs
    unfold maxLen at hm
    refine ⟨_, _, _, B, rfl, by omega, fun h0 => ?_⟩
    exact plain_row (f := fun j => .bool (B j)) (fun i hi => hcell i (by omega)) h0
theorem open_cols {W : World} {v : Value} {d : DataW H} {ps : List MemPlace} (hv : ∃ a l c, v = .slice a l c) (h : DataW.Trod enc Try.prog W 0 (fun _ => true) true 38 v d ps) : ∃ A N cap S L C B, v = .slice A N cap ∧ N ≤ 9223372036854775807 ∧ Cols W A N S L C B := by
  obtain ⟨a0, l0, c0, rfl⟩ := hv
  obtain ⟨fuel, hf⟩ := h
  rcases Go.Deep.open_int_rows Try.underlying38 Try.underlying27 Try.underlying5 cells27 cells5 hf with ⟨hcs, _⟩ | ⟨a, len, cap, A, L, C, Z, hcs, _, hl, hm, _, hcell⟩
  · simp [Value.cells] at hcs
    obtain ⟨rfl, rfl, rfl⟩ := hcs
    exact ⟨_, _, _, fun _ => none, fun _ => 0, fun _ => 0, fun _ => [], rfl, by omega, ⟨fun h => by omega, fun j h => by omega, fun j h => by omega, fun j h => by omega⟩⟩
  · simp [Value.cells] at hcs
    obtain ⟨rfl, rfl, rfl⟩ := hcs
    unfold maxLen at hm
    refine ⟨_, _, _, A, L, C, fun j => (Z j).take (L j), rfl, by omega, ⟨fun h0 => ?_, fun j hj => ?_, fun j hj => ?_, fun j hj z hz => ?_⟩⟩
    · exact plain_row (f := fun j => .slice (A j) (L j) (C j)) (fun i hi => (hcell i (by omega)).1) h0
    · obtain ⟨_, h1, h2, h3, h4, h5, h6⟩ := hcell j (by omega)
      refine ⟨by simp; omega, fun h0 => ?_⟩
      cases hA : A j with
      | none => have := h5 hA; omega
      | some a' =>
        obtain ⟨_, h7⟩ := h6 a' hA
        exact plain_row (f := fun i => .int .u8 (((Z j).take (L j)).getD i 0)) (fun i hi => by
          rw [h7 i (by omega)]
          simp [List.getD_eq_getElem?_getD, hi]) h0
    · obtain ⟨_, h1, h2, h3, h4, h5, h6⟩ := hcell j (by omega)
      unfold maxLen at h2; omega
    · obtain ⟨_, h1, h2, h3, h4, h5, h6⟩ := hcell j (by omega)
      have h8 := h4 z (List.mem_of_mem_take hz)
      have e1 : IntKind.u8.min = 0 := rfl
      have e2 : IntKind.u8.max = 255 := rfl
      simpa [Lit.wf, e1, e2] using h8
end Go.Proofs.Qxb6614843a
