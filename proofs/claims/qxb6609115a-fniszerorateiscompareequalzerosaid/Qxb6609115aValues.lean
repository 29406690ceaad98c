/-
  Shared by both laws of this seat: a store of a float (the walk's set lacks it), the order of float64 against zero, the contracts of ZZwholeValue and ZZrateValue.
-/
import Derived.Test.Qxb6609115aRows
import Derived.WalkKit
import Derived.ProofKit
import Derived.WalkSpells
import Derived.WalkLawsBesides
import Derived.Laws.Cover2
namespace Go.Proofs.Qxb6609115a
open Go.ChangeShapes Go.WideShapes Go.ChangeAt Go.RowKit

theorem run_store_float (P : Program) (w : World) (a : Addr) (m : Mode) (k : FloatKind) (b : Nat) : (store a (.float k b) m).run P w = stored P w a (.float k b) m := run_store P w a _ m rfl
attribute [local go_sem] run_store_float

/-! ### the plain order of float64 against 0 -/
theorem zero_zero : FloatKind.f64.format.order 0 0 = some .eq := by decide +kernel
/-- A NaN compares with nothing; anything else is equal to itself and compares with 0. -/
theorem self_zero (a : Nat) : (FloatKind.f64.format.order a a = none ∧ FloatKind.f64.format.order a 0 = none) ∨ (FloatKind.f64.format.order a a = some .eq ∧ FloatKind.f64.format.order a 0 ≠ none) := by
  have h0 : ∃ i, FloatKind.f64.format.read 0 = .number false 0 i := ⟨_, rfl⟩
  obtain ⟨i, h0⟩ := h0
  unfold Ieee.Format.order
  rw [h0]
  cases FloatKind.f64.format.read a with
  | nan => left; simp [Ieee.Datum.order]
  | infinity s => right; simp [Ieee.Datum.order]
  | number s m j => right; simp [Ieee.Datum.order]

/-! ### the contracts -/
theorem zz5 (n : Int) (w : World) :
    Calls Try.prog 5 #[.int .i64 n] w fun e w' => e = .returned (.agg #[.bool true, .int .i64 n, .float .f64 0]) ∧ w' = w.alloc (.cells #[.bool true, .int .i64 n, .float .f64 0] 24) := by
  go_enter Try.func5, Try.ntmps5
  go_wp2
  exact bodyPost_ret (v := .agg #[.bool true, .int .i64 n, .float .f64 0]) (by simp [results, Try.results5, go_sem]) rfl ⟨rfl, rfl⟩
theorem zz8 (a : Nat) (w : World) :
    Calls Try.prog 8 #[.float .f64 a] w fun e w' => e = .returned (.agg #[.bool false, .int .i64 0, .float .f64 a]) ∧ w' = w.alloc (.cells #[.bool false, .int .i64 0, .float .f64 a] 24) := by
  go_enter Try.func8, Try.ntmps8
  go_wp2
  exact bodyPost_ret (v := .agg #[.bool false, .int .i64 0, .float .f64 a]) (by simp [results, Try.results8, go_sem]) rfl ⟨rfl, rfl⟩
end Go.Proofs.Qxb6609115a
