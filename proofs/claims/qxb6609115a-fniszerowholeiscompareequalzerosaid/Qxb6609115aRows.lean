/-
  No cell of these rows narrows 'for every input' (looked for: loops, veiled, ifaces, maps, wideKeys, modest, calm, conditions, laid).
  DERIVED. THE GIVEN ROWS OF THIS SEAT. 2 by the template 'for every input the law returns true; each argument reads behind the call as it read before'; 0 by the template 'total and deterministic' (their statements: Qxb6609115aTotals.lean).
  GIVEN WITH THE SEED: the statements are not yours to turn. If you find one false, say at which input.
  Laid BY PROGRAM, IN A SANDBOX (cutbox-rows.mjs): the forced cells as the released guide's own fill.sh prints them over the translation 9530f4e310df6bc1… (all of the seat's roots in one cut). By AI agents, Wed Nov 11 2026. No macro, syntax, notation, axiom, sorry.
-/
import Derived.Test.Qxb6609115aChecked
import GoSem.Claim
import GoSem.ClaimJoined
import GoSem.ClaimMapViews
import Derived.JoinedTies
import Derived.KernelRfl
namespace Go.Proofs.Qxb6609115a
/- THE CELL 'sum', in the pinned program and in every row, IS THE sha256 OF THE DUMP (.gsa) THAT Qxb6609115aProg.lean LOADS. Nothing in Lean hashes anything: it is a label: what it is worth is what the hold of that sum in a sandbox is worth. -/
noncomputable def Try.pinned : Pinned := { name := "qxb6609115a", sum := "9530f4e310df6bc1b9a66afe449f496af914b6b65d4ff6b781f8818ec16a0aa6", checked := Try.checked }
namespace Rows
def none {H : Type} : Left H := { results := [], args := [] }

/-- 'zzlaws_limits_b1.FnIsZeroWholeIsCompareEqualZero': WHATEVER THE INPUT: true; the input reads as it did. -/
def fnIsZeroWholeIsCompareEqualZeroSpec : ChangeSpec := { name := "fnIsZeroWholeIsCompareEqualZero", fn := fun _ => fun
  | [d] => { results := [.lit (.bool true)], args := [d] }
  | _ => none }
def fnIsZeroWholeIsCompareEqualZeroRow : OpenClaim := { program := "qxb6609115a", sum := "9530f4e310df6bc1b9a66afe449f496af914b6b65d4ff6b781f8818ec16a0aa6", func := "example.com/cadastre/cadastre/zzlaws_limits_b1.FnIsZeroWholeIsCompareEqualZero", spec := "fnIsZeroWholeIsCompareEqualZero", apart := false }
def FnIsZeroWholeIsCompareEqualZeroSaid : Prop := fnIsZeroWholeIsCompareEqualZeroRow.holds Try.pinned (OpenSpec.ofChange fnIsZeroWholeIsCompareEqualZeroSpec)

/-- ITS FALSE NEIGHBOUR: 'it returns false'. Refute it at one input. -/
def fnIsZeroWholeIsCompareEqualZeroWrong : ChangeSpec := { name := "fnIsZeroWholeIsCompareEqualZero", fn := fun _ => fun
  | [d] => { results := [.lit (.bool false)], args := [d] }
  | _ => none }
def FnIsZeroWholeIsCompareEqualZeroWrongFalsely : Prop := fnIsZeroWholeIsCompareEqualZeroRow.holds Try.pinned (OpenSpec.ofChange fnIsZeroWholeIsCompareEqualZeroWrong)

/-- 'zzlaws_limits_b1.FnIsZeroRateIsCompareEqualZero': WHATEVER THE INPUT: true; the input reads as it did. -/
def fnIsZeroRateIsCompareEqualZeroSpec : ChangeSpec := { name := "fnIsZeroRateIsCompareEqualZero", fn := fun _ => fun
  | [d] => { results := [.lit (.bool true)], args := [d] }
  | _ => none }
def fnIsZeroRateIsCompareEqualZeroRow : OpenClaim := { program := "qxb6609115a", sum := "9530f4e310df6bc1b9a66afe449f496af914b6b65d4ff6b781f8818ec16a0aa6", func := "example.com/cadastre/cadastre/zzlaws_limits_b1.FnIsZeroRateIsCompareEqualZero", spec := "fnIsZeroRateIsCompareEqualZero", apart := false }
def FnIsZeroRateIsCompareEqualZeroSaid : Prop := fnIsZeroRateIsCompareEqualZeroRow.holds Try.pinned (OpenSpec.ofChange fnIsZeroRateIsCompareEqualZeroSpec)

/-- ITS FALSE NEIGHBOUR: 'it returns false'. Refute it at one input. -/
def fnIsZeroRateIsCompareEqualZeroWrong : ChangeSpec := { name := "fnIsZeroRateIsCompareEqualZero", fn := fun _ => fun
  | [d] => { results := [.lit (.bool false)], args := [d] }
  | _ => none }
def FnIsZeroRateIsCompareEqualZeroWrongFalsely : Prop := fnIsZeroRateIsCompareEqualZeroRow.holds Try.pinned (OpenSpec.ofChange fnIsZeroRateIsCompareEqualZeroWrong)

end Rows
end Go.Proofs.Qxb6609115a
