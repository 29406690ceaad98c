/-
  No cell of these rows narrows 'for every input' (looked for: loops, veiled, ifaces, maps, wideKeys, modest, calm, conditions, laid).
  DERIVED. THE GIVEN ROWS OF THIS SEAT. 2 by the template 'for every input the law returns true; each argument reads behind the call as it read before'; 0 by the template 'total and deterministic' (their statements: Qxb6608759aTotals.lean).
  GIVEN WITH THE SEED: the statements are not yours to turn. If you find one false, say at which input.
  Laid BY PROGRAM, IN A SANDBOX (cutbox-rows.mjs): the forced cells as the released guide's own fill.sh prints them over the translation be6012d02a7f0db5… (all of the seat's roots in one cut). By AI agents, Wed Nov 11 2026. No macro, syntax, notation, axiom, sorry.
-/
import Derived.Test.Qxb6608759aChecked
import GoSem.Claim
import GoSem.ClaimJoined
import GoSem.ClaimMapViews
import Derived.JoinedTies
import Derived.KernelRfl
namespace Go.Proofs.Qxb6608759a
/- THE CELL 'sum', in the pinned program and in every row, IS THE sha256 OF THE DUMP (.gsa) THAT Qxb6608759aProg.lean LOADS. Nothing in Lean hashes anything: it is a label: what it is worth is what the hold of that sum in a sandbox is worth. -/
noncomputable def Try.pinned : Pinned := { name := "qxb6608759a", sum := "be6012d02a7f0db5091585a938a87e74694de886f063b54e7c00ac711cd0eeba", checked := Try.checked }
namespace Rows
def none {H : Type} : Left H := { results := [], args := [] }

/-- 'zzlaws_internal_csvtable_b1.FnWord32IsFirstFourBytesAndAgreesWithWord64': WHATEVER THE INPUT: true; the input reads as it did. -/
def fnWord32IsFirstFourBytesAndAgreesWithWord64Spec : ChangeSpec := { name := "fnWord32IsFirstFourBytesAndAgreesWithWord64", fn := fun _ => fun
  | [d] => { results := [.lit (.bool true)], args := [d] }
  | _ => none }
def fnWord32IsFirstFourBytesAndAgreesWithWord64Row : OpenClaim := { program := "qxb6608759a", sum := "be6012d02a7f0db5091585a938a87e74694de886f063b54e7c00ac711cd0eeba", func := "example.com/tasnif/tasnif/zzlaws_internal_csvtable_b1.FnWord32IsFirstFourBytesAndAgreesWithWord64", spec := "fnWord32IsFirstFourBytesAndAgreesWithWord64", apart := false }
def FnWord32IsFirstFourBytesAndAgreesWithWord64Said : Prop := fnWord32IsFirstFourBytesAndAgreesWithWord64Row.holds Try.pinned (OpenSpec.ofChange fnWord32IsFirstFourBytesAndAgreesWithWord64Spec)

/-- ITS FALSE NEIGHBOUR: 'it returns false'. Refute it at one input. -/
def fnWord32IsFirstFourBytesAndAgreesWithWord64Wrong : ChangeSpec := { name := "fnWord32IsFirstFourBytesAndAgreesWithWord64", fn := fun _ => fun
  | [d] => { results := [.lit (.bool false)], args := [d] }
  | _ => none }
def FnWord32IsFirstFourBytesAndAgreesWithWord64WrongFalsely : Prop := fnWord32IsFirstFourBytesAndAgreesWithWord64Row.holds Try.pinned (OpenSpec.ofChange fnWord32IsFirstFourBytesAndAgreesWithWord64Wrong)

/-- 'zzlaws_internal_csvtable_b1.FnWord32SlidesByOneByte': WHATEVER THE INPUT: true; the input reads as it did. -/
def fnWord32SlidesByOneByteSpec : ChangeSpec := { name := "fnWord32SlidesByOneByte", fn := fun _ => fun
  | [d] => { results := [.lit (.bool true)], args := [d] }
  | _ => none }
def fnWord32SlidesByOneByteRow : OpenClaim := { program := "qxb6608759a", sum := "be6012d02a7f0db5091585a938a87e74694de886f063b54e7c00ac711cd0eeba", func := "example.com/tasnif/tasnif/zzlaws_internal_csvtable_b1.FnWord32SlidesByOneByte", spec := "fnWord32SlidesByOneByte", apart := false }
def FnWord32SlidesByOneByteSaid : Prop := fnWord32SlidesByOneByteRow.holds Try.pinned (OpenSpec.ofChange fnWord32SlidesByOneByteSpec)

/-- ITS FALSE NEIGHBOUR: 'it returns false'. Refute it at one input. -/
def fnWord32SlidesByOneByteWrong : ChangeSpec := { name := "fnWord32SlidesByOneByte", fn := fun _ => fun
  | [d] => { results := [.lit (.bool false)], args := [d] }
  | _ => none }
def FnWord32SlidesByOneByteWrongFalsely : Prop := fnWord32SlidesByOneByteRow.holds Try.pinned (OpenSpec.ofChange fnWord32SlidesByOneByteWrong)

end Rows
end Go.Proofs.Qxb6608759a
