/-
  No cell of these rows narrows 'for every input' (looked for: loops, veiled, ifaces, maps, wideKeys, modest, calm, conditions, laid).
  DERIVED. THE GIVEN ROWS OF THIS SEAT. 3 by the template 'for every input the law returns true; each argument reads behind the call as it read before'; 0 by the template 'total and deterministic' (their statements: Qxb6614687aFmtTotals.lean).
  GIVEN WITH THE SEED: the statements are not yours to turn. If you find one false, say at which input.
  Laid BY PROGRAM, IN A SANDBOX (cutbox-rows.mjs): the forced cells as the released guide's own fill.sh prints them over the translation 0f77b21cf17363b9… (all of the seat's roots in one cut). By AI agents, Wed Nov 11 2026. No macro, syntax, notation, axiom, sorry.
-/
import Derived.Test.Qxb6614687aFmtChecked
import GoSem.Claim
import GoSem.ClaimJoined
import GoSem.ClaimMapViews
import Derived.JoinedTies
import Derived.KernelRfl
namespace Go.Proofs.Qxb6614687aFmt
/- THE CELL 'sum', in the pinned program and in every row, IS THE sha256 OF THE DUMP (.gsa) THAT Qxb6614687aFmtProg.lean LOADS. Nothing in Lean hashes anything: it is a label: what it is worth is what the hold of that sum in a sandbox is worth. -/
noncomputable def Tryf.pinned : Pinned := { name := "qxb6614687afmt", sum := "0f77b21cf17363b9edca6ba61af96aa80f1d56d1db2dfdd9e54bcf1337ea0b63", checked := Tryf.checked }
namespace Rows
def none {H : Type} : Left H := { results := [], args := [] }

/-- 'zzlaws_root_b1.FnEscapeMatchesSpecAndReadsNoFurther': WHATEVER THE INPUT: true; the input reads as it did. -/
def fnEscapeMatchesSpecAndReadsNoFurtherSpec : ChangeSpec := { name := "fnEscapeMatchesSpecAndReadsNoFurther", fn := fun _ => fun
  | [d1, d2] => { results := [.lit (.bool true)], args := [d1, d2] }
  | _ => none }
def fnEscapeMatchesSpecAndReadsNoFurtherRow : OpenClaim := { program := "qxb6614687afmt", sum := "0f77b21cf17363b9edca6ba61af96aa80f1d56d1db2dfdd9e54bcf1337ea0b63", func := "example.com/resolvent/resolvent/zzlaws_root_b1.FnEscapeMatchesSpecAndReadsNoFurther", spec := "fnEscapeMatchesSpecAndReadsNoFurther", stops := ["fmt.errorf"], inPlace := ["fmt.errorf"], plainKeys := false, apart := false }
/-- NO THEOREM (fmt's text is open here; it may be false): for the released tool's asking of the row's closed facts alone. THE STATEMENT IS 'FnEscapeMatchesSpecAndReadsNoFurtherToldSaid' (Qxb6614687aFmtCards.lean). -/
def FnEscapeMatchesSpecAndReadsNoFurtherFormAsk : Prop := fnEscapeMatchesSpecAndReadsNoFurtherRow.holds Tryf.pinned (OpenSpec.ofChange fnEscapeMatchesSpecAndReadsNoFurtherSpec)

/-- ITS FALSE NEIGHBOUR: 'it returns false'. Refute it at one input. -/
def fnEscapeMatchesSpecAndReadsNoFurtherWrong : ChangeSpec := { name := "fnEscapeMatchesSpecAndReadsNoFurther", fn := fun _ => fun
  | [d1, d2] => { results := [.lit (.bool false)], args := [d1, d2] }
  | _ => none }
def FnEscapeMatchesSpecAndReadsNoFurtherWrongFormAsk : Prop := fnEscapeMatchesSpecAndReadsNoFurtherRow.holds Tryf.pinned (OpenSpec.ofChange fnEscapeMatchesSpecAndReadsNoFurtherWrong)

/-- 'zzlaws_root_b1.FnEscapeIgnoresWhatPrecedesAndStaysInBounds': WHATEVER THE INPUT: true; the input reads as it did. -/
def fnEscapeIgnoresWhatPrecedesAndStaysInBoundsSpec : ChangeSpec := { name := "fnEscapeIgnoresWhatPrecedesAndStaysInBounds", fn := fun _ => fun
  | [d1, d2, d3] => { results := [.lit (.bool true)], args := [d1, d2, d3] }
  | _ => none }
def fnEscapeIgnoresWhatPrecedesAndStaysInBoundsRow : OpenClaim := { program := "qxb6614687afmt", sum := "0f77b21cf17363b9edca6ba61af96aa80f1d56d1db2dfdd9e54bcf1337ea0b63", func := "example.com/resolvent/resolvent/zzlaws_root_b1.FnEscapeIgnoresWhatPrecedesAndStaysInBounds", spec := "fnEscapeIgnoresWhatPrecedesAndStaysInBounds", stops := ["fmt.errorf"], inPlace := ["fmt.errorf"], plainKeys := false, apart := false }
/-- NO THEOREM (fmt's text is open here; it may be false): for the released tool's asking of the row's closed facts alone. THE STATEMENT IS 'FnEscapeIgnoresWhatPrecedesAndStaysInBoundsToldSaid' (Qxb6614687aFmtCards.lean). -/
def FnEscapeIgnoresWhatPrecedesAndStaysInBoundsFormAsk : Prop := fnEscapeIgnoresWhatPrecedesAndStaysInBoundsRow.holds Tryf.pinned (OpenSpec.ofChange fnEscapeIgnoresWhatPrecedesAndStaysInBoundsSpec)

/-- ITS FALSE NEIGHBOUR: 'it returns false'. Refute it at one input. -/
def fnEscapeIgnoresWhatPrecedesAndStaysInBoundsWrong : ChangeSpec := { name := "fnEscapeIgnoresWhatPrecedesAndStaysInBounds", fn := fun _ => fun
  | [d1, d2, d3] => { results := [.lit (.bool false)], args := [d1, d2, d3] }
  | _ => none }
def FnEscapeIgnoresWhatPrecedesAndStaysInBoundsWrongFormAsk : Prop := fnEscapeIgnoresWhatPrecedesAndStaysInBoundsRow.holds Tryf.pinned (OpenSpec.ofChange fnEscapeIgnoresWhatPrecedesAndStaysInBoundsWrong)

/-- 'zzlaws_root_b1.FnResolveTwiceErrorWrapsIDOrderFailure': WHATEVER THE INPUT: true; the input reads as it did. -/
def fnResolveTwiceErrorWrapsIDOrderFailureSpec : ChangeSpec := { name := "fnResolveTwiceErrorWrapsIDOrderFailure", fn := fun _ => fun
  | [d1, d2, d3, d4, d5] => { results := [.lit (.bool true)], args := [d1, d2, d3, d4, d5] }
  | _ => none }
def fnResolveTwiceErrorWrapsIDOrderFailureRow : OpenClaim := { program := "qxb6614687afmt", sum := "0f77b21cf17363b9edca6ba61af96aa80f1d56d1db2dfdd9e54bcf1337ea0b63", func := "example.com/resolvent/resolvent/zzlaws_root_b1.FnResolveTwiceErrorWrapsIDOrderFailure", spec := "fnResolveTwiceErrorWrapsIDOrderFailure", stops := ["fmt.errorf"], inPlace := ["fmt.errorf", "internal/reflectlite.TypeOf"], unfollowed := true, recurses := true, plainKeys := false, apart := false }
/-- NO THEOREM (fmt's text is open here; it may be false): for the released tool's asking of the row's closed facts alone. THE STATEMENT IS 'FnResolveTwiceErrorWrapsIDOrderFailureToldSaid' (Qxb6614687aFmtCards.lean). -/
def FnResolveTwiceErrorWrapsIDOrderFailureFormAsk : Prop := fnResolveTwiceErrorWrapsIDOrderFailureRow.holds Tryf.pinned (OpenSpec.ofChange fnResolveTwiceErrorWrapsIDOrderFailureSpec)

/-- ITS FALSE NEIGHBOUR: 'it returns false'. Refute it at one input. -/
def fnResolveTwiceErrorWrapsIDOrderFailureWrong : ChangeSpec := { name := "fnResolveTwiceErrorWrapsIDOrderFailure", fn := fun _ => fun
  | [d1, d2, d3, d4, d5] => { results := [.lit (.bool false)], args := [d1, d2, d3, d4, d5] }
  | _ => none }
def FnResolveTwiceErrorWrapsIDOrderFailureWrongFormAsk : Prop := fnResolveTwiceErrorWrapsIDOrderFailureRow.holds Tryf.pinned (OpenSpec.ofChange fnResolveTwiceErrorWrapsIDOrderFailureWrong)

end Rows
end Go.Proofs.Qxb6614687aFmt
