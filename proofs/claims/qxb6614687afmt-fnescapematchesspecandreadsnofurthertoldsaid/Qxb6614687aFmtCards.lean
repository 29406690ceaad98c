/-
  DERIVED. GIVEN WITH THE SEED: THE CARDS: each row of Qxb6614687aFmtRows.lean that lists a variable, with what it lists TIED to the program's text (the seventh form; the later family's looks); each row that meets fmt, with fmt's text TOLD by the authors' own Lean function (tested against real Go, not proved from fmt's source: count such statements apart). THE CARD IS WHAT COUNTS. Prove the row's statement (the work); the ties are given (Qxb6614687aFmtTie.lean); close each card by the builder's one call (the guide's Derived/Test/ToyasCard.lean, 'card_holds'). Laid BY PROGRAM, IN A SANDBOX (cutbox-door.mjs). By AI agents, Wed Nov 11 2026. No macro, syntax, notation, axiom, sorry.
-/
import Derived.Test.Qxb6614687aFmtRows
import GoSem.ClaimSeven
namespace Go.Proofs.Qxb6614687aFmt
namespace Rows

/-- THE TOLD CARD OF 'zzlaws_root_b1.FnEscapeMatchesSpecAndReadsNoFurther'. -/
def fnEscapeMatchesSpecAndReadsNoFurtherCard : Claim7 := { stood := { row := fnEscapeMatchesSpecAndReadsNoFurtherRow, standIns := [], harness := (true, "1e6e0ffae3d6b5fdc012d42a6d7305e4ddf0813d6c0ea9d7a88f99c85ceecbc9"), looks := true }, told := true, goes := false }
def FnEscapeMatchesSpecAndReadsNoFurtherToldSaid : Prop := Claim7.holds Tryf.pinned (.plain (OpenSpec.ofChange fnEscapeMatchesSpecAndReadsNoFurtherSpec)) fnEscapeMatchesSpecAndReadsNoFurtherCard
/-- ITS FALSE NEIGHBOUR. Refute it at one input. -/
def FnEscapeMatchesSpecAndReadsNoFurtherToldWrongFalsely : Prop := Claim7.holds Tryf.pinned (.plain (OpenSpec.ofChange fnEscapeMatchesSpecAndReadsNoFurtherWrong)) fnEscapeMatchesSpecAndReadsNoFurtherCard

/-- THE TOLD CARD OF 'zzlaws_root_b1.FnEscapeIgnoresWhatPrecedesAndStaysInBounds'. -/
def fnEscapeIgnoresWhatPrecedesAndStaysInBoundsCard : Claim7 := { stood := { row := fnEscapeIgnoresWhatPrecedesAndStaysInBoundsRow, standIns := [], harness := (true, "1e6e0ffae3d6b5fdc012d42a6d7305e4ddf0813d6c0ea9d7a88f99c85ceecbc9"), looks := true }, told := true, goes := false }
def FnEscapeIgnoresWhatPrecedesAndStaysInBoundsToldSaid : Prop := Claim7.holds Tryf.pinned (.plain (OpenSpec.ofChange fnEscapeIgnoresWhatPrecedesAndStaysInBoundsSpec)) fnEscapeIgnoresWhatPrecedesAndStaysInBoundsCard
/-- ITS FALSE NEIGHBOUR. Refute it at one input. -/
def FnEscapeIgnoresWhatPrecedesAndStaysInBoundsToldWrongFalsely : Prop := Claim7.holds Tryf.pinned (.plain (OpenSpec.ofChange fnEscapeIgnoresWhatPrecedesAndStaysInBoundsWrong)) fnEscapeIgnoresWhatPrecedesAndStaysInBoundsCard

/-- THE TOLD CARD OF 'zzlaws_root_b1.FnResolveTwiceErrorWrapsIDOrderFailure'. -/
def fnResolveTwiceErrorWrapsIDOrderFailureCard : Claim7 := { stood := { row := fnResolveTwiceErrorWrapsIDOrderFailureRow, standIns := [], harness := (true, "1e6e0ffae3d6b5fdc012d42a6d7305e4ddf0813d6c0ea9d7a88f99c85ceecbc9"), looks := true }, told := true, goes := false }
def FnResolveTwiceErrorWrapsIDOrderFailureToldSaid : Prop := Claim7.holds Tryf.pinned (.plain (OpenSpec.ofChange fnResolveTwiceErrorWrapsIDOrderFailureSpec)) fnResolveTwiceErrorWrapsIDOrderFailureCard
/-- ITS FALSE NEIGHBOUR. Refute it at one input. -/
def FnResolveTwiceErrorWrapsIDOrderFailureToldWrongFalsely : Prop := Claim7.holds Tryf.pinned (.plain (OpenSpec.ofChange fnResolveTwiceErrorWrapsIDOrderFailureWrong)) fnResolveTwiceErrorWrapsIDOrderFailureCard
end Rows
end Go.Proofs.Qxb6614687aFmt
