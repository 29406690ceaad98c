/-
  No cell of these rows narrows 'for every input' (looked for: loops, veiled, ifaces, maps, wideKeys, modest, calm, conditions, laid).
  DERIVED. THE GIVEN ROWS OF THIS SEAT. 5 by the template 'for every input the law returns true; each argument reads behind the call as it read before'; 0 by the template 'total and deterministic' (their statements: Qxb6614843aTotals.lean).
  GIVEN WITH THE SEED: the statements are not yours to turn. If you find one false, say at which input.
  Laid BY PROGRAM, IN A SANDBOX (cutbox-rows.mjs): the forced cells as the released guide's own fill.sh prints them over the translation acf055383e53d181… (all of the seat's roots in one cut). By AI agents, Wed Nov 11 2026. No macro, syntax, notation, axiom, sorry.
-/
import Derived.Test.Qxb6614843aChecked
import GoSem.Claim
import GoSem.ClaimJoined
import GoSem.ClaimMapViews
import Derived.JoinedTies
import Derived.KernelRfl
namespace Go.Proofs.Qxb6614843a
/- THE CELL 'sum', in the pinned program and in every row, IS THE sha256 OF THE DUMP (.gsa) THAT Qxb6614843aProg.lean LOADS. Nothing in Lean hashes anything: it is a label: what it is worth is what the hold of that sum in a sandbox is worth. -/
noncomputable def Try.pinned : Pinned := { name := "qxb6614843a", sum := "acf055383e53d181e5078ef638818e46860773e7f108b9c1f5314befdd101706", checked := Try.checked }
namespace Rows
def none {H : Type} : Left H := { results := [], args := [] }

/-- 'zzlaws_root_b1.FnIndexNameInjective': WHATEVER THE INPUT: true; the input reads as it did. -/
def fnIndexNameInjectiveSpec : ChangeSpec := { name := "fnIndexNameInjective", fn := fun _ => fun
  | [d1, d2, d3, d4] => { results := [.lit (.bool true)], args := [d1, d2, d3, d4] }
  | _ => none }
def fnIndexNameInjectiveRow : OpenClaim := { program := "qxb6614843a", sum := "acf055383e53d181e5078ef638818e46860773e7f108b9c1f5314befdd101706", func := "example.com/leafwise/leafwise/zzlaws_root_b1.FnIndexNameInjective", spec := "fnIndexNameInjective", inPlace := ["internal/abi.NoEscape", "internal/bytealg.MakeNoZero"], apart := false }
def FnIndexNameInjectiveSaid : Prop := fnIndexNameInjectiveRow.holds Try.pinned (OpenSpec.ofChange fnIndexNameInjectiveSpec)

/-- ITS FALSE NEIGHBOUR: 'it returns false'. Refute it at one input. -/
def fnIndexNameInjectiveWrong : ChangeSpec := { name := "fnIndexNameInjective", fn := fun _ => fun
  | [d1, d2, d3, d4] => { results := [.lit (.bool false)], args := [d1, d2, d3, d4] }
  | _ => none }
def FnIndexNameInjectiveWrongFalsely : Prop := fnIndexNameInjectiveRow.holds Try.pinned (OpenSpec.ofChange fnIndexNameInjectiveWrong)

/-- 'zzlaws_root_b1.FnIsReservedAtEveryCutOfIndexName': WHATEVER THE INPUT: true; the input reads as it did. -/
def fnIsReservedAtEveryCutOfIndexNameSpec : ChangeSpec := { name := "fnIsReservedAtEveryCutOfIndexName", fn := fun _ => fun
  | [d1, d2, d3] => { results := [.lit (.bool true)], args := [d1, d2, d3] }
  | _ => none }
def fnIsReservedAtEveryCutOfIndexNameRow : OpenClaim := { program := "qxb6614843a", sum := "acf055383e53d181e5078ef638818e46860773e7f108b9c1f5314befdd101706", func := "example.com/leafwise/leafwise/zzlaws_root_b1.FnIsReservedAtEveryCutOfIndexName", spec := "fnIsReservedAtEveryCutOfIndexName", inPlace := ["internal/abi.NoEscape", "internal/bytealg.MakeNoZero"], apart := false }
def FnIsReservedAtEveryCutOfIndexNameSaid : Prop := fnIsReservedAtEveryCutOfIndexNameRow.holds Try.pinned (OpenSpec.ofChange fnIsReservedAtEveryCutOfIndexNameSpec)

/-- ITS FALSE NEIGHBOUR: 'it returns false'. Refute it at one input. -/
def fnIsReservedAtEveryCutOfIndexNameWrong : ChangeSpec := { name := "fnIsReservedAtEveryCutOfIndexName", fn := fun _ => fun
  | [d1, d2, d3] => { results := [.lit (.bool false)], args := [d1, d2, d3] }
  | _ => none }
def FnIsReservedAtEveryCutOfIndexNameWrongFalsely : Prop := fnIsReservedAtEveryCutOfIndexNameRow.holds Try.pinned (OpenSpec.ofChange fnIsReservedAtEveryCutOfIndexNameWrong)

/-- 'zzlaws_root_b1.FnIndexNameDecodesBack': WHATEVER THE INPUT: true; the input reads as it did. -/
def fnIndexNameDecodesBackSpec : ChangeSpec := { name := "fnIndexNameDecodesBack", fn := fun _ => fun
  | [d1, d2] => { results := [.lit (.bool true)], args := [d1, d2] }
  | _ => none }
def fnIndexNameDecodesBackRow : OpenClaim := { program := "qxb6614843a", sum := "acf055383e53d181e5078ef638818e46860773e7f108b9c1f5314befdd101706", func := "example.com/leafwise/leafwise/zzlaws_root_b1.FnIndexNameDecodesBack", spec := "fnIndexNameDecodesBack", inPlace := ["internal/abi.NoEscape", "internal/bytealg.MakeNoZero"], apart := false }
def FnIndexNameDecodesBackSaid : Prop := fnIndexNameDecodesBackRow.holds Try.pinned (OpenSpec.ofChange fnIndexNameDecodesBackSpec)

/-- ITS FALSE NEIGHBOUR: 'it returns false'. Refute it at one input. -/
def fnIndexNameDecodesBackWrong : ChangeSpec := { name := "fnIndexNameDecodesBack", fn := fun _ => fun
  | [d1, d2] => { results := [.lit (.bool false)], args := [d1, d2] }
  | _ => none }
def FnIndexNameDecodesBackWrongFalsely : Prop := fnIndexNameDecodesBackRow.holds Try.pinned (OpenSpec.ofChange fnIndexNameDecodesBackWrong)

/-- 'zzlaws_root_b1.FnEntryDecodesToSelectedValues': WHATEVER THE INPUT: true; the input reads as it did. -/
def fnEntryDecodesToSelectedValuesSpec : ChangeSpec := { name := "fnEntryDecodesToSelectedValues", fn := fun _ => fun
  | [d1, d2, d3] => { results := [.lit (.bool true)], args := [d1, d2, d3] }
  | _ => none }
def fnEntryDecodesToSelectedValuesRow : OpenClaim := { program := "qxb6614843a", sum := "acf055383e53d181e5078ef638818e46860773e7f108b9c1f5314befdd101706", func := "example.com/leafwise/leafwise/zzlaws_root_b1.FnEntryDecodesToSelectedValues", spec := "fnEntryDecodesToSelectedValues", named := ["encoding/binary.BigEndian"], apart := false }
def FnEntryDecodesToSelectedValuesSaid : Prop := fnEntryDecodesToSelectedValuesRow.holds Try.pinned (OpenSpec.ofChange fnEntryDecodesToSelectedValuesSpec)

/-- ITS FALSE NEIGHBOUR: 'it returns false'. Refute it at one input. -/
def fnEntryDecodesToSelectedValuesWrong : ChangeSpec := { name := "fnEntryDecodesToSelectedValues", fn := fun _ => fun
  | [d1, d2, d3] => { results := [.lit (.bool false)], args := [d1, d2, d3] }
  | _ => none }
def FnEntryDecodesToSelectedValuesWrongFalsely : Prop := fnEntryDecodesToSelectedValuesRow.holds Try.pinned (OpenSpec.ofChange fnEntryDecodesToSelectedValuesWrong)

/-- 'zzlaws_root_b1.FnEntryOrdersAsTuples': WHATEVER THE INPUT: true; the input reads as it did. -/
def fnEntryOrdersAsTuplesSpec : ChangeSpec := { name := "fnEntryOrdersAsTuples", fn := fun _ => fun
  | [d1, d2, d3] => { results := [.lit (.bool true)], args := [d1, d2, d3] }
  | _ => none }
def fnEntryOrdersAsTuplesRow : OpenClaim := { program := "qxb6614843a", sum := "acf055383e53d181e5078ef638818e46860773e7f108b9c1f5314befdd101706", func := "example.com/leafwise/leafwise/zzlaws_root_b1.FnEntryOrdersAsTuples", spec := "fnEntryOrdersAsTuples", named := ["encoding/binary.BigEndian"], apart := false }
def FnEntryOrdersAsTuplesSaid : Prop := fnEntryOrdersAsTuplesRow.holds Try.pinned (OpenSpec.ofChange fnEntryOrdersAsTuplesSpec)

/-- ITS FALSE NEIGHBOUR: 'it returns false'. Refute it at one input. -/
def fnEntryOrdersAsTuplesWrong : ChangeSpec := { name := "fnEntryOrdersAsTuples", fn := fun _ => fun
  | [d1, d2, d3] => { results := [.lit (.bool false)], args := [d1, d2, d3] }
  | _ => none }
def FnEntryOrdersAsTuplesWrongFalsely : Prop := fnEntryOrdersAsTuplesRow.holds Try.pinned (OpenSpec.ofChange fnEntryOrdersAsTuplesWrong)

end Rows
end Go.Proofs.Qxb6614843a
