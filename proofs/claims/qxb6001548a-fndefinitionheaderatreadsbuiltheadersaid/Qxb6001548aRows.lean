/-
  No cell of these rows narrows 'for every input' (looked for: loops, veiled, ifaces, maps, wideKeys, modest, calm, conditions, laid).
  DERIVED. THE GIVEN ROWS OF THIS SEAT. 3 by the template 'for every input the law returns true; each argument reads behind the call as it read before'; 0 by the template 'total and deterministic' (their statements: Qxb6001548aTotals.lean).
  GIVEN WITH THE SEED: the statements are not yours to turn. If you find one false, say at which input.
  Laid BY PROGRAM, IN A SANDBOX (cutbox-rows.mjs): the forced cells as the released guide's own fill.sh prints them over the translation 50030b3a0800b306… (all of the seat's roots in one cut). By AI agents, Wed Nov 11 2026. No macro, syntax, notation, axiom, sorry.
-/
import Derived.Test.Qxb6001548aChecked
import GoSem.Claim
import GoSem.ClaimJoined
import GoSem.ClaimMapViews
import Derived.JoinedTies
import Derived.KernelRfl
namespace Go.Proofs.Qxb6001548a
/- THE CELL 'sum', in the pinned program and in every row, IS THE sha256 OF THE DUMP (.gsa) THAT Qxb6001548aProg.lean LOADS. Nothing in Lean hashes anything: it is a label: what it is worth is what the hold of that sum in a sandbox is worth. -/
noncomputable def Try.pinned : Pinned := { name := "qxb6001548a", sum := "50030b3a0800b306ea6414cac0f3adc996efe013c5e782f85611dad6c0c05a20", checked := Try.checked }
namespace Rows
def none {H : Type} : Left H := { results := [], args := [] }

/-- 'zzlaws_root_b1.FnDefinitionHeaderAtReadsBuiltHeader': WHATEVER THE INPUT: true; the input reads as it did. -/
def fnDefinitionHeaderAtReadsBuiltHeaderSpec : ChangeSpec := { name := "fnDefinitionHeaderAtReadsBuiltHeader", fn := fun _ => fun
  | [d1, d2, d3, d4, d5, d6, d7, d8] => { results := [.lit (.bool true)], args := [d1, d2, d3, d4, d5, d6, d7, d8] }
  | _ => none }
def fnDefinitionHeaderAtReadsBuiltHeaderRow : OpenClaim := { program := "qxb6001548a", sum := "50030b3a0800b306ea6414cac0f3adc996efe013c5e782f85611dad6c0c05a20", func := "example.com/procwright/procwright/zzlaws_root_b1.FnDefinitionHeaderAtReadsBuiltHeader", spec := "fnDefinitionHeaderAtReadsBuiltHeader", apart := false }
def FnDefinitionHeaderAtReadsBuiltHeaderSaid : Prop := fnDefinitionHeaderAtReadsBuiltHeaderRow.holds Try.pinned (OpenSpec.ofChange fnDefinitionHeaderAtReadsBuiltHeaderSpec)

/-- ITS FALSE NEIGHBOUR: 'it returns false'. Refute it at one input. -/
def fnDefinitionHeaderAtReadsBuiltHeaderWrong : ChangeSpec := { name := "fnDefinitionHeaderAtReadsBuiltHeader", fn := fun _ => fun
  | [d1, d2, d3, d4, d5, d6, d7, d8] => { results := [.lit (.bool false)], args := [d1, d2, d3, d4, d5, d6, d7, d8] }
  | _ => none }
def FnDefinitionHeaderAtReadsBuiltHeaderWrongFalsely : Prop := fnDefinitionHeaderAtReadsBuiltHeaderRow.holds Try.pinned (OpenSpec.ofChange fnDefinitionHeaderAtReadsBuiltHeaderWrong)

/-- 'zzlaws_root_b1.FnDefinitionHeaderAtRefusesTrailingByte': WHATEVER THE INPUT: true; the input reads as it did. -/
def fnDefinitionHeaderAtRefusesTrailingByteSpec : ChangeSpec := { name := "fnDefinitionHeaderAtRefusesTrailingByte", fn := fun _ => fun
  | [d1, d2, d3, d4, d5, d6, d7, d8, d9] => { results := [.lit (.bool true)], args := [d1, d2, d3, d4, d5, d6, d7, d8, d9] }
  | _ => none }
def fnDefinitionHeaderAtRefusesTrailingByteRow : OpenClaim := { program := "qxb6001548a", sum := "50030b3a0800b306ea6414cac0f3adc996efe013c5e782f85611dad6c0c05a20", func := "example.com/procwright/procwright/zzlaws_root_b1.FnDefinitionHeaderAtRefusesTrailingByte", spec := "fnDefinitionHeaderAtRefusesTrailingByte", apart := false }
def FnDefinitionHeaderAtRefusesTrailingByteSaid : Prop := fnDefinitionHeaderAtRefusesTrailingByteRow.holds Try.pinned (OpenSpec.ofChange fnDefinitionHeaderAtRefusesTrailingByteSpec)

/-- ITS FALSE NEIGHBOUR: 'it returns false'. Refute it at one input. -/
def fnDefinitionHeaderAtRefusesTrailingByteWrong : ChangeSpec := { name := "fnDefinitionHeaderAtRefusesTrailingByte", fn := fun _ => fun
  | [d1, d2, d3, d4, d5, d6, d7, d8, d9] => { results := [.lit (.bool false)], args := [d1, d2, d3, d4, d5, d6, d7, d8, d9] }
  | _ => none }
def FnDefinitionHeaderAtRefusesTrailingByteWrongFalsely : Prop := fnDefinitionHeaderAtRefusesTrailingByteRow.holds Try.pinned (OpenSpec.ofChange fnDefinitionHeaderAtRefusesTrailingByteWrong)

/-- 'zzlaws_root_b1.FnDefinitionHeaderAtWellFormedWhenAccepted': WHATEVER THE INPUT: true; the input reads as it did. -/
def fnDefinitionHeaderAtWellFormedWhenAcceptedSpec : ChangeSpec := { name := "fnDefinitionHeaderAtWellFormedWhenAccepted", fn := fun _ => fun
  | [d1, d2] => { results := [.lit (.bool true)], args := [d1, d2] }
  | _ => none }
def fnDefinitionHeaderAtWellFormedWhenAcceptedRow : OpenClaim := { program := "qxb6001548a", sum := "50030b3a0800b306ea6414cac0f3adc996efe013c5e782f85611dad6c0c05a20", func := "example.com/procwright/procwright/zzlaws_root_b1.FnDefinitionHeaderAtWellFormedWhenAccepted", spec := "fnDefinitionHeaderAtWellFormedWhenAccepted", apart := false }
def FnDefinitionHeaderAtWellFormedWhenAcceptedSaid : Prop := fnDefinitionHeaderAtWellFormedWhenAcceptedRow.holds Try.pinned (OpenSpec.ofChange fnDefinitionHeaderAtWellFormedWhenAcceptedSpec)

/-- ITS FALSE NEIGHBOUR: 'it returns false'. Refute it at one input. -/
def fnDefinitionHeaderAtWellFormedWhenAcceptedWrong : ChangeSpec := { name := "fnDefinitionHeaderAtWellFormedWhenAccepted", fn := fun _ => fun
  | [d1, d2] => { results := [.lit (.bool false)], args := [d1, d2] }
  | _ => none }
def FnDefinitionHeaderAtWellFormedWhenAcceptedWrongFalsely : Prop := fnDefinitionHeaderAtWellFormedWhenAcceptedRow.holds Try.pinned (OpenSpec.ofChange fnDefinitionHeaderAtWellFormedWhenAcceptedWrong)

end Rows
end Go.Proofs.Qxb6001548a
