/-
  No cell of these rows narrows 'for every input' (looked for: loops, veiled, ifaces, maps, wideKeys, modest, calm, conditions, laid).
  DERIVED. THE GIVEN ROWS OF THIS SEAT. 7 by the template 'for every input the law returns true; each argument reads behind the call as it read before'; 0 by the template 'total and deterministic' (their statements: Qxb6601322aTotals.lean).
  GIVEN WITH THE SEED: the statements are not yours to turn. If you find one false, say at which input.
  Laid BY PROGRAM, IN A SANDBOX (cutbox-rows.mjs): the forced cells as the released guide's own fill.sh prints them over the translation 769893210caf663f… (all of the seat's roots in one cut). By AI agents, Wed Nov 11 2026. No macro, syntax, notation, axiom, sorry.
-/
import Derived.Test.Qxb6601322aChecked
import GoSem.Claim
import GoSem.ClaimJoined
import GoSem.ClaimMapViews
import Derived.JoinedTies
import Derived.KernelRfl
namespace Go.Proofs.Qxb6601322a
/- THE CELL 'sum', in the pinned program and in every row, IS THE sha256 OF THE DUMP (.gsa) THAT Qxb6601322aProg.lean LOADS. Nothing in Lean hashes anything: it is a label: what it is worth is what the hold of that sum in a sandbox is worth. -/
noncomputable def Try.pinned : Pinned := { name := "qxb6601322a", sum := "769893210caf663fd034ebc3640aa04e402a4db4b90a533ae5de86f45ebbbfda", checked := Try.checked }
namespace Rows
def none {H : Type} : Left H := { results := [], args := [] }

/-- 'zzlaws_root_b1.FnPlainIntegerIsLongestIntegerAt': WHATEVER THE INPUT: true; the input reads as it did. -/
def fnPlainIntegerIsLongestIntegerAtSpec : ChangeSpec := { name := "fnPlainIntegerIsLongestIntegerAt", fn := fun _ => fun
  | [d1, d2] => { results := [.lit (.bool true)], args := [d1, d2] }
  | _ => none }
def fnPlainIntegerIsLongestIntegerAtRow : OpenClaim := { program := "qxb6601322a", sum := "769893210caf663fd034ebc3640aa04e402a4db4b90a533ae5de86f45ebbbfda", func := "example.com/tenure/tenure/zzlaws_root_b1.FnPlainIntegerIsLongestIntegerAt", spec := "fnPlainIntegerIsLongestIntegerAt", apart := false }
def FnPlainIntegerIsLongestIntegerAtSaid : Prop := fnPlainIntegerIsLongestIntegerAtRow.holds Try.pinned (OpenSpec.ofChange fnPlainIntegerIsLongestIntegerAtSpec)

/-- ITS FALSE NEIGHBOUR: 'it returns false'. Refute it at one input. -/
def fnPlainIntegerIsLongestIntegerAtWrong : ChangeSpec := { name := "fnPlainIntegerIsLongestIntegerAt", fn := fun _ => fun
  | [d1, d2] => { results := [.lit (.bool false)], args := [d1, d2] }
  | _ => none }
def FnPlainIntegerIsLongestIntegerAtWrongFalsely : Prop := fnPlainIntegerIsLongestIntegerAtRow.holds Try.pinned (OpenSpec.ofChange fnPlainIntegerIsLongestIntegerAtWrong)

/-- 'zzlaws_root_b1.FnPlainIntegerShiftsWithPrefix': WHATEVER THE INPUT: true; the input reads as it did. -/
def fnPlainIntegerShiftsWithPrefixSpec : ChangeSpec := { name := "fnPlainIntegerShiftsWithPrefix", fn := fun _ => fun
  | [d1, d2, d3] => { results := [.lit (.bool true)], args := [d1, d2, d3] }
  | _ => none }
def fnPlainIntegerShiftsWithPrefixRow : OpenClaim := { program := "qxb6601322a", sum := "769893210caf663fd034ebc3640aa04e402a4db4b90a533ae5de86f45ebbbfda", func := "example.com/tenure/tenure/zzlaws_root_b1.FnPlainIntegerShiftsWithPrefix", spec := "fnPlainIntegerShiftsWithPrefix", apart := false }
def FnPlainIntegerShiftsWithPrefixSaid : Prop := fnPlainIntegerShiftsWithPrefixRow.holds Try.pinned (OpenSpec.ofChange fnPlainIntegerShiftsWithPrefixSpec)

/-- ITS FALSE NEIGHBOUR: 'it returns false'. Refute it at one input. -/
def fnPlainIntegerShiftsWithPrefixWrong : ChangeSpec := { name := "fnPlainIntegerShiftsWithPrefix", fn := fun _ => fun
  | [d1, d2, d3] => { results := [.lit (.bool false)], args := [d1, d2, d3] }
  | _ => none }
def FnPlainIntegerShiftsWithPrefixWrongFalsely : Prop := fnPlainIntegerShiftsWithPrefixRow.holds Try.pinned (OpenSpec.ofChange fnPlainIntegerShiftsWithPrefixWrong)

/-- 'zzlaws_root_b1.FnPlainIntegerReadsNothingPastItsEnd': WHATEVER THE INPUT: true; the input reads as it did. -/
def fnPlainIntegerReadsNothingPastItsEndSpec : ChangeSpec := { name := "fnPlainIntegerReadsNothingPastItsEnd", fn := fun _ => fun
  | [d1, d2, d3, d4] => { results := [.lit (.bool true)], args := [d1, d2, d3, d4] }
  | _ => none }
def fnPlainIntegerReadsNothingPastItsEndRow : OpenClaim := { program := "qxb6601322a", sum := "769893210caf663fd034ebc3640aa04e402a4db4b90a533ae5de86f45ebbbfda", func := "example.com/tenure/tenure/zzlaws_root_b1.FnPlainIntegerReadsNothingPastItsEnd", spec := "fnPlainIntegerReadsNothingPastItsEnd", apart := false }
def FnPlainIntegerReadsNothingPastItsEndSaid : Prop := fnPlainIntegerReadsNothingPastItsEndRow.holds Try.pinned (OpenSpec.ofChange fnPlainIntegerReadsNothingPastItsEndSpec)

/-- ITS FALSE NEIGHBOUR: 'it returns false'. Refute it at one input. -/
def fnPlainIntegerReadsNothingPastItsEndWrong : ChangeSpec := { name := "fnPlainIntegerReadsNothingPastItsEnd", fn := fun _ => fun
  | [d1, d2, d3, d4] => { results := [.lit (.bool false)], args := [d1, d2, d3, d4] }
  | _ => none }
def FnPlainIntegerReadsNothingPastItsEndWrongFalsely : Prop := fnPlainIntegerReadsNothingPastItsEndRow.holds Try.pinned (OpenSpec.ofChange fnPlainIntegerReadsNothingPastItsEndWrong)

/-- 'zzlaws_root_b1.FnValueKindNumberExactlyWhereIntegerStarts': WHATEVER THE INPUT: true; the input reads as it did. -/
def fnValueKindNumberExactlyWhereIntegerStartsSpec : ChangeSpec := { name := "fnValueKindNumberExactlyWhereIntegerStarts", fn := fun _ => fun
  | [d] => { results := [.lit (.bool true)], args := [d] }
  | _ => none }
def fnValueKindNumberExactlyWhereIntegerStartsRow : OpenClaim := { program := "qxb6601322a", sum := "769893210caf663fd034ebc3640aa04e402a4db4b90a533ae5de86f45ebbbfda", func := "example.com/tenure/tenure/zzlaws_root_b1.FnValueKindNumberExactlyWhereIntegerStarts", spec := "fnValueKindNumberExactlyWhereIntegerStarts", apart := false }
def FnValueKindNumberExactlyWhereIntegerStartsSaid : Prop := fnValueKindNumberExactlyWhereIntegerStartsRow.holds Try.pinned (OpenSpec.ofChange fnValueKindNumberExactlyWhereIntegerStartsSpec)

/-- ITS FALSE NEIGHBOUR: 'it returns false'. Refute it at one input. -/
def fnValueKindNumberExactlyWhereIntegerStartsWrong : ChangeSpec := { name := "fnValueKindNumberExactlyWhereIntegerStarts", fn := fun _ => fun
  | [d] => { results := [.lit (.bool false)], args := [d] }
  | _ => none }
def FnValueKindNumberExactlyWhereIntegerStartsWrongFalsely : Prop := fnValueKindNumberExactlyWhereIntegerStartsRow.holds Try.pinned (OpenSpec.ofChange fnValueKindNumberExactlyWhereIntegerStartsWrong)

/-- 'zzlaws_root_b1.FnAppendDigitsOf32IsFixedWidthDecimal': WHATEVER THE INPUT: true; the input reads as it did. -/
def fnAppendDigitsOf32IsFixedWidthDecimalSpec : ChangeSpec := { name := "fnAppendDigitsOf32IsFixedWidthDecimal", fn := fun _ => fun
  | [d1, d2, d3] => { results := [.lit (.bool true)], args := [d1, d2, d3] }
  | _ => none }
def fnAppendDigitsOf32IsFixedWidthDecimalRow : OpenClaim := { program := "qxb6601322a", sum := "769893210caf663fd034ebc3640aa04e402a4db4b90a533ae5de86f45ebbbfda", func := "example.com/tenure/tenure/zzlaws_root_b1.FnAppendDigitsOf32IsFixedWidthDecimal", spec := "fnAppendDigitsOf32IsFixedWidthDecimal", apart := false }
def FnAppendDigitsOf32IsFixedWidthDecimalSaid : Prop := fnAppendDigitsOf32IsFixedWidthDecimalRow.holds Try.pinned (OpenSpec.ofChange fnAppendDigitsOf32IsFixedWidthDecimalSpec)

/-- ITS FALSE NEIGHBOUR: 'it returns false'. Refute it at one input. -/
def fnAppendDigitsOf32IsFixedWidthDecimalWrong : ChangeSpec := { name := "fnAppendDigitsOf32IsFixedWidthDecimal", fn := fun _ => fun
  | [d1, d2, d3] => { results := [.lit (.bool false)], args := [d1, d2, d3] }
  | _ => none }
def FnAppendDigitsOf32IsFixedWidthDecimalWrongFalsely : Prop := fnAppendDigitsOf32IsFixedWidthDecimalRow.holds Try.pinned (OpenSpec.ofChange fnAppendDigitsOf32IsFixedWidthDecimalWrong)

/-- 'zzlaws_root_b1.FnAppendDigitsOf32ReadsBack': WHATEVER THE INPUT: true; the input reads as it did. -/
def fnAppendDigitsOf32ReadsBackSpec : ChangeSpec := { name := "fnAppendDigitsOf32ReadsBack", fn := fun _ => fun
  | [d1, d2, d3] => { results := [.lit (.bool true)], args := [d1, d2, d3] }
  | _ => none }
def fnAppendDigitsOf32ReadsBackRow : OpenClaim := { program := "qxb6601322a", sum := "769893210caf663fd034ebc3640aa04e402a4db4b90a533ae5de86f45ebbbfda", func := "example.com/tenure/tenure/zzlaws_root_b1.FnAppendDigitsOf32ReadsBack", spec := "fnAppendDigitsOf32ReadsBack", apart := false }
def FnAppendDigitsOf32ReadsBackSaid : Prop := fnAppendDigitsOf32ReadsBackRow.holds Try.pinned (OpenSpec.ofChange fnAppendDigitsOf32ReadsBackSpec)

/-- ITS FALSE NEIGHBOUR: 'it returns false'. Refute it at one input. -/
def fnAppendDigitsOf32ReadsBackWrong : ChangeSpec := { name := "fnAppendDigitsOf32ReadsBack", fn := fun _ => fun
  | [d1, d2, d3] => { results := [.lit (.bool false)], args := [d1, d2, d3] }
  | _ => none }
def FnAppendDigitsOf32ReadsBackWrongFalsely : Prop := fnAppendDigitsOf32ReadsBackRow.holds Try.pinned (OpenSpec.ofChange fnAppendDigitsOf32ReadsBackWrong)

/-- 'zzlaws_root_b1.FnAppendDigitsOf32KeepsOrder': WHATEVER THE INPUT: true; the input reads as it did. -/
def fnAppendDigitsOf32KeepsOrderSpec : ChangeSpec := { name := "fnAppendDigitsOf32KeepsOrder", fn := fun _ => fun
  | [d1, d2, d3] => { results := [.lit (.bool true)], args := [d1, d2, d3] }
  | _ => none }
def fnAppendDigitsOf32KeepsOrderRow : OpenClaim := { program := "qxb6601322a", sum := "769893210caf663fd034ebc3640aa04e402a4db4b90a533ae5de86f45ebbbfda", func := "example.com/tenure/tenure/zzlaws_root_b1.FnAppendDigitsOf32KeepsOrder", spec := "fnAppendDigitsOf32KeepsOrder", apart := false }
def FnAppendDigitsOf32KeepsOrderSaid : Prop := fnAppendDigitsOf32KeepsOrderRow.holds Try.pinned (OpenSpec.ofChange fnAppendDigitsOf32KeepsOrderSpec)

/-- ITS FALSE NEIGHBOUR: 'it returns false'. Refute it at one input. -/
def fnAppendDigitsOf32KeepsOrderWrong : ChangeSpec := { name := "fnAppendDigitsOf32KeepsOrder", fn := fun _ => fun
  | [d1, d2, d3] => { results := [.lit (.bool false)], args := [d1, d2, d3] }
  | _ => none }
def FnAppendDigitsOf32KeepsOrderWrongFalsely : Prop := fnAppendDigitsOf32KeepsOrderRow.holds Try.pinned (OpenSpec.ofChange fnAppendDigitsOf32KeepsOrderWrong)

end Rows
end Go.Proofs.Qxb6601322a
