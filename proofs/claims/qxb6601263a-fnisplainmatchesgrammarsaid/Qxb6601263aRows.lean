/-
  No cell of these rows narrows 'for every input' (looked for: loops, veiled, ifaces, maps, wideKeys, modest, calm, conditions, laid).
  DERIVED. THE GIVEN ROWS OF THIS SEAT. 3 by the template 'for every input the law returns true; each argument reads behind the call as it read before'; 0 by the template 'total and deterministic' (their statements: Qxb6601263aTotals.lean).
  GIVEN WITH THE SEED: the statements are not yours to turn. If you find one false, say at which input.
  Laid BY PROGRAM, IN A SANDBOX (cutbox-rows.mjs): the forced cells as the released guide's own fill.sh prints them over the translation a5a880c574426edc… (all of the seat's roots in one cut). By AI agents, Wed Nov 11 2026. No macro, syntax, notation, axiom, sorry.
-/
import Derived.Test.Qxb6601263aChecked
import GoSem.Claim
import GoSem.ClaimJoined
import GoSem.ClaimMapViews
import Derived.JoinedTies
import Derived.KernelRfl
namespace Go.Proofs.Qxb6601263a
/- THE CELL 'sum', in the pinned program and in every row, IS THE sha256 OF THE DUMP (.gsa) THAT Qxb6601263aProg.lean LOADS. Nothing in Lean hashes anything: it is a label: what it is worth is what the hold of that sum in a sandbox is worth. -/
noncomputable def Try.pinned : Pinned := { name := "qxb6601263a", sum := "a5a880c574426edc97a8f6a50eaae04e9e44b89907ab37aa8d1a266fbd0971f5", checked := Try.checked }
namespace Rows
def none {H : Type} : Left H := { results := [], args := [] }

/-- 'zzlaws_decimal_b1.FnIsPlainMatchesGrammar': WHATEVER THE INPUT: true; the input reads as it did. -/
def fnIsPlainMatchesGrammarSpec : ChangeSpec := { name := "fnIsPlainMatchesGrammar", fn := fun _ => fun
  | [d] => { results := [.lit (.bool true)], args := [d] }
  | _ => none }
def fnIsPlainMatchesGrammarRow : OpenClaim := { program := "qxb6601263a", sum := "a5a880c574426edc97a8f6a50eaae04e9e44b89907ab37aa8d1a266fbd0971f5", func := "example.com/ballast/ballast/zzlaws_decimal_b1.FnIsPlainMatchesGrammar", spec := "fnIsPlainMatchesGrammar", apart := false }
def FnIsPlainMatchesGrammarSaid : Prop := fnIsPlainMatchesGrammarRow.holds Try.pinned (OpenSpec.ofChange fnIsPlainMatchesGrammarSpec)

/-- ITS FALSE NEIGHBOUR: 'it returns false'. Refute it at one input. -/
def fnIsPlainMatchesGrammarWrong : ChangeSpec := { name := "fnIsPlainMatchesGrammar", fn := fun _ => fun
  | [d] => { results := [.lit (.bool false)], args := [d] }
  | _ => none }
def FnIsPlainMatchesGrammarWrongFalsely : Prop := fnIsPlainMatchesGrammarRow.holds Try.pinned (OpenSpec.ofChange fnIsPlainMatchesGrammarWrong)

/-- 'zzlaws_decimal_b1.FnIsPlainSignPrefix': WHATEVER THE INPUT: true; the input reads as it did. -/
def fnIsPlainSignPrefixSpec : ChangeSpec := { name := "fnIsPlainSignPrefix", fn := fun _ => fun
  | [d] => { results := [.lit (.bool true)], args := [d] }
  | _ => none }
def fnIsPlainSignPrefixRow : OpenClaim := { program := "qxb6601263a", sum := "a5a880c574426edc97a8f6a50eaae04e9e44b89907ab37aa8d1a266fbd0971f5", func := "example.com/ballast/ballast/zzlaws_decimal_b1.FnIsPlainSignPrefix", spec := "fnIsPlainSignPrefix", apart := false }
def FnIsPlainSignPrefixSaid : Prop := fnIsPlainSignPrefixRow.holds Try.pinned (OpenSpec.ofChange fnIsPlainSignPrefixSpec)

/-- ITS FALSE NEIGHBOUR: 'it returns false'. Refute it at one input. -/
def fnIsPlainSignPrefixWrong : ChangeSpec := { name := "fnIsPlainSignPrefix", fn := fun _ => fun
  | [d] => { results := [.lit (.bool false)], args := [d] }
  | _ => none }
def FnIsPlainSignPrefixWrongFalsely : Prop := fnIsPlainSignPrefixRow.holds Try.pinned (OpenSpec.ofChange fnIsPlainSignPrefixWrong)

/-- 'zzlaws_decimal_b1.FnAbs64Triangle': WHATEVER THE INPUT: true; the input reads as it did. -/
def fnAbs64TriangleSpec : ChangeSpec := { name := "fnAbs64Triangle", fn := fun _ => fun
  | [d1, d2] => { results := [.lit (.bool true)], args := [d1, d2] }
  | _ => none }
def fnAbs64TriangleRow : OpenClaim := { program := "qxb6601263a", sum := "a5a880c574426edc97a8f6a50eaae04e9e44b89907ab37aa8d1a266fbd0971f5", func := "example.com/ballast/ballast/zzlaws_decimal_b1.FnAbs64Triangle", spec := "fnAbs64Triangle", apart := false }
def FnAbs64TriangleSaid : Prop := fnAbs64TriangleRow.holds Try.pinned (OpenSpec.ofChange fnAbs64TriangleSpec)

/-- ITS FALSE NEIGHBOUR: 'it returns false'. Refute it at one input. -/
def fnAbs64TriangleWrong : ChangeSpec := { name := "fnAbs64Triangle", fn := fun _ => fun
  | [d1, d2] => { results := [.lit (.bool false)], args := [d1, d2] }
  | _ => none }
def FnAbs64TriangleWrongFalsely : Prop := fnAbs64TriangleRow.holds Try.pinned (OpenSpec.ofChange fnAbs64TriangleWrong)

end Rows
end Go.Proofs.Qxb6601263a
