/-
  No cell of these rows narrows 'for every input' (looked for: loops, veiled, ifaces, maps, wideKeys, modest, calm, conditions, laid).
  DERIVED. THE GIVEN ROWS OF THIS SEAT. 3 by the template 'for every input the law returns true; each argument reads behind the call as it read before'; 0 by the template 'total and deterministic' (their statements: Qxb6003135aTotals.lean).
  GIVEN WITH THE SEED: the statements are not yours to turn. If you find one false, say at which input.
  Laid BY PROGRAM, IN A SANDBOX (cutbox-rows.mjs): the forced cells as the released guide's own fill.sh prints them over the translation 07332ae8aab51757… (all of the seat's roots in one cut). By AI agents, Wed Nov 11 2026. No macro, syntax, notation, axiom, sorry.
-/
import Derived.Test.Qxb6003135aChecked
import GoSem.Claim
import GoSem.ClaimJoined
import GoSem.ClaimMapViews
import Derived.JoinedTies
import Derived.KernelRfl
namespace Go.Proofs.Qxb6003135a
/- THE CELL 'sum', in the pinned program and in every row, IS THE sha256 OF THE DUMP (.gsa) THAT Qxb6003135aProg.lean LOADS. Nothing in Lean hashes anything: it is a label: what it is worth is what the hold of that sum in a sandbox is worth. -/
noncomputable def Try.pinned : Pinned := { name := "qxb6003135a", sum := "07332ae8aab5175765b32fb8d43f62f2a6e029dbb124da847ab7eb699fe28947", checked := Try.checked }
namespace Rows
def none {H : Type} : Left H := { results := [], args := [] }

/-- 'zzlaws_internal_jsonvalue_b1.FnHex4MatchesDigitSearch': WHATEVER THE INPUT: true; the input reads as it did. -/
def fnHex4MatchesDigitSearchSpec : ChangeSpec := { name := "fnHex4MatchesDigitSearch", fn := fun _ => fun
  | [d] => { results := [.lit (.bool true)], args := [d] }
  | _ => none }
def fnHex4MatchesDigitSearchRow : OpenClaim := { program := "qxb6003135a", sum := "07332ae8aab5175765b32fb8d43f62f2a6e029dbb124da847ab7eb699fe28947", func := "example.com/osprey/osprey/zzlaws_internal_jsonvalue_b1.FnHex4MatchesDigitSearch", spec := "fnHex4MatchesDigitSearch", apart := false }
def FnHex4MatchesDigitSearchSaid : Prop := fnHex4MatchesDigitSearchRow.holds Try.pinned (OpenSpec.ofChange fnHex4MatchesDigitSearchSpec)

/-- ITS FALSE NEIGHBOUR: 'it returns false'. Refute it at one input. -/
def fnHex4MatchesDigitSearchWrong : ChangeSpec := { name := "fnHex4MatchesDigitSearch", fn := fun _ => fun
  | [d] => { results := [.lit (.bool false)], args := [d] }
  | _ => none }
def FnHex4MatchesDigitSearchWrongFalsely : Prop := fnHex4MatchesDigitSearchRow.holds Try.pinned (OpenSpec.ofChange fnHex4MatchesDigitSearchWrong)

/-- 'zzlaws_internal_jsonvalue_b1.FnHex4ReadsWhatWasWritten': WHATEVER THE INPUT: true; the input reads as it did. -/
def fnHex4ReadsWhatWasWrittenSpec : ChangeSpec := { name := "fnHex4ReadsWhatWasWritten", fn := fun _ => fun
  | [d1, d2, d3] => { results := [.lit (.bool true)], args := [d1, d2, d3] }
  | _ => none }
def fnHex4ReadsWhatWasWrittenRow : OpenClaim := { program := "qxb6003135a", sum := "07332ae8aab5175765b32fb8d43f62f2a6e029dbb124da847ab7eb699fe28947", func := "example.com/osprey/osprey/zzlaws_internal_jsonvalue_b1.FnHex4ReadsWhatWasWritten", spec := "fnHex4ReadsWhatWasWritten", apart := false }
def FnHex4ReadsWhatWasWrittenSaid : Prop := fnHex4ReadsWhatWasWrittenRow.holds Try.pinned (OpenSpec.ofChange fnHex4ReadsWhatWasWrittenSpec)

/-- ITS FALSE NEIGHBOUR: 'it returns false'. Refute it at one input. -/
def fnHex4ReadsWhatWasWrittenWrong : ChangeSpec := { name := "fnHex4ReadsWhatWasWritten", fn := fun _ => fun
  | [d1, d2, d3] => { results := [.lit (.bool false)], args := [d1, d2, d3] }
  | _ => none }
def FnHex4ReadsWhatWasWrittenWrongFalsely : Prop := fnHex4ReadsWhatWasWrittenRow.holds Try.pinned (OpenSpec.ofChange fnHex4ReadsWhatWasWrittenWrong)

/-- 'zzlaws_internal_jsonvalue_b1.FnAppendEscapeDecodesBack': WHATEVER THE INPUT: true; the input reads as it did. -/
def fnAppendEscapeDecodesBackSpec : ChangeSpec := { name := "fnAppendEscapeDecodesBack", fn := fun _ => fun
  | [d1, d2] => { results := [.lit (.bool true)], args := [d1, d2] }
  | _ => none }
def fnAppendEscapeDecodesBackRow : OpenClaim := { program := "qxb6003135a", sum := "07332ae8aab5175765b32fb8d43f62f2a6e029dbb124da847ab7eb699fe28947", func := "example.com/osprey/osprey/zzlaws_internal_jsonvalue_b1.FnAppendEscapeDecodesBack", spec := "fnAppendEscapeDecodesBack", apart := false }
def FnAppendEscapeDecodesBackSaid : Prop := fnAppendEscapeDecodesBackRow.holds Try.pinned (OpenSpec.ofChange fnAppendEscapeDecodesBackSpec)

/-- ITS FALSE NEIGHBOUR: 'it returns false'. Refute it at one input. -/
def fnAppendEscapeDecodesBackWrong : ChangeSpec := { name := "fnAppendEscapeDecodesBack", fn := fun _ => fun
  | [d1, d2] => { results := [.lit (.bool false)], args := [d1, d2] }
  | _ => none }
def FnAppendEscapeDecodesBackWrongFalsely : Prop := fnAppendEscapeDecodesBackRow.holds Try.pinned (OpenSpec.ofChange fnAppendEscapeDecodesBackWrong)

end Rows
end Go.Proofs.Qxb6003135a
