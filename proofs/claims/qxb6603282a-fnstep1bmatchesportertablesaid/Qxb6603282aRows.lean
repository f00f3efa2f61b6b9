/-
  No cell of these rows narrows 'for every input' (looked for: loops, veiled, ifaces, maps, wideKeys, modest, calm, conditions, laid).
  DERIVED. THE GIVEN ROWS OF THIS SEAT. 6 by the template 'for every input the law returns true; each argument reads behind the call as it read before'; 0 by the template 'total and deterministic' (their statements: Qxb6603282aTotals.lean).
  GIVEN WITH THE SEED: the statements are not yours to turn. If you find one false, say at which input.
  Laid BY PROGRAM, IN A SANDBOX (cutbox-rows.mjs): the forced cells as the released guide's own fill.sh prints them over the translation fbfb408e4e96f25f… (all of the seat's roots in one cut). By AI agents, Wed Nov 11 2026. No macro, syntax, notation, axiom, sorry.
-/
import Derived.Test.Qxb6603282aChecked
import GoSem.Claim
import GoSem.ClaimJoined
import GoSem.ClaimMapViews
import Derived.JoinedTies
import Derived.KernelRfl
namespace Go.Proofs.Qxb6603282a
/- THE CELL 'sum', in the pinned program and in every row, IS THE sha256 OF THE DUMP (.gsa) THAT Qxb6603282aProg.lean LOADS. Nothing in Lean hashes anything: it is a label: what it is worth is what the hold of that sum in a sandbox is worth. -/
noncomputable def Try.pinned : Pinned := { name := "qxb6603282a", sum := "fbfb408e4e96f25f9047ffe6a0ba8781b814e8c9660d3e29d25556d89da6e980", checked := Try.checked }
namespace Rows
def none {H : Type} : Left H := { results := [], args := [] }

/-- 'zzlaws_root_b1.FnStep1bMatchesPorterTable': WHATEVER THE INPUT: true; the input reads as it did. -/
def fnStep1bMatchesPorterTableSpec : ChangeSpec := { name := "fnStep1bMatchesPorterTable", fn := fun _ => fun
  | [d] => { results := [.lit (.bool true)], args := [d] }
  | _ => none }
def fnStep1bMatchesPorterTableRow : OpenClaim := { program := "qxb6603282a", sum := "fbfb408e4e96f25f9047ffe6a0ba8781b814e8c9660d3e29d25556d89da6e980", func := "example.com/libhaft/libhaft/zzlaws_root_b1.FnStep1bMatchesPorterTable", spec := "fnStep1bMatchesPorterTable", apart := false }
def FnStep1bMatchesPorterTableSaid : Prop := fnStep1bMatchesPorterTableRow.holds Try.pinned (OpenSpec.ofChange fnStep1bMatchesPorterTableSpec)

/-- ITS FALSE NEIGHBOUR: 'it returns false'. Refute it at one input. -/
def fnStep1bMatchesPorterTableWrong : ChangeSpec := { name := "fnStep1bMatchesPorterTable", fn := fun _ => fun
  | [d] => { results := [.lit (.bool false)], args := [d] }
  | _ => none }
def FnStep1bMatchesPorterTableWrongFalsely : Prop := fnStep1bMatchesPorterTableRow.holds Try.pinned (OpenSpec.ofChange fnStep1bMatchesPorterTableWrong)

/-- 'zzlaws_root_b1.FnStep1bOnlyCutsTheEnd': WHATEVER THE INPUT: true; the input reads as it did. -/
def fnStep1bOnlyCutsTheEndSpec : ChangeSpec := { name := "fnStep1bOnlyCutsTheEnd", fn := fun _ => fun
  | [d] => { results := [.lit (.bool true)], args := [d] }
  | _ => none }
def fnStep1bOnlyCutsTheEndRow : OpenClaim := { program := "qxb6603282a", sum := "fbfb408e4e96f25f9047ffe6a0ba8781b814e8c9660d3e29d25556d89da6e980", func := "example.com/libhaft/libhaft/zzlaws_root_b1.FnStep1bOnlyCutsTheEnd", spec := "fnStep1bOnlyCutsTheEnd", apart := false }
def FnStep1bOnlyCutsTheEndSaid : Prop := fnStep1bOnlyCutsTheEndRow.holds Try.pinned (OpenSpec.ofChange fnStep1bOnlyCutsTheEndSpec)

/-- ITS FALSE NEIGHBOUR: 'it returns false'. Refute it at one input. -/
def fnStep1bOnlyCutsTheEndWrong : ChangeSpec := { name := "fnStep1bOnlyCutsTheEnd", fn := fun _ => fun
  | [d] => { results := [.lit (.bool false)], args := [d] }
  | _ => none }
def FnStep1bOnlyCutsTheEndWrongFalsely : Prop := fnStep1bOnlyCutsTheEndRow.holds Try.pinned (OpenSpec.ofChange fnStep1bOnlyCutsTheEndWrong)

/-- 'zzlaws_root_b1.FnReplaceSuffixMatchesFirstFittingRule': WHATEVER THE INPUT: true; the input reads as it did. -/
def fnReplaceSuffixMatchesFirstFittingRuleSpec : ChangeSpec := { name := "fnReplaceSuffixMatchesFirstFittingRule", fn := fun _ => fun
  | [d1, d2, d3] => { results := [.lit (.bool true)], args := [d1, d2, d3] }
  | _ => none }
def fnReplaceSuffixMatchesFirstFittingRuleRow : OpenClaim := { program := "qxb6603282a", sum := "fbfb408e4e96f25f9047ffe6a0ba8781b814e8c9660d3e29d25556d89da6e980", func := "example.com/libhaft/libhaft/zzlaws_root_b1.FnReplaceSuffixMatchesFirstFittingRule", spec := "fnReplaceSuffixMatchesFirstFittingRule", apart := false }
def FnReplaceSuffixMatchesFirstFittingRuleSaid : Prop := fnReplaceSuffixMatchesFirstFittingRuleRow.holds Try.pinned (OpenSpec.ofChange fnReplaceSuffixMatchesFirstFittingRuleSpec)

/-- ITS FALSE NEIGHBOUR: 'it returns false'. Refute it at one input. -/
def fnReplaceSuffixMatchesFirstFittingRuleWrong : ChangeSpec := { name := "fnReplaceSuffixMatchesFirstFittingRule", fn := fun _ => fun
  | [d1, d2, d3] => { results := [.lit (.bool false)], args := [d1, d2, d3] }
  | _ => none }
def FnReplaceSuffixMatchesFirstFittingRuleWrongFalsely : Prop := fnReplaceSuffixMatchesFirstFittingRuleRow.holds Try.pinned (OpenSpec.ofChange fnReplaceSuffixMatchesFirstFittingRuleWrong)

/-- 'zzlaws_root_b1.FnReplaceSuffixKeepsWordsBelowMinMeasure': WHATEVER THE INPUT: true; the input reads as it did. -/
def fnReplaceSuffixKeepsWordsBelowMinMeasureSpec : ChangeSpec := { name := "fnReplaceSuffixKeepsWordsBelowMinMeasure", fn := fun _ => fun
  | [d1, d2, d3] => { results := [.lit (.bool true)], args := [d1, d2, d3] }
  | _ => none }
def fnReplaceSuffixKeepsWordsBelowMinMeasureRow : OpenClaim := { program := "qxb6603282a", sum := "fbfb408e4e96f25f9047ffe6a0ba8781b814e8c9660d3e29d25556d89da6e980", func := "example.com/libhaft/libhaft/zzlaws_root_b1.FnReplaceSuffixKeepsWordsBelowMinMeasure", spec := "fnReplaceSuffixKeepsWordsBelowMinMeasure", apart := false }
def FnReplaceSuffixKeepsWordsBelowMinMeasureSaid : Prop := fnReplaceSuffixKeepsWordsBelowMinMeasureRow.holds Try.pinned (OpenSpec.ofChange fnReplaceSuffixKeepsWordsBelowMinMeasureSpec)

/-- ITS FALSE NEIGHBOUR: 'it returns false'. Refute it at one input. -/
def fnReplaceSuffixKeepsWordsBelowMinMeasureWrong : ChangeSpec := { name := "fnReplaceSuffixKeepsWordsBelowMinMeasure", fn := fun _ => fun
  | [d1, d2, d3] => { results := [.lit (.bool false)], args := [d1, d2, d3] }
  | _ => none }
def FnReplaceSuffixKeepsWordsBelowMinMeasureWrongFalsely : Prop := fnReplaceSuffixKeepsWordsBelowMinMeasureRow.holds Try.pinned (OpenSpec.ofChange fnReplaceSuffixKeepsWordsBelowMinMeasureWrong)

/-- 'zzlaws_root_b1.FnNamedMatchesSetModel': WHATEVER THE INPUT: true; the input reads as it did. -/
def fnNamedMatchesSetModelSpec : ChangeSpec := { name := "fnNamedMatchesSetModel", fn := fun _ => fun
  | [d1, d2, d3, d4, d5, d6] => { results := [.lit (.bool true)], args := [d1, d2, d3, d4, d5, d6] }
  | _ => none }
def fnNamedMatchesSetModelRow : OpenClaim := { program := "qxb6603282a", sum := "fbfb408e4e96f25f9047ffe6a0ba8781b814e8c9660d3e29d25556d89da6e980", func := "example.com/libhaft/libhaft/zzlaws_root_b1.FnNamedMatchesSetModel", spec := "fnNamedMatchesSetModel", apart := false }
def FnNamedMatchesSetModelSaid : Prop := fnNamedMatchesSetModelRow.holds Try.pinned (OpenSpec.ofChange fnNamedMatchesSetModelSpec)

/-- ITS FALSE NEIGHBOUR: 'it returns false'. Refute it at one input. -/
def fnNamedMatchesSetModelWrong : ChangeSpec := { name := "fnNamedMatchesSetModel", fn := fun _ => fun
  | [d1, d2, d3, d4, d5, d6] => { results := [.lit (.bool false)], args := [d1, d2, d3, d4, d5, d6] }
  | _ => none }
def FnNamedMatchesSetModelWrongFalsely : Prop := fnNamedMatchesSetModelRow.holds Try.pinned (OpenSpec.ofChange fnNamedMatchesSetModelWrong)

/-- 'zzlaws_root_b1.FnNamedScriptReportsRepeats': WHATEVER THE INPUT: true; the input reads as it did. -/
def fnNamedScriptReportsRepeatsSpec : ChangeSpec := { name := "fnNamedScriptReportsRepeats", fn := fun _ => fun
  | [d1, d2] => { results := [.lit (.bool true)], args := [d1, d2] }
  | _ => none }
def fnNamedScriptReportsRepeatsRow : OpenClaim := { program := "qxb6603282a", sum := "fbfb408e4e96f25f9047ffe6a0ba8781b814e8c9660d3e29d25556d89da6e980", func := "example.com/libhaft/libhaft/zzlaws_root_b1.FnNamedScriptReportsRepeats", spec := "fnNamedScriptReportsRepeats", apart := false }
def FnNamedScriptReportsRepeatsSaid : Prop := fnNamedScriptReportsRepeatsRow.holds Try.pinned (OpenSpec.ofChange fnNamedScriptReportsRepeatsSpec)

/-- ITS FALSE NEIGHBOUR: 'it returns false'. Refute it at one input. -/
def fnNamedScriptReportsRepeatsWrong : ChangeSpec := { name := "fnNamedScriptReportsRepeats", fn := fun _ => fun
  | [d1, d2] => { results := [.lit (.bool false)], args := [d1, d2] }
  | _ => none }
def FnNamedScriptReportsRepeatsWrongFalsely : Prop := fnNamedScriptReportsRepeatsRow.holds Try.pinned (OpenSpec.ofChange fnNamedScriptReportsRepeatsWrong)

end Rows
end Go.Proofs.Qxb6603282a
