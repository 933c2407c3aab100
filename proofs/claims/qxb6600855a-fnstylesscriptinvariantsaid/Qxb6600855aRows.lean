/-
  No cell of these rows narrows 'for every input' (looked for: loops, veiled, ifaces, maps, wideKeys, modest, calm, conditions, laid).
  DERIVED. THE GIVEN ROWS OF THIS SEAT. 3 by the template 'for every input the law returns true; each argument reads behind the call as it read before'; 0 by the template 'total and deterministic' (their statements: Qxb6600855aTotals.lean).
  GIVEN WITH THE SEED: the statements are not yours to turn. If you find one false, say at which input.
  Laid BY PROGRAM, IN A SANDBOX (cutbox-rows.mjs): the forced cells as the released guide's own fill.sh prints them over the translation dffdc936de9fc122… (all of the seat's roots in one cut). By AI agents, Wed Nov 11 2026. No macro, syntax, notation, axiom, sorry.
-/
import Derived.Test.Qxb6600855aChecked
import GoSem.Claim
import GoSem.ClaimJoined
import GoSem.ClaimMapViews
import Derived.JoinedTies
import Derived.KernelRfl
namespace Go.Proofs.Qxb6600855a
/- THE CELL 'sum', in the pinned program and in every row, IS THE sha256 OF THE DUMP (.gsa) THAT Qxb6600855aProg.lean LOADS. Nothing in Lean hashes anything: it is a label: what it is worth is what the hold of that sum in a sandbox is worth. -/
noncomputable def Try.pinned : Pinned := { name := "qxb6600855a", sum := "dffdc936de9fc122a201648cdd909b12e195a2b9189d28a57761b08aea28006a", checked := Try.checked }
namespace Rows
def none {H : Type} : Left H := { results := [], args := [] }

/-- 'zzlaws_internal_report_b1.FnColumnNameDecodesToIndex': WHATEVER THE INPUT: true; the input reads as it did. -/
def fnColumnNameDecodesToIndexSpec : ChangeSpec := { name := "fnColumnNameDecodesToIndex", fn := fun _ => fun
  | [d] => { results := [.lit (.bool true)], args := [d] }
  | _ => none }
def fnColumnNameDecodesToIndexRow : OpenClaim := { program := "qxb6600855a", sum := "dffdc936de9fc122a201648cdd909b12e195a2b9189d28a57761b08aea28006a", func := "example.com/vestline/vestline/zzlaws_internal_report_b1.FnColumnNameDecodesToIndex", spec := "fnColumnNameDecodesToIndex", recurses := true, apart := false }
def FnColumnNameDecodesToIndexSaid : Prop := fnColumnNameDecodesToIndexRow.holds Try.pinned (OpenSpec.ofChange fnColumnNameDecodesToIndexSpec)

/-- ITS FALSE NEIGHBOUR: 'it returns false'. Refute it at one input. -/
def fnColumnNameDecodesToIndexWrong : ChangeSpec := { name := "fnColumnNameDecodesToIndex", fn := fun _ => fun
  | [d] => { results := [.lit (.bool false)], args := [d] }
  | _ => none }
def FnColumnNameDecodesToIndexWrongFalsely : Prop := fnColumnNameDecodesToIndexRow.holds Try.pinned (OpenSpec.ofChange fnColumnNameDecodesToIndexWrong)

/-- 'zzlaws_internal_report_b1.FnColumnNameShortlexIncreasing': WHATEVER THE INPUT: true; the input reads as it did. -/
def fnColumnNameShortlexIncreasingSpec : ChangeSpec := { name := "fnColumnNameShortlexIncreasing", fn := fun _ => fun
  | [d1, d2] => { results := [.lit (.bool true)], args := [d1, d2] }
  | _ => none }
def fnColumnNameShortlexIncreasingRow : OpenClaim := { program := "qxb6600855a", sum := "dffdc936de9fc122a201648cdd909b12e195a2b9189d28a57761b08aea28006a", func := "example.com/vestline/vestline/zzlaws_internal_report_b1.FnColumnNameShortlexIncreasing", spec := "fnColumnNameShortlexIncreasing", recurses := true, apart := false }
def FnColumnNameShortlexIncreasingSaid : Prop := fnColumnNameShortlexIncreasingRow.holds Try.pinned (OpenSpec.ofChange fnColumnNameShortlexIncreasingSpec)

/-- ITS FALSE NEIGHBOUR: 'it returns false'. Refute it at one input. -/
def fnColumnNameShortlexIncreasingWrong : ChangeSpec := { name := "fnColumnNameShortlexIncreasing", fn := fun _ => fun
  | [d1, d2] => { results := [.lit (.bool false)], args := [d1, d2] }
  | _ => none }
def FnColumnNameShortlexIncreasingWrongFalsely : Prop := fnColumnNameShortlexIncreasingRow.holds Try.pinned (OpenSpec.ofChange fnColumnNameShortlexIncreasingWrong)

/-- 'zzlaws_internal_report_b1.FnStylesScriptInvariant': WHATEVER THE INPUT: true; the input reads as it did. -/
def fnStylesScriptInvariantSpec : ChangeSpec := { name := "fnStylesScriptInvariant", fn := fun _ => fun
  | [d] => { results := [.lit (.bool true)], args := [d] }
  | _ => none }
def fnStylesScriptInvariantRow : OpenClaim := { program := "qxb6600855a", sum := "dffdc936de9fc122a201648cdd909b12e195a2b9189d28a57761b08aea28006a", func := "example.com/vestline/vestline/zzlaws_internal_report_b1.FnStylesScriptInvariant", spec := "fnStylesScriptInvariant", apart := false }
def FnStylesScriptInvariantSaid : Prop := fnStylesScriptInvariantRow.holds Try.pinned (OpenSpec.ofChange fnStylesScriptInvariantSpec)

/-- ITS FALSE NEIGHBOUR: 'it returns false'. Refute it at one input. -/
def fnStylesScriptInvariantWrong : ChangeSpec := { name := "fnStylesScriptInvariant", fn := fun _ => fun
  | [d] => { results := [.lit (.bool false)], args := [d] }
  | _ => none }
def FnStylesScriptInvariantWrongFalsely : Prop := fnStylesScriptInvariantRow.holds Try.pinned (OpenSpec.ofChange fnStylesScriptInvariantWrong)

end Rows
end Go.Proofs.Qxb6600855a
