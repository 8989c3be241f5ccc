/-
  No cell of these rows narrows 'for every input' (looked for: loops, veiled, ifaces, maps, wideKeys, modest, calm, conditions, laid).
  DERIVED. THE GIVEN ROWS OF THIS SEAT. 3 by the template 'for every input the law returns true; each argument reads behind the call as it read before'; 0 by the template 'total and deterministic' (their statements: Qxb6605364aTotals.lean).
  GIVEN WITH THE SEED: the statements are not yours to turn. If you find one false, say at which input.
  Laid BY PROGRAM, IN A SANDBOX (cutbox-rows.mjs): the forced cells as the released guide's own fill.sh prints them over the translation 280727acb9a86757… (all of the seat's roots in one cut). By AI agents, Wed Nov 11 2026. No macro, syntax, notation, axiom, sorry.
-/
import Derived.Test.Qxb6605364aChecked
import GoSem.Claim
import GoSem.ClaimJoined
import GoSem.ClaimMapViews
import Derived.JoinedTies
import Derived.KernelRfl
namespace Go.Proofs.Qxb6605364a
/- THE CELL 'sum', in the pinned program and in every row, IS THE sha256 OF THE DUMP (.gsa) THAT Qxb6605364aProg.lean LOADS. Nothing in Lean hashes anything: it is a label: what it is worth is what the hold of that sum in a sandbox is worth. -/
noncomputable def Try.pinned : Pinned := { name := "qxb6605364a", sum := "280727acb9a867577db896a34b0a534ee3f4368e7f5487dc877b21e099e2657f", checked := Try.checked }
namespace Rows
def none {H : Type} : Left H := { results := [], args := [] }

/-- 'zzlaws_pkg_ctlog_b1.FnNewPaceIsLeastEvenSpacing': WHATEVER THE INPUT: true; the input reads as it did. -/
def fnNewPaceIsLeastEvenSpacingSpec : ChangeSpec := { name := "fnNewPaceIsLeastEvenSpacing", fn := fun _ => fun
  | [d1, d2] => { results := [.lit (.bool true)], args := [d1, d2] }
  | _ => none }
def fnNewPaceIsLeastEvenSpacingRow : OpenClaim := { program := "qxb6605364a", sum := "280727acb9a867577db896a34b0a534ee3f4368e7f5487dc877b21e099e2657f", func := "example.com/loggia/loggia/zzlaws_pkg_ctlog_b1.FnNewPaceIsLeastEvenSpacing", spec := "fnNewPaceIsLeastEvenSpacing", apart := false }
def FnNewPaceIsLeastEvenSpacingSaid : Prop := fnNewPaceIsLeastEvenSpacingRow.holds Try.pinned (OpenSpec.ofChange fnNewPaceIsLeastEvenSpacingSpec)

/-- ITS FALSE NEIGHBOUR: 'it returns false'. Refute it at one input. -/
def fnNewPaceIsLeastEvenSpacingWrong : ChangeSpec := { name := "fnNewPaceIsLeastEvenSpacing", fn := fun _ => fun
  | [d1, d2] => { results := [.lit (.bool false)], args := [d1, d2] }
  | _ => none }
def FnNewPaceIsLeastEvenSpacingWrongFalsely : Prop := fnNewPaceIsLeastEvenSpacingRow.holds Try.pinned (OpenSpec.ofChange fnNewPaceIsLeastEvenSpacingWrong)

/-- 'zzlaws_pkg_ctlog_b1.FnEarliestIsLeastAllowedTime': WHATEVER THE INPUT: true; the input reads as it did. -/
def fnEarliestIsLeastAllowedTimeSpec : ChangeSpec := { name := "fnEarliestIsLeastAllowedTime", fn := fun _ => fun
  | [d1, d2, d3, d4] => { results := [.lit (.bool true)], args := [d1, d2, d3, d4] }
  | _ => none }
def fnEarliestIsLeastAllowedTimeRow : OpenClaim := { program := "qxb6605364a", sum := "280727acb9a867577db896a34b0a534ee3f4368e7f5487dc877b21e099e2657f", func := "example.com/loggia/loggia/zzlaws_pkg_ctlog_b1.FnEarliestIsLeastAllowedTime", spec := "fnEarliestIsLeastAllowedTime", apart := false }
def FnEarliestIsLeastAllowedTimeSaid : Prop := fnEarliestIsLeastAllowedTimeRow.holds Try.pinned (OpenSpec.ofChange fnEarliestIsLeastAllowedTimeSpec)

/-- ITS FALSE NEIGHBOUR: 'it returns false'. Refute it at one input. -/
def fnEarliestIsLeastAllowedTimeWrong : ChangeSpec := { name := "fnEarliestIsLeastAllowedTime", fn := fun _ => fun
  | [d1, d2, d3, d4] => { results := [.lit (.bool false)], args := [d1, d2, d3, d4] }
  | _ => none }
def FnEarliestIsLeastAllowedTimeWrongFalsely : Prop := fnEarliestIsLeastAllowedTimeRow.holds Try.pinned (OpenSpec.ofChange fnEarliestIsLeastAllowedTimeWrong)

/-- 'zzlaws_pkg_ctlog_b1.FnPaceKeepsCountInEveryPeriod': WHATEVER THE INPUT: true; the input reads as it did. -/
def fnPaceKeepsCountInEveryPeriodSpec : ChangeSpec := { name := "fnPaceKeepsCountInEveryPeriod", fn := fun _ => fun
  | [d1, d2, d3] => { results := [.lit (.bool true)], args := [d1, d2, d3] }
  | _ => none }
def fnPaceKeepsCountInEveryPeriodRow : OpenClaim := { program := "qxb6605364a", sum := "280727acb9a867577db896a34b0a534ee3f4368e7f5487dc877b21e099e2657f", func := "example.com/loggia/loggia/zzlaws_pkg_ctlog_b1.FnPaceKeepsCountInEveryPeriod", spec := "fnPaceKeepsCountInEveryPeriod", apart := false }
def FnPaceKeepsCountInEveryPeriodSaid : Prop := fnPaceKeepsCountInEveryPeriodRow.holds Try.pinned (OpenSpec.ofChange fnPaceKeepsCountInEveryPeriodSpec)

/-- ITS FALSE NEIGHBOUR: 'it returns false'. Refute it at one input. -/
def fnPaceKeepsCountInEveryPeriodWrong : ChangeSpec := { name := "fnPaceKeepsCountInEveryPeriod", fn := fun _ => fun
  | [d1, d2, d3] => { results := [.lit (.bool false)], args := [d1, d2, d3] }
  | _ => none }
def FnPaceKeepsCountInEveryPeriodWrongFalsely : Prop := fnPaceKeepsCountInEveryPeriodRow.holds Try.pinned (OpenSpec.ofChange fnPaceKeepsCountInEveryPeriodWrong)

end Rows
end Go.Proofs.Qxb6605364a
