/-
  No cell of these rows narrows 'for every input' (looked for: loops, veiled, ifaces, maps, wideKeys, modest, calm, conditions, laid).
  DERIVED. THE GIVEN ROWS OF THIS SEAT. 5 by the template 'for every input the law returns true; each argument reads behind the call as it read before'; 0 by the template 'total and deterministic' (their statements: Qxb6605336aTotals.lean).
  GIVEN WITH THE SEED: the statements are not yours to turn. If you find one false, say at which input.
  Laid BY PROGRAM, IN A SANDBOX (cutbox-rows.mjs): the forced cells as the released guide's own fill.sh prints them over the translation 9888ee152f846b4c… (all of the seat's roots in one cut). By AI agents, Wed Nov 11 2026. No macro, syntax, notation, axiom, sorry.
-/
import Derived.Test.Qxb6605336aChecked
import GoSem.Claim
import GoSem.ClaimJoined
import GoSem.ClaimMapViews
import Derived.JoinedTies
import Derived.KernelRfl
namespace Go.Proofs.Qxb6605336a
/- THE CELL 'sum', in the pinned program and in every row, IS THE sha256 OF THE DUMP (.gsa) THAT Qxb6605336aProg.lean LOADS. Nothing in Lean hashes anything: it is a label: what it is worth is what the hold of that sum in a sandbox is worth. -/
noncomputable def Try.pinned : Pinned := { name := "qxb6605336a", sum := "9888ee152f846b4cefe1cafe9634ae11e26903cfaea7d53fd9091f3a3563b5fb", checked := Try.checked }
namespace Rows
def none {H : Type} : Left H := { results := [], args := [] }

/-- 'zzlaws_root_b1.FnReadGroupsExact': WHATEVER THE INPUT: true; the input reads as it did. -/
def fnReadGroupsExactSpec : ChangeSpec := { name := "fnReadGroupsExact", fn := fun _ => fun
  | [d1, d2, d3] => { results := [.lit (.bool true)], args := [d1, d2, d3] }
  | _ => none }
def fnReadGroupsExactRow : OpenClaim := { program := "qxb6605336a", sum := "9888ee152f846b4cefe1cafe9634ae11e26903cfaea7d53fd9091f3a3563b5fb", func := "example.com/matcher/matcher/zzlaws_root_b1.FnReadGroupsExact", spec := "fnReadGroupsExact", apart := false }
def FnReadGroupsExactSaid : Prop := fnReadGroupsExactRow.holds Try.pinned (OpenSpec.ofChange fnReadGroupsExactSpec)

/-- ITS FALSE NEIGHBOUR: 'it returns false'. Refute it at one input. -/
def fnReadGroupsExactWrong : ChangeSpec := { name := "fnReadGroupsExact", fn := fun _ => fun
  | [d1, d2, d3] => { results := [.lit (.bool false)], args := [d1, d2, d3] }
  | _ => none }
def FnReadGroupsExactWrongFalsely : Prop := fnReadGroupsExactRow.holds Try.pinned (OpenSpec.ofChange fnReadGroupsExactWrong)

/-- 'zzlaws_root_b1.FnReadGroupsRoundTrip': WHATEVER THE INPUT: true; the input reads as it did. -/
def fnReadGroupsRoundTripSpec : ChangeSpec := { name := "fnReadGroupsRoundTrip", fn := fun _ => fun
  | [d1, d2, d3, d4, d5, d6, d7, d8] => { results := [.lit (.bool true)], args := [d1, d2, d3, d4, d5, d6, d7, d8] }
  | _ => none }
def fnReadGroupsRoundTripRow : OpenClaim := { program := "qxb6605336a", sum := "9888ee152f846b4cefe1cafe9634ae11e26903cfaea7d53fd9091f3a3563b5fb", func := "example.com/matcher/matcher/zzlaws_root_b1.FnReadGroupsRoundTrip", spec := "fnReadGroupsRoundTrip", apart := false }
def FnReadGroupsRoundTripSaid : Prop := fnReadGroupsRoundTripRow.holds Try.pinned (OpenSpec.ofChange fnReadGroupsRoundTripSpec)

/-- ITS FALSE NEIGHBOUR: 'it returns false'. Refute it at one input. -/
def fnReadGroupsRoundTripWrong : ChangeSpec := { name := "fnReadGroupsRoundTrip", fn := fun _ => fun
  | [d1, d2, d3, d4, d5, d6, d7, d8] => { results := [.lit (.bool false)], args := [d1, d2, d3, d4, d5, d6, d7, d8] }
  | _ => none }
def FnReadGroupsRoundTripWrongFalsely : Prop := fnReadGroupsRoundTripRow.holds Try.pinned (OpenSpec.ofChange fnReadGroupsRoundTripWrong)

/-- 'zzlaws_root_b1.FnSearchAtScript': WHATEVER THE INPUT: true; the input reads as it did. -/
def fnSearchAtScriptSpec : ChangeSpec := { name := "fnSearchAtScript", fn := fun _ => fun
  | [d1, d2, d3] => { results := [.lit (.bool true)], args := [d1, d2, d3] }
  | _ => none }
def fnSearchAtScriptRow : OpenClaim := { program := "qxb6605336a", sum := "9888ee152f846b4cefe1cafe9634ae11e26903cfaea7d53fd9091f3a3563b5fb", func := "example.com/matcher/matcher/zzlaws_root_b1.FnSearchAtScript", spec := "fnSearchAtScript", apart := false }
def FnSearchAtScriptSaid : Prop := fnSearchAtScriptRow.holds Try.pinned (OpenSpec.ofChange fnSearchAtScriptSpec)

/-- ITS FALSE NEIGHBOUR: 'it returns false'. Refute it at one input. -/
def fnSearchAtScriptWrong : ChangeSpec := { name := "fnSearchAtScript", fn := fun _ => fun
  | [d1, d2, d3] => { results := [.lit (.bool false)], args := [d1, d2, d3] }
  | _ => none }
def FnSearchAtScriptWrongFalsely : Prop := fnSearchAtScriptRow.holds Try.pinned (OpenSpec.ofChange fnSearchAtScriptWrong)

/-- 'zzlaws_root_b1.FnGrantToByDoc': WHATEVER THE INPUT: true; the input reads as it did. -/
def fnGrantToByDocSpec : ChangeSpec := { name := "fnGrantToByDoc", fn := fun _ => fun
  | [d1, d2, d3, d4, d5, d6, d7, d8, d9, d10] => { results := [.lit (.bool true)], args := [d1, d2, d3, d4, d5, d6, d7, d8, d9, d10] }
  | _ => none }
def fnGrantToByDocRow : OpenClaim := { program := "qxb6605336a", sum := "9888ee152f846b4cefe1cafe9634ae11e26903cfaea7d53fd9091f3a3563b5fb", func := "example.com/matcher/matcher/zzlaws_root_b1.FnGrantToByDoc", spec := "fnGrantToByDoc", apart := false }
def FnGrantToByDocSaid : Prop := fnGrantToByDocRow.holds Try.pinned (OpenSpec.ofChange fnGrantToByDocSpec)

/-- ITS FALSE NEIGHBOUR: 'it returns false'. Refute it at one input. -/
def fnGrantToByDocWrong : ChangeSpec := { name := "fnGrantToByDoc", fn := fun _ => fun
  | [d1, d2, d3, d4, d5, d6, d7, d8, d9, d10] => { results := [.lit (.bool false)], args := [d1, d2, d3, d4, d5, d6, d7, d8, d9, d10] }
  | _ => none }
def FnGrantToByDocWrongFalsely : Prop := fnGrantToByDocRow.holds Try.pinned (OpenSpec.ofChange fnGrantToByDocWrong)

/-- 'zzlaws_root_b1.FnGrantToNotPrincipalComplement': WHATEVER THE INPUT: true; the input reads as it did. -/
def fnGrantToNotPrincipalComplementSpec : ChangeSpec := { name := "fnGrantToNotPrincipalComplement", fn := fun _ => fun
  | [d1, d2, d3, d4, d5, d6, d7, d8, d9, d10] => { results := [.lit (.bool true)], args := [d1, d2, d3, d4, d5, d6, d7, d8, d9, d10] }
  | _ => none }
def fnGrantToNotPrincipalComplementRow : OpenClaim := { program := "qxb6605336a", sum := "9888ee152f846b4cefe1cafe9634ae11e26903cfaea7d53fd9091f3a3563b5fb", func := "example.com/matcher/matcher/zzlaws_root_b1.FnGrantToNotPrincipalComplement", spec := "fnGrantToNotPrincipalComplement", apart := false }
def FnGrantToNotPrincipalComplementSaid : Prop := fnGrantToNotPrincipalComplementRow.holds Try.pinned (OpenSpec.ofChange fnGrantToNotPrincipalComplementSpec)

/-- ITS FALSE NEIGHBOUR: 'it returns false'. Refute it at one input. -/
def fnGrantToNotPrincipalComplementWrong : ChangeSpec := { name := "fnGrantToNotPrincipalComplement", fn := fun _ => fun
  | [d1, d2, d3, d4, d5, d6, d7, d8, d9, d10] => { results := [.lit (.bool false)], args := [d1, d2, d3, d4, d5, d6, d7, d8, d9, d10] }
  | _ => none }
def FnGrantToNotPrincipalComplementWrongFalsely : Prop := fnGrantToNotPrincipalComplementRow.holds Try.pinned (OpenSpec.ofChange fnGrantToNotPrincipalComplementWrong)

end Rows
end Go.Proofs.Qxb6605336a
