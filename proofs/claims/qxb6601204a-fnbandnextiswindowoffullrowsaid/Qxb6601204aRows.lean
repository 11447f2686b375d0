/-
  No cell of these rows narrows 'for every input' (looked for: loops, veiled, ifaces, maps, wideKeys, modest, calm, conditions, laid).
  DERIVED. THE GIVEN ROWS OF THIS SEAT. 5 by the template 'for every input the law returns true; each argument reads behind the call as it read before'; 0 by the template 'total and deterministic' (their statements: Qxb6601204aTotals.lean).
  GIVEN WITH THE SEED: the statements are not yours to turn. If you find one false, say at which input.
  Laid BY PROGRAM, IN A SANDBOX (cutbox-rows.mjs): the forced cells as the released guide's own fill.sh prints them over the translation 514862e173fd976a… (all of the seat's roots in one cut). By AI agents, Wed Nov 11 2026. No macro, syntax, notation, axiom, sorry.
-/
import Derived.Test.Qxb6601204aChecked
import GoSem.Claim
import GoSem.ClaimJoined
import GoSem.ClaimMapViews
import Derived.JoinedTies
import Derived.KernelRfl
namespace Go.Proofs.Qxb6601204a
/- THE CELL 'sum', in the pinned program and in every row, IS THE sha256 OF THE DUMP (.gsa) THAT Qxb6601204aProg.lean LOADS. Nothing in Lean hashes anything: it is a label: what it is worth is what the hold of that sum in a sandbox is worth. -/
noncomputable def Try.pinned : Pinned := { name := "qxb6601204a", sum := "514862e173fd976ade628fde576c41ba9dd971ac96eb96c3f3afabbac8043c8c", checked := Try.checked }
namespace Rows
def none {H : Type} : Left H := { results := [], args := [] }

/-- 'zzlaws_pkg_rule_b1.FnMembersMatchesEscapeRunModel': WHATEVER THE INPUT: true; the input reads as it did. -/
def fnMembersMatchesEscapeRunModelSpec : ChangeSpec := { name := "fnMembersMatchesEscapeRunModel", fn := fun _ => fun
  | [d] => { results := [.lit (.bool true)], args := [d] }
  | _ => none }
def fnMembersMatchesEscapeRunModelRow : OpenClaim := { program := "qxb6601204a", sum := "514862e173fd976ade628fde576c41ba9dd971ac96eb96c3f3afabbac8043c8c", func := "example.com/ratebook/ratebook/zzlaws_pkg_rule_b1.FnMembersMatchesEscapeRunModel", spec := "fnMembersMatchesEscapeRunModel", apart := false }
def FnMembersMatchesEscapeRunModelSaid : Prop := fnMembersMatchesEscapeRunModelRow.holds Try.pinned (OpenSpec.ofChange fnMembersMatchesEscapeRunModelSpec)

/-- ITS FALSE NEIGHBOUR: 'it returns false'. Refute it at one input. -/
def fnMembersMatchesEscapeRunModelWrong : ChangeSpec := { name := "fnMembersMatchesEscapeRunModel", fn := fun _ => fun
  | [d] => { results := [.lit (.bool false)], args := [d] }
  | _ => none }
def FnMembersMatchesEscapeRunModelWrongFalsely : Prop := fnMembersMatchesEscapeRunModelRow.holds Try.pinned (OpenSpec.ofChange fnMembersMatchesEscapeRunModelWrong)

/-- 'zzlaws_pkg_rule_b1.FnMembersAddsOverCleanPrefix': WHATEVER THE INPUT: true; the input reads as it did. -/
def fnMembersAddsOverCleanPrefixSpec : ChangeSpec := { name := "fnMembersAddsOverCleanPrefix", fn := fun _ => fun
  | [d1, d2] => { results := [.lit (.bool true)], args := [d1, d2] }
  | _ => none }
def fnMembersAddsOverCleanPrefixRow : OpenClaim := { program := "qxb6601204a", sum := "514862e173fd976ade628fde576c41ba9dd971ac96eb96c3f3afabbac8043c8c", func := "example.com/ratebook/ratebook/zzlaws_pkg_rule_b1.FnMembersAddsOverCleanPrefix", spec := "fnMembersAddsOverCleanPrefix", apart := false }
def FnMembersAddsOverCleanPrefixSaid : Prop := fnMembersAddsOverCleanPrefixRow.holds Try.pinned (OpenSpec.ofChange fnMembersAddsOverCleanPrefixSpec)

/-- ITS FALSE NEIGHBOUR: 'it returns false'. Refute it at one input. -/
def fnMembersAddsOverCleanPrefixWrong : ChangeSpec := { name := "fnMembersAddsOverCleanPrefix", fn := fun _ => fun
  | [d1, d2] => { results := [.lit (.bool false)], args := [d1, d2] }
  | _ => none }
def FnMembersAddsOverCleanPrefixWrongFalsely : Prop := fnMembersAddsOverCleanPrefixRow.holds Try.pinned (OpenSpec.ofChange fnMembersAddsOverCleanPrefixWrong)

/-- 'zzlaws_pkg_rule_b1.FnBandNextIsWindowOfFullRow': WHATEVER THE INPUT: true; the input reads as it did. -/
def fnBandNextIsWindowOfFullRowSpec : ChangeSpec := { name := "fnBandNextIsWindowOfFullRow", fn := fun _ => fun
  | [d1, d2, d3, d4] => { results := [.lit (.bool true)], args := [d1, d2, d3, d4] }
  | _ => none }
def fnBandNextIsWindowOfFullRowRow : OpenClaim := { program := "qxb6601204a", sum := "514862e173fd976ade628fde576c41ba9dd971ac96eb96c3f3afabbac8043c8c", func := "example.com/ratebook/ratebook/zzlaws_pkg_rule_b1.FnBandNextIsWindowOfFullRow", spec := "fnBandNextIsWindowOfFullRow", apart := false }
def FnBandNextIsWindowOfFullRowSaid : Prop := fnBandNextIsWindowOfFullRowRow.holds Try.pinned (OpenSpec.ofChange fnBandNextIsWindowOfFullRowSpec)

/-- ITS FALSE NEIGHBOUR: 'it returns false'. Refute it at one input. -/
def fnBandNextIsWindowOfFullRowWrong : ChangeSpec := { name := "fnBandNextIsWindowOfFullRow", fn := fun _ => fun
  | [d1, d2, d3, d4] => { results := [.lit (.bool false)], args := [d1, d2, d3, d4] }
  | _ => none }
def FnBandNextIsWindowOfFullRowWrongFalsely : Prop := fnBandNextIsWindowOfFullRowRow.holds Try.pinned (OpenSpec.ofChange fnBandNextIsWindowOfFullRowWrong)

/-- 'zzlaws_pkg_rule_b1.FnBandNextIsMonotone': WHATEVER THE INPUT: true; the input reads as it did. -/
def fnBandNextIsMonotoneSpec : ChangeSpec := { name := "fnBandNextIsMonotone", fn := fun _ => fun
  | [d1, d2, d3, d4, d5] => { results := [.lit (.bool true)], args := [d1, d2, d3, d4, d5] }
  | _ => none }
def fnBandNextIsMonotoneRow : OpenClaim := { program := "qxb6601204a", sum := "514862e173fd976ade628fde576c41ba9dd971ac96eb96c3f3afabbac8043c8c", func := "example.com/ratebook/ratebook/zzlaws_pkg_rule_b1.FnBandNextIsMonotone", spec := "fnBandNextIsMonotone", apart := false }
def FnBandNextIsMonotoneSaid : Prop := fnBandNextIsMonotoneRow.holds Try.pinned (OpenSpec.ofChange fnBandNextIsMonotoneSpec)

/-- ITS FALSE NEIGHBOUR: 'it returns false'. Refute it at one input. -/
def fnBandNextIsMonotoneWrong : ChangeSpec := { name := "fnBandNextIsMonotone", fn := fun _ => fun
  | [d1, d2, d3, d4, d5] => { results := [.lit (.bool false)], args := [d1, d2, d3, d4, d5] }
  | _ => none }
def FnBandNextIsMonotoneWrongFalsely : Prop := fnBandNextIsMonotoneRow.holds Try.pinned (OpenSpec.ofChange fnBandNextIsMonotoneWrong)

/-- 'zzlaws_pkg_rule_b1.FnBandRunsEqualClampedEditDistance': WHATEVER THE INPUT: true; the input reads as it did. -/
def fnBandRunsEqualClampedEditDistanceSpec : ChangeSpec := { name := "fnBandRunsEqualClampedEditDistance", fn := fun _ => fun
  | [d1, d2] => { results := [.lit (.bool true)], args := [d1, d2] }
  | _ => none }
def fnBandRunsEqualClampedEditDistanceRow : OpenClaim := { program := "qxb6601204a", sum := "514862e173fd976ade628fde576c41ba9dd971ac96eb96c3f3afabbac8043c8c", func := "example.com/ratebook/ratebook/zzlaws_pkg_rule_b1.FnBandRunsEqualClampedEditDistance", spec := "fnBandRunsEqualClampedEditDistance", apart := false }
def FnBandRunsEqualClampedEditDistanceSaid : Prop := fnBandRunsEqualClampedEditDistanceRow.holds Try.pinned (OpenSpec.ofChange fnBandRunsEqualClampedEditDistanceSpec)

/-- ITS FALSE NEIGHBOUR: 'it returns false'. Refute it at one input. -/
def fnBandRunsEqualClampedEditDistanceWrong : ChangeSpec := { name := "fnBandRunsEqualClampedEditDistance", fn := fun _ => fun
  | [d1, d2] => { results := [.lit (.bool false)], args := [d1, d2] }
  | _ => none }
def FnBandRunsEqualClampedEditDistanceWrongFalsely : Prop := fnBandRunsEqualClampedEditDistanceRow.holds Try.pinned (OpenSpec.ofChange fnBandRunsEqualClampedEditDistanceWrong)

end Rows
end Go.Proofs.Qxb6601204a
