/-
  No cell of these rows narrows 'for every input' (looked for: loops, veiled, ifaces, maps, wideKeys, modest, calm, conditions, laid).
  DERIVED. THE GIVEN ROWS OF THIS SEAT. 5 by the template 'for every input the law returns true; each argument reads behind the call as it read before'; 0 by the template 'total and deterministic' (their statements: Qxb6000403aTotals.lean).
  GIVEN WITH THE SEED: the statements are not yours to turn. If you find one false, say at which input.
  Laid BY PROGRAM, IN A SANDBOX (cutbox-rows.mjs): the forced cells as the released guide's own fill.sh prints them over the translation 9e560a2f66ec78ca… (all of the seat's roots in one cut). By AI agents, Wed Nov 11 2026. No macro, syntax, notation, axiom, sorry.
-/
import Derived.Test.Qxb6000403aChecked
import GoSem.Claim
import GoSem.ClaimJoined
import GoSem.ClaimMapViews
import Derived.JoinedTies
import Derived.KernelRfl
namespace Go.Proofs.Qxb6000403a
/- THE CELL 'sum', in the pinned program and in every row, IS THE sha256 OF THE DUMP (.gsa) THAT Qxb6000403aProg.lean LOADS. Nothing in Lean hashes anything: it is a label: what it is worth is what the hold of that sum in a sandbox is worth. -/
noncomputable def Try.pinned : Pinned := { name := "qxb6000403a", sum := "9e560a2f66ec78cab4274c1fdd5260483fa924d27fafd6cee22eff5cff7db7b3", checked := Try.checked }
namespace Rows
def none {H : Type} : Left H := { results := [], args := [] }

/-- 'zzlaws_internal_queryapi_b1.FnIsNumberMatchesAutomaton': WHATEVER THE INPUT: true; the input reads as it did. -/
def fnIsNumberMatchesAutomatonSpec : ChangeSpec := { name := "fnIsNumberMatchesAutomaton", fn := fun _ => fun
  | [d] => { results := [.lit (.bool true)], args := [d] }
  | _ => none }
def fnIsNumberMatchesAutomatonRow : OpenClaim := { program := "qxb6000403a", sum := "9e560a2f66ec78cab4274c1fdd5260483fa924d27fafd6cee22eff5cff7db7b3", func := "example.com/smolder/smolder/zzlaws_internal_queryapi_b1.FnIsNumberMatchesAutomaton", spec := "fnIsNumberMatchesAutomaton", unfollowed := true, recurses := true, apart := false }
def FnIsNumberMatchesAutomatonSaid : Prop := fnIsNumberMatchesAutomatonRow.holds Try.pinned (OpenSpec.ofChange fnIsNumberMatchesAutomatonSpec)

/-- ITS FALSE NEIGHBOUR: 'it returns false'. Refute it at one input. -/
def fnIsNumberMatchesAutomatonWrong : ChangeSpec := { name := "fnIsNumberMatchesAutomaton", fn := fun _ => fun
  | [d] => { results := [.lit (.bool false)], args := [d] }
  | _ => none }
def FnIsNumberMatchesAutomatonWrongFalsely : Prop := fnIsNumberMatchesAutomatonRow.holds Try.pinned (OpenSpec.ofChange fnIsNumberMatchesAutomatonWrong)

/-- 'zzlaws_internal_queryapi_b1.FnIsNumberMinusPrefix': WHATEVER THE INPUT: true; the input reads as it did. -/
def fnIsNumberMinusPrefixSpec : ChangeSpec := { name := "fnIsNumberMinusPrefix", fn := fun _ => fun
  | [d] => { results := [.lit (.bool true)], args := [d] }
  | _ => none }
def fnIsNumberMinusPrefixRow : OpenClaim := { program := "qxb6000403a", sum := "9e560a2f66ec78cab4274c1fdd5260483fa924d27fafd6cee22eff5cff7db7b3", func := "example.com/smolder/smolder/zzlaws_internal_queryapi_b1.FnIsNumberMinusPrefix", spec := "fnIsNumberMinusPrefix", unfollowed := true, recurses := true, apart := false }
def FnIsNumberMinusPrefixSaid : Prop := fnIsNumberMinusPrefixRow.holds Try.pinned (OpenSpec.ofChange fnIsNumberMinusPrefixSpec)

/-- ITS FALSE NEIGHBOUR: 'it returns false'. Refute it at one input. -/
def fnIsNumberMinusPrefixWrong : ChangeSpec := { name := "fnIsNumberMinusPrefix", fn := fun _ => fun
  | [d] => { results := [.lit (.bool false)], args := [d] }
  | _ => none }
def FnIsNumberMinusPrefixWrongFalsely : Prop := fnIsNumberMinusPrefixRow.holds Try.pinned (OpenSpec.ofChange fnIsNumberMinusPrefixWrong)

/-- 'zzlaws_internal_queryapi_b1.FnIsNumberSuffixes': WHATEVER THE INPUT: true; the input reads as it did. -/
def fnIsNumberSuffixesSpec : ChangeSpec := { name := "fnIsNumberSuffixes", fn := fun _ => fun
  | [d] => { results := [.lit (.bool true)], args := [d] }
  | _ => none }
def fnIsNumberSuffixesRow : OpenClaim := { program := "qxb6000403a", sum := "9e560a2f66ec78cab4274c1fdd5260483fa924d27fafd6cee22eff5cff7db7b3", func := "example.com/smolder/smolder/zzlaws_internal_queryapi_b1.FnIsNumberSuffixes", spec := "fnIsNumberSuffixes", unfollowed := true, recurses := true, apart := false }
def FnIsNumberSuffixesSaid : Prop := fnIsNumberSuffixesRow.holds Try.pinned (OpenSpec.ofChange fnIsNumberSuffixesSpec)

/-- ITS FALSE NEIGHBOUR: 'it returns false'. Refute it at one input. -/
def fnIsNumberSuffixesWrong : ChangeSpec := { name := "fnIsNumberSuffixes", fn := fun _ => fun
  | [d] => { results := [.lit (.bool false)], args := [d] }
  | _ => none }
def FnIsNumberSuffixesWrongFalsely : Prop := fnIsNumberSuffixesRow.holds Try.pinned (OpenSpec.ofChange fnIsNumberSuffixesWrong)

/-- 'zzlaws_internal_queryapi_b1.FnUnescapeInvertsShortEscape': WHATEVER THE INPUT: true; the input reads as it did. -/
def fnUnescapeInvertsShortEscapeSpec : ChangeSpec := { name := "fnUnescapeInvertsShortEscape", fn := fun _ => fun
  | [d] => { results := [.lit (.bool true)], args := [d] }
  | _ => none }
def fnUnescapeInvertsShortEscapeRow : OpenClaim := { program := "qxb6000403a", sum := "9e560a2f66ec78cab4274c1fdd5260483fa924d27fafd6cee22eff5cff7db7b3", func := "example.com/smolder/smolder/zzlaws_internal_queryapi_b1.FnUnescapeInvertsShortEscape", spec := "fnUnescapeInvertsShortEscape", apart := false }
def FnUnescapeInvertsShortEscapeSaid : Prop := fnUnescapeInvertsShortEscapeRow.holds Try.pinned (OpenSpec.ofChange fnUnescapeInvertsShortEscapeSpec)

/-- ITS FALSE NEIGHBOUR: 'it returns false'. Refute it at one input. -/
def fnUnescapeInvertsShortEscapeWrong : ChangeSpec := { name := "fnUnescapeInvertsShortEscape", fn := fun _ => fun
  | [d] => { results := [.lit (.bool false)], args := [d] }
  | _ => none }
def FnUnescapeInvertsShortEscapeWrongFalsely : Prop := fnUnescapeInvertsShortEscapeRow.holds Try.pinned (OpenSpec.ofChange fnUnescapeInvertsShortEscapeWrong)

/-- 'zzlaws_internal_queryapi_b1.FnShortEscapeRoundTrip': WHATEVER THE INPUT: true; the input reads as it did. -/
def fnShortEscapeRoundTripSpec : ChangeSpec := { name := "fnShortEscapeRoundTrip", fn := fun _ => fun
  | [d] => { results := [.lit (.bool true)], args := [d] }
  | _ => none }
def fnShortEscapeRoundTripRow : OpenClaim := { program := "qxb6000403a", sum := "9e560a2f66ec78cab4274c1fdd5260483fa924d27fafd6cee22eff5cff7db7b3", func := "example.com/smolder/smolder/zzlaws_internal_queryapi_b1.FnShortEscapeRoundTrip", spec := "fnShortEscapeRoundTrip", apart := false }
def FnShortEscapeRoundTripSaid : Prop := fnShortEscapeRoundTripRow.holds Try.pinned (OpenSpec.ofChange fnShortEscapeRoundTripSpec)

/-- ITS FALSE NEIGHBOUR: 'it returns false'. Refute it at one input. -/
def fnShortEscapeRoundTripWrong : ChangeSpec := { name := "fnShortEscapeRoundTrip", fn := fun _ => fun
  | [d] => { results := [.lit (.bool false)], args := [d] }
  | _ => none }
def FnShortEscapeRoundTripWrongFalsely : Prop := fnShortEscapeRoundTripRow.holds Try.pinned (OpenSpec.ofChange fnShortEscapeRoundTripWrong)

end Rows
end Go.Proofs.Qxb6000403a
