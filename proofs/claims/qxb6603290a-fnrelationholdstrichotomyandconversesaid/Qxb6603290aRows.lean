/-
  No cell of these rows narrows 'for every input' (looked for: loops, veiled, ifaces, maps, wideKeys, modest, calm, conditions, laid).
  DERIVED. THE GIVEN ROWS OF THIS SEAT. 5 by the template 'for every input the law returns true; each argument reads behind the call as it read before'; 0 by the template 'total and deterministic' (their statements: Qxb6603290aTotals.lean).
  GIVEN WITH THE SEED: the statements are not yours to turn. If you find one false, say at which input.
  Laid BY PROGRAM, IN A SANDBOX (cutbox-rows.mjs): the forced cells as the released guide's own fill.sh prints them over the translation f86f72c0528fc7c4… (all of the seat's roots in one cut). By AI agents, Wed Nov 11 2026. No macro, syntax, notation, axiom, sorry.
-/
import Derived.Test.Qxb6603290aChecked
import GoSem.Claim
import GoSem.ClaimJoined
import GoSem.ClaimMapViews
import Derived.JoinedTies
import Derived.KernelRfl
namespace Go.Proofs.Qxb6603290a
/- THE CELL 'sum', in the pinned program and in every row, IS THE sha256 OF THE DUMP (.gsa) THAT Qxb6603290aProg.lean LOADS. Nothing in Lean hashes anything: it is a label: what it is worth is what the hold of that sum in a sandbox is worth. -/
noncomputable def Try.pinned : Pinned := { name := "qxb6603290a", sum := "f86f72c0528fc7c4a6e1fe3d1a41d93f86ea60d690160b81c6049e2cc8ca58ba", checked := Try.checked }
namespace Rows
def none {H : Type} : Left H := { results := [], args := [] }

/-- 'zzlaws_pkg_machine_b1.FnWildcardMatchesAgreesWithGlobMatcher': WHATEVER THE INPUT: true; the input reads as it did. -/
def fnWildcardMatchesAgreesWithGlobMatcherSpec : ChangeSpec := { name := "fnWildcardMatchesAgreesWithGlobMatcher", fn := fun _ => fun
  | [d1, d2] => { results := [.lit (.bool true)], args := [d1, d2] }
  | _ => none }
def fnWildcardMatchesAgreesWithGlobMatcherRow : OpenClaim := { program := "qxb6603290a", sum := "f86f72c0528fc7c4a6e1fe3d1a41d93f86ea60d690160b81c6049e2cc8ca58ba", func := "example.com/statecraft/statecraft/zzlaws_pkg_machine_b1.FnWildcardMatchesAgreesWithGlobMatcher", spec := "fnWildcardMatchesAgreesWithGlobMatcher", inPlace := ["internal/bytealg.IndexByteString", "internal/bytealg.IndexString"], named := ["internal/bytealg.MaxLen"], apart := false }
def FnWildcardMatchesAgreesWithGlobMatcherSaid : Prop := fnWildcardMatchesAgreesWithGlobMatcherRow.holds Try.pinned (OpenSpec.ofChange fnWildcardMatchesAgreesWithGlobMatcherSpec)

/-- ITS FALSE NEIGHBOUR: 'it returns false'. Refute it at one input. -/
def fnWildcardMatchesAgreesWithGlobMatcherWrong : ChangeSpec := { name := "fnWildcardMatchesAgreesWithGlobMatcher", fn := fun _ => fun
  | [d1, d2] => { results := [.lit (.bool false)], args := [d1, d2] }
  | _ => none }
def FnWildcardMatchesAgreesWithGlobMatcherWrongFalsely : Prop := fnWildcardMatchesAgreesWithGlobMatcherRow.holds Try.pinned (OpenSpec.ofChange fnWildcardMatchesAgreesWithGlobMatcherWrong)

/-- 'zzlaws_pkg_machine_b1.FnWildcardMatchesEveryFilling': WHATEVER THE INPUT: true; the input reads as it did. -/
def fnWildcardMatchesEveryFillingSpec : ChangeSpec := { name := "fnWildcardMatchesEveryFilling", fn := fun _ => fun
  | [d1, d2] => { results := [.lit (.bool true)], args := [d1, d2] }
  | _ => none }
def fnWildcardMatchesEveryFillingRow : OpenClaim := { program := "qxb6603290a", sum := "f86f72c0528fc7c4a6e1fe3d1a41d93f86ea60d690160b81c6049e2cc8ca58ba", func := "example.com/statecraft/statecraft/zzlaws_pkg_machine_b1.FnWildcardMatchesEveryFilling", spec := "fnWildcardMatchesEveryFilling", inPlace := ["internal/bytealg.IndexByteString", "internal/bytealg.IndexString"], named := ["internal/bytealg.MaxLen"], apart := false }
def FnWildcardMatchesEveryFillingSaid : Prop := fnWildcardMatchesEveryFillingRow.holds Try.pinned (OpenSpec.ofChange fnWildcardMatchesEveryFillingSpec)

/-- ITS FALSE NEIGHBOUR: 'it returns false'. Refute it at one input. -/
def fnWildcardMatchesEveryFillingWrong : ChangeSpec := { name := "fnWildcardMatchesEveryFilling", fn := fun _ => fun
  | [d1, d2] => { results := [.lit (.bool false)], args := [d1, d2] }
  | _ => none }
def FnWildcardMatchesEveryFillingWrongFalsely : Prop := fnWildcardMatchesEveryFillingRow.holds Try.pinned (OpenSpec.ofChange fnWildcardMatchesEveryFillingWrong)

/-- 'zzlaws_pkg_machine_b1.FnWildcardMatchesSplittingAPartLoosens': WHATEVER THE INPUT: true; the input reads as it did. -/
def fnWildcardMatchesSplittingAPartLoosensSpec : ChangeSpec := { name := "fnWildcardMatchesSplittingAPartLoosens", fn := fun _ => fun
  | [d1, d2, d3, d4] => { results := [.lit (.bool true)], args := [d1, d2, d3, d4] }
  | _ => none }
def fnWildcardMatchesSplittingAPartLoosensRow : OpenClaim := { program := "qxb6603290a", sum := "f86f72c0528fc7c4a6e1fe3d1a41d93f86ea60d690160b81c6049e2cc8ca58ba", func := "example.com/statecraft/statecraft/zzlaws_pkg_machine_b1.FnWildcardMatchesSplittingAPartLoosens", spec := "fnWildcardMatchesSplittingAPartLoosens", inPlace := ["internal/bytealg.IndexByteString", "internal/bytealg.IndexString"], named := ["internal/bytealg.MaxLen"], apart := false }
def FnWildcardMatchesSplittingAPartLoosensSaid : Prop := fnWildcardMatchesSplittingAPartLoosensRow.holds Try.pinned (OpenSpec.ofChange fnWildcardMatchesSplittingAPartLoosensSpec)

/-- ITS FALSE NEIGHBOUR: 'it returns false'. Refute it at one input. -/
def fnWildcardMatchesSplittingAPartLoosensWrong : ChangeSpec := { name := "fnWildcardMatchesSplittingAPartLoosens", fn := fun _ => fun
  | [d1, d2, d3, d4] => { results := [.lit (.bool false)], args := [d1, d2, d3, d4] }
  | _ => none }
def FnWildcardMatchesSplittingAPartLoosensWrongFalsely : Prop := fnWildcardMatchesSplittingAPartLoosensRow.holds Try.pinned (OpenSpec.ofChange fnWildcardMatchesSplittingAPartLoosensWrong)

/-- 'zzlaws_pkg_machine_b1.FnRelationHoldsSeesOnlyTheSign': WHATEVER THE INPUT: true; the input reads as it did. -/
def fnRelationHoldsSeesOnlyTheSignSpec : ChangeSpec := { name := "fnRelationHoldsSeesOnlyTheSign", fn := fun _ => fun
  | [d1, d2] => { results := [.lit (.bool true)], args := [d1, d2] }
  | _ => none }
def fnRelationHoldsSeesOnlyTheSignRow : OpenClaim := { program := "qxb6603290a", sum := "f86f72c0528fc7c4a6e1fe3d1a41d93f86ea60d690160b81c6049e2cc8ca58ba", func := "example.com/statecraft/statecraft/zzlaws_pkg_machine_b1.FnRelationHoldsSeesOnlyTheSign", spec := "fnRelationHoldsSeesOnlyTheSign", apart := false }
def FnRelationHoldsSeesOnlyTheSignSaid : Prop := fnRelationHoldsSeesOnlyTheSignRow.holds Try.pinned (OpenSpec.ofChange fnRelationHoldsSeesOnlyTheSignSpec)

/-- ITS FALSE NEIGHBOUR: 'it returns false'. Refute it at one input. -/
def fnRelationHoldsSeesOnlyTheSignWrong : ChangeSpec := { name := "fnRelationHoldsSeesOnlyTheSign", fn := fun _ => fun
  | [d1, d2] => { results := [.lit (.bool false)], args := [d1, d2] }
  | _ => none }
def FnRelationHoldsSeesOnlyTheSignWrongFalsely : Prop := fnRelationHoldsSeesOnlyTheSignRow.holds Try.pinned (OpenSpec.ofChange fnRelationHoldsSeesOnlyTheSignWrong)

/-- 'zzlaws_pkg_machine_b1.FnRelationHoldsTrichotomyAndConverse': WHATEVER THE INPUT: true; the input reads as it did. -/
def fnRelationHoldsTrichotomyAndConverseSpec : ChangeSpec := { name := "fnRelationHoldsTrichotomyAndConverse", fn := fun _ => fun
  | [d] => { results := [.lit (.bool true)], args := [d] }
  | _ => none }
def fnRelationHoldsTrichotomyAndConverseRow : OpenClaim := { program := "qxb6603290a", sum := "f86f72c0528fc7c4a6e1fe3d1a41d93f86ea60d690160b81c6049e2cc8ca58ba", func := "example.com/statecraft/statecraft/zzlaws_pkg_machine_b1.FnRelationHoldsTrichotomyAndConverse", spec := "fnRelationHoldsTrichotomyAndConverse", apart := false }
def FnRelationHoldsTrichotomyAndConverseSaid : Prop := fnRelationHoldsTrichotomyAndConverseRow.holds Try.pinned (OpenSpec.ofChange fnRelationHoldsTrichotomyAndConverseSpec)

/-- ITS FALSE NEIGHBOUR: 'it returns false'. Refute it at one input. -/
def fnRelationHoldsTrichotomyAndConverseWrong : ChangeSpec := { name := "fnRelationHoldsTrichotomyAndConverse", fn := fun _ => fun
  | [d] => { results := [.lit (.bool false)], args := [d] }
  | _ => none }
def FnRelationHoldsTrichotomyAndConverseWrongFalsely : Prop := fnRelationHoldsTrichotomyAndConverseRow.holds Try.pinned (OpenSpec.ofChange fnRelationHoldsTrichotomyAndConverseWrong)

end Rows
end Go.Proofs.Qxb6603290a
