/-
  No cell of these rows narrows 'for every input' (looked for: loops, veiled, ifaces, maps, wideKeys, modest, calm, conditions, laid).
  DERIVED. THE GIVEN ROWS OF THIS SEAT. 5 by the template 'for every input the law returns true; each argument reads behind the call as it read before'; 0 by the template 'total and deterministic' (their statements: Qxb6603220aTotals.lean).
  GIVEN WITH THE SEED: the statements are not yours to turn. If you find one false, say at which input.
  Laid BY PROGRAM, IN A SANDBOX (cutbox-rows.mjs): the forced cells as the released guide's own fill.sh prints them over the translation 09aae169fe496bee… (all of the seat's roots in one cut). By AI agents, Wed Nov 11 2026. No macro, syntax, notation, axiom, sorry.
-/
import Derived.Test.Qxb6603220aChecked
import GoSem.Claim
import GoSem.ClaimJoined
import GoSem.ClaimMapViews
import Derived.JoinedTies
import Derived.KernelRfl
namespace Go.Proofs.Qxb6603220a
/- THE CELL 'sum', in the pinned program and in every row, IS THE sha256 OF THE DUMP (.gsa) THAT Qxb6603220aProg.lean LOADS. Nothing in Lean hashes anything: it is a label: what it is worth is what the hold of that sum in a sandbox is worth. -/
noncomputable def Try.pinned : Pinned := { name := "qxb6603220a", sum := "09aae169fe496bee1787d89a39cd8875728731327d50a74e813fd553a966ce01", checked := Try.checked }
namespace Rows
def none {H : Type} : Left H := { results := [], args := [] }

/-- 'zzlaws_tree_b1.FnAppendTextMatchesModel': WHATEVER THE INPUT: true; the input reads as it did. -/
def fnAppendTextMatchesModelSpec : ChangeSpec := { name := "fnAppendTextMatchesModel", fn := fun _ => fun
  | [d1, d2] => { results := [.lit (.bool true)], args := [d1, d2] }
  | _ => none }
def fnAppendTextMatchesModelRow : OpenClaim := { program := "qxb6603220a", sum := "09aae169fe496bee1787d89a39cd8875728731327d50a74e813fd553a966ce01", func := "example.com/varuna/varuna/zzlaws_tree_b1.FnAppendTextMatchesModel", spec := "fnAppendTextMatchesModel", unfollowed := true, recurses := true, apart := false }
def FnAppendTextMatchesModelSaid : Prop := fnAppendTextMatchesModelRow.holds Try.pinned (OpenSpec.ofChange fnAppendTextMatchesModelSpec)

/-- ITS FALSE NEIGHBOUR: 'it returns false'. Refute it at one input. -/
def fnAppendTextMatchesModelWrong : ChangeSpec := { name := "fnAppendTextMatchesModel", fn := fun _ => fun
  | [d1, d2] => { results := [.lit (.bool false)], args := [d1, d2] }
  | _ => none }
def FnAppendTextMatchesModelWrongFalsely : Prop := fnAppendTextMatchesModelRow.holds Try.pinned (OpenSpec.ofChange fnAppendTextMatchesModelWrong)

/-- 'zzlaws_tree_b1.FnHoldsIsNamePrefix': WHATEVER THE INPUT: true; the input reads as it did. -/
def fnHoldsIsNamePrefixSpec : ChangeSpec := { name := "fnHoldsIsNamePrefix", fn := fun _ => fun
  | [d1, d2] => { results := [.lit (.bool true)], args := [d1, d2] }
  | _ => none }
def fnHoldsIsNamePrefixRow : OpenClaim := { program := "qxb6603220a", sum := "09aae169fe496bee1787d89a39cd8875728731327d50a74e813fd553a966ce01", func := "example.com/varuna/varuna/zzlaws_tree_b1.FnHoldsIsNamePrefix", spec := "fnHoldsIsNamePrefix", apart := false }
def FnHoldsIsNamePrefixSaid : Prop := fnHoldsIsNamePrefixRow.holds Try.pinned (OpenSpec.ofChange fnHoldsIsNamePrefixSpec)

/-- ITS FALSE NEIGHBOUR: 'it returns false'. Refute it at one input. -/
def fnHoldsIsNamePrefixWrong : ChangeSpec := { name := "fnHoldsIsNamePrefix", fn := fun _ => fun
  | [d1, d2] => { results := [.lit (.bool false)], args := [d1, d2] }
  | _ => none }
def FnHoldsIsNamePrefixWrongFalsely : Prop := fnHoldsIsNamePrefixRow.holds Try.pinned (OpenSpec.ofChange fnHoldsIsNamePrefixWrong)

/-- 'zzlaws_tree_b1.FnHoldsOnSharedLinks': WHATEVER THE INPUT: true; the input reads as it did. -/
def fnHoldsOnSharedLinksSpec : ChangeSpec := { name := "fnHoldsOnSharedLinks", fn := fun _ => fun
  | [d1, d2, d3] => { results := [.lit (.bool true)], args := [d1, d2, d3] }
  | _ => none }
def fnHoldsOnSharedLinksRow : OpenClaim := { program := "qxb6603220a", sum := "09aae169fe496bee1787d89a39cd8875728731327d50a74e813fd553a966ce01", func := "example.com/varuna/varuna/zzlaws_tree_b1.FnHoldsOnSharedLinks", spec := "fnHoldsOnSharedLinks", apart := false }
def FnHoldsOnSharedLinksSaid : Prop := fnHoldsOnSharedLinksRow.holds Try.pinned (OpenSpec.ofChange fnHoldsOnSharedLinksSpec)

/-- ITS FALSE NEIGHBOUR: 'it returns false'. Refute it at one input. -/
def fnHoldsOnSharedLinksWrong : ChangeSpec := { name := "fnHoldsOnSharedLinks", fn := fun _ => fun
  | [d1, d2, d3] => { results := [.lit (.bool false)], args := [d1, d2, d3] }
  | _ => none }
def FnHoldsOnSharedLinksWrongFalsely : Prop := fnHoldsOnSharedLinksRow.holds Try.pinned (OpenSpec.ofChange fnHoldsOnSharedLinksWrong)

/-- 'zzlaws_tree_b1.FnHoldsThenTextIsPrefix': WHATEVER THE INPUT: true; the input reads as it did. -/
def fnHoldsThenTextIsPrefixSpec : ChangeSpec := { name := "fnHoldsThenTextIsPrefix", fn := fun _ => fun
  | [d1, d2] => { results := [.lit (.bool true)], args := [d1, d2] }
  | _ => none }
def fnHoldsThenTextIsPrefixRow : OpenClaim := { program := "qxb6603220a", sum := "09aae169fe496bee1787d89a39cd8875728731327d50a74e813fd553a966ce01", func := "example.com/varuna/varuna/zzlaws_tree_b1.FnHoldsThenTextIsPrefix", spec := "fnHoldsThenTextIsPrefix", unfollowed := true, recurses := true, apart := false }
def FnHoldsThenTextIsPrefixSaid : Prop := fnHoldsThenTextIsPrefixRow.holds Try.pinned (OpenSpec.ofChange fnHoldsThenTextIsPrefixSpec)

/-- ITS FALSE NEIGHBOUR: 'it returns false'. Refute it at one input. -/
def fnHoldsThenTextIsPrefixWrong : ChangeSpec := { name := "fnHoldsThenTextIsPrefix", fn := fun _ => fun
  | [d1, d2] => { results := [.lit (.bool false)], args := [d1, d2] }
  | _ => none }
def FnHoldsThenTextIsPrefixWrongFalsely : Prop := fnHoldsThenTextIsPrefixRow.holds Try.pinned (OpenSpec.ofChange fnHoldsThenTextIsPrefixWrong)

/-- 'zzlaws_tree_b1.FnAddCountsMatchOpenNodes': WHATEVER THE INPUT: true; the input reads as it did. -/
def fnAddCountsMatchOpenNodesSpec : ChangeSpec := { name := "fnAddCountsMatchOpenNodes", fn := fun _ => fun
  | [d1, d2] => { results := [.lit (.bool true)], args := [d1, d2] }
  | _ => none }
def fnAddCountsMatchOpenNodesRow : OpenClaim := { program := "qxb6603220a", sum := "09aae169fe496bee1787d89a39cd8875728731327d50a74e813fd553a966ce01", func := "example.com/varuna/varuna/zzlaws_tree_b1.FnAddCountsMatchOpenNodes", spec := "fnAddCountsMatchOpenNodes", recurses := true, apart := false }
def FnAddCountsMatchOpenNodesSaid : Prop := fnAddCountsMatchOpenNodesRow.holds Try.pinned (OpenSpec.ofChange fnAddCountsMatchOpenNodesSpec)

/-- ITS FALSE NEIGHBOUR: 'it returns false'. Refute it at one input. -/
def fnAddCountsMatchOpenNodesWrong : ChangeSpec := { name := "fnAddCountsMatchOpenNodes", fn := fun _ => fun
  | [d1, d2] => { results := [.lit (.bool false)], args := [d1, d2] }
  | _ => none }
def FnAddCountsMatchOpenNodesWrongFalsely : Prop := fnAddCountsMatchOpenNodesRow.holds Try.pinned (OpenSpec.ofChange fnAddCountsMatchOpenNodesWrong)

end Rows
end Go.Proofs.Qxb6603220a
