/-
  No cell of these rows narrows 'for every input' (looked for: loops, veiled, ifaces, maps, wideKeys, modest, calm, conditions, laid).
  DERIVED. THE GIVEN ROWS OF THIS SEAT. 2 by the template 'for every input the law returns true; each argument reads behind the call as it read before'; 0 by the template 'total and deterministic' (their statements: Qxb6603238aTotals.lean).
  GIVEN WITH THE SEED: the statements are not yours to turn. If you find one false, say at which input.
  Laid BY PROGRAM, IN A SANDBOX (cutbox-rows.mjs): the forced cells as the released guide's own fill.sh prints them over the translation 811689c4dc951a0a… (all of the seat's roots in one cut). By AI agents, Wed Nov 11 2026. No macro, syntax, notation, axiom, sorry.
-/
import Derived.Test.Qxb6603238aChecked
import GoSem.Claim
import GoSem.ClaimJoined
import GoSem.ClaimMapViews
import Derived.JoinedTies
import Derived.KernelRfl
namespace Go.Proofs.Qxb6603238a
/- THE CELL 'sum', in the pinned program and in every row, IS THE sha256 OF THE DUMP (.gsa) THAT Qxb6603238aProg.lean LOADS. Nothing in Lean hashes anything: it is a label: what it is worth is what the hold of that sum in a sandbox is worth. -/
noncomputable def Try.pinned : Pinned := { name := "qxb6603238a", sum := "811689c4dc951a0ac0ad58c2778d42f90a64910e4e1dffaa86ca2a62f46198f7", checked := Try.checked }
namespace Rows
def none {H : Type} : Left H := { results := [], args := [] }

/-- 'zzlaws_pkg_quantity_b1.FnCanonicalLengthIsTheLengthOfTheLaidOutText': WHATEVER THE INPUT: true; the input reads as it did. -/
def fnCanonicalLengthIsTheLengthOfTheLaidOutTextSpec : ChangeSpec := { name := "fnCanonicalLengthIsTheLengthOfTheLaidOutText", fn := fun _ => fun
  | [d1, d2, d3] => { results := [.lit (.bool true)], args := [d1, d2, d3] }
  | _ => none }
def fnCanonicalLengthIsTheLengthOfTheLaidOutTextRow : OpenClaim := { program := "qxb6603238a", sum := "811689c4dc951a0ac0ad58c2778d42f90a64910e4e1dffaa86ca2a62f46198f7", func := "example.com/bill-by-usage/bill-by-usage/zzlaws_pkg_quantity_b1.FnCanonicalLengthIsTheLengthOfTheLaidOutText", spec := "fnCanonicalLengthIsTheLengthOfTheLaidOutText", apart := false }
def FnCanonicalLengthIsTheLengthOfTheLaidOutTextSaid : Prop := fnCanonicalLengthIsTheLengthOfTheLaidOutTextRow.holds Try.pinned (OpenSpec.ofChange fnCanonicalLengthIsTheLengthOfTheLaidOutTextSpec)

/-- ITS FALSE NEIGHBOUR: 'it returns false'. Refute it at one input. -/
def fnCanonicalLengthIsTheLengthOfTheLaidOutTextWrong : ChangeSpec := { name := "fnCanonicalLengthIsTheLengthOfTheLaidOutText", fn := fun _ => fun
  | [d1, d2, d3] => { results := [.lit (.bool false)], args := [d1, d2, d3] }
  | _ => none }
def FnCanonicalLengthIsTheLengthOfTheLaidOutTextWrongFalsely : Prop := fnCanonicalLengthIsTheLengthOfTheLaidOutTextRow.holds Try.pinned (OpenSpec.ofChange fnCanonicalLengthIsTheLengthOfTheLaidOutTextWrong)

/-- 'zzlaws_pkg_quantity_b1.FnCanonicalLengthGrowsAwayFromTheDigits': WHATEVER THE INPUT: true; the input reads as it did. -/
def fnCanonicalLengthGrowsAwayFromTheDigitsSpec : ChangeSpec := { name := "fnCanonicalLengthGrowsAwayFromTheDigits", fn := fun _ => fun
  | [d1, d2, d3] => { results := [.lit (.bool true)], args := [d1, d2, d3] }
  | _ => none }
def fnCanonicalLengthGrowsAwayFromTheDigitsRow : OpenClaim := { program := "qxb6603238a", sum := "811689c4dc951a0ac0ad58c2778d42f90a64910e4e1dffaa86ca2a62f46198f7", func := "example.com/bill-by-usage/bill-by-usage/zzlaws_pkg_quantity_b1.FnCanonicalLengthGrowsAwayFromTheDigits", spec := "fnCanonicalLengthGrowsAwayFromTheDigits", apart := false }
def FnCanonicalLengthGrowsAwayFromTheDigitsSaid : Prop := fnCanonicalLengthGrowsAwayFromTheDigitsRow.holds Try.pinned (OpenSpec.ofChange fnCanonicalLengthGrowsAwayFromTheDigitsSpec)

/-- ITS FALSE NEIGHBOUR: 'it returns false'. Refute it at one input. -/
def fnCanonicalLengthGrowsAwayFromTheDigitsWrong : ChangeSpec := { name := "fnCanonicalLengthGrowsAwayFromTheDigits", fn := fun _ => fun
  | [d1, d2, d3] => { results := [.lit (.bool false)], args := [d1, d2, d3] }
  | _ => none }
def FnCanonicalLengthGrowsAwayFromTheDigitsWrongFalsely : Prop := fnCanonicalLengthGrowsAwayFromTheDigitsRow.holds Try.pinned (OpenSpec.ofChange fnCanonicalLengthGrowsAwayFromTheDigitsWrong)

end Rows
end Go.Proofs.Qxb6603238a
