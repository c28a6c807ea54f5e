/-
  No cell of these rows narrows 'for every input' (looked for: loops, veiled, ifaces, maps, wideKeys, modest, calm, conditions, laid).
  DERIVED. THE GIVEN ROWS OF THIS SEAT. 1 by the template 'for every input the law returns true; each argument reads behind the call as it read before'; 0 by the template 'total and deterministic' (their statements: Qxb6604277aTotals.lean).
  GIVEN WITH THE SEED: the statements are not yours to turn. If you find one false, say at which input.
  Laid BY PROGRAM, IN A SANDBOX (cutbox-rows.mjs): the forced cells as the released guide's own fill.sh prints them over the translation 0c8bcf3ac8b0a3ad… (all of the seat's roots in one cut). By AI agents, Wed Nov 11 2026. No macro, syntax, notation, axiom, sorry.
-/
import Derived.Test.Qxb6604277aChecked
import GoSem.Claim
import GoSem.ClaimJoined
import GoSem.ClaimMapViews
import Derived.JoinedTies
import Derived.KernelRfl
namespace Go.Proofs.Qxb6604277a
/- THE CELL 'sum', in the pinned program and in every row, IS THE sha256 OF THE DUMP (.gsa) THAT Qxb6604277aProg.lean LOADS. Nothing in Lean hashes anything: it is a label: what it is worth is what the hold of that sum in a sandbox is worth. -/
noncomputable def Try.pinned : Pinned := { name := "qxb6604277a", sum := "0c8bcf3ac8b0a3adec7452113caf177a8647b3fdb8560cfa7949ee6700520098", checked := Try.checked }
namespace Rows
def none {H : Type} : Left H := { results := [], args := [] }

/-- 'zzlaws_pattern_b1.FnNameLengthIsLongestNamePrefix': WHATEVER THE INPUT: true; the input reads as it did. -/
def fnNameLengthIsLongestNamePrefixSpec : ChangeSpec := { name := "fnNameLengthIsLongestNamePrefix", fn := fun _ => fun
  | [d] => { results := [.lit (.bool true)], args := [d] }
  | _ => none }
def fnNameLengthIsLongestNamePrefixRow : OpenClaim := { program := "qxb6604277a", sum := "0c8bcf3ac8b0a3adec7452113caf177a8647b3fdb8560cfa7949ee6700520098", func := "example.com/mailstride/mailstride/zzlaws_pattern_b1.FnNameLengthIsLongestNamePrefix", spec := "fnNameLengthIsLongestNamePrefix", apart := false }
def FnNameLengthIsLongestNamePrefixSaid : Prop := fnNameLengthIsLongestNamePrefixRow.holds Try.pinned (OpenSpec.ofChange fnNameLengthIsLongestNamePrefixSpec)

/-- ITS FALSE NEIGHBOUR: 'it returns false'. Refute it at one input. -/
def fnNameLengthIsLongestNamePrefixWrong : ChangeSpec := { name := "fnNameLengthIsLongestNamePrefix", fn := fun _ => fun
  | [d] => { results := [.lit (.bool false)], args := [d] }
  | _ => none }
def FnNameLengthIsLongestNamePrefixWrongFalsely : Prop := fnNameLengthIsLongestNamePrefixRow.holds Try.pinned (OpenSpec.ofChange fnNameLengthIsLongestNamePrefixWrong)

end Rows
end Go.Proofs.Qxb6604277a
