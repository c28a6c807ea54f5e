/-
  No cell of these rows narrows 'for every input' (looked for: loops, veiled, ifaces, maps, wideKeys, modest, calm, conditions, laid).
  DERIVED. THE GIVEN ROWS OF THIS SEAT. 5 by the template 'for every input the law returns true; each argument reads behind the call as it read before'; 0 by the template 'total and deterministic' (their statements: Qxb6603002aTotals.lean).
  GIVEN WITH THE SEED: the statements are not yours to turn. If you find one false, say at which input.
  Laid BY PROGRAM, IN A SANDBOX (cutbox-rows.mjs): the forced cells as the released guide's own fill.sh prints them over the translation fe48f9932735f753… (all of the seat's roots in one cut). By AI agents, Wed Nov 11 2026. No macro, syntax, notation, axiom, sorry.
-/
import Derived.Test.Qxb6603002aChecked
import GoSem.Claim
import GoSem.ClaimJoined
import GoSem.ClaimMapViews
import Derived.JoinedTies
import Derived.KernelRfl
namespace Go.Proofs.Qxb6603002a
/- THE CELL 'sum', in the pinned program and in every row, IS THE sha256 OF THE DUMP (.gsa) THAT Qxb6603002aProg.lean LOADS. Nothing in Lean hashes anything: it is a label: what it is worth is what the hold of that sum in a sandbox is worth. -/
noncomputable def Try.pinned : Pinned := { name := "qxb6603002a", sum := "fe48f9932735f753d825fcd1c261953ad040b15191cd63ce391d968077dbe9bb", checked := Try.checked }
namespace Rows
def none {H : Type} : Left H := { results := [], args := [] }

/-- 'zzlaws_root_b1.FnBlankCommentsMatchesScanner': WHATEVER THE INPUT: true; the input reads as it did. -/
def fnBlankCommentsMatchesScannerSpec : ChangeSpec := { name := "fnBlankCommentsMatchesScanner", fn := fun _ => fun
  | [d] => { results := [.lit (.bool true)], args := [d] }
  | _ => none }
def fnBlankCommentsMatchesScannerRow : OpenClaim := { program := "qxb6603002a", sum := "fe48f9932735f753d825fcd1c261953ad040b15191cd63ce391d968077dbe9bb", func := "example.com/sealpack/sealpack/zzlaws_root_b1.FnBlankCommentsMatchesScanner", spec := "fnBlankCommentsMatchesScanner", inPlace := ["internal/bytealg.IndexByte", "internal/bytealg.Index"], named := ["internal/bytealg.MaxLen"], apart := false }
def FnBlankCommentsMatchesScannerSaid : Prop := fnBlankCommentsMatchesScannerRow.holds Try.pinned (OpenSpec.ofChange fnBlankCommentsMatchesScannerSpec)

/-- ITS FALSE NEIGHBOUR: 'it returns false'. Refute it at one input. -/
def fnBlankCommentsMatchesScannerWrong : ChangeSpec := { name := "fnBlankCommentsMatchesScanner", fn := fun _ => fun
  | [d] => { results := [.lit (.bool false)], args := [d] }
  | _ => none }
def FnBlankCommentsMatchesScannerWrongFalsely : Prop := fnBlankCommentsMatchesScannerRow.holds Try.pinned (OpenSpec.ofChange fnBlankCommentsMatchesScannerWrong)

/-- 'zzlaws_root_b1.FnBlankCommentsIdempotent': WHATEVER THE INPUT: true; the input reads as it did. -/
def fnBlankCommentsIdempotentSpec : ChangeSpec := { name := "fnBlankCommentsIdempotent", fn := fun _ => fun
  | [d] => { results := [.lit (.bool true)], args := [d] }
  | _ => none }
def fnBlankCommentsIdempotentRow : OpenClaim := { program := "qxb6603002a", sum := "fe48f9932735f753d825fcd1c261953ad040b15191cd63ce391d968077dbe9bb", func := "example.com/sealpack/sealpack/zzlaws_root_b1.FnBlankCommentsIdempotent", spec := "fnBlankCommentsIdempotent", inPlace := ["internal/bytealg.IndexByte", "internal/bytealg.Index"], named := ["internal/bytealg.MaxLen"], apart := false }
def FnBlankCommentsIdempotentSaid : Prop := fnBlankCommentsIdempotentRow.holds Try.pinned (OpenSpec.ofChange fnBlankCommentsIdempotentSpec)

/-- ITS FALSE NEIGHBOUR: 'it returns false'. Refute it at one input. -/
def fnBlankCommentsIdempotentWrong : ChangeSpec := { name := "fnBlankCommentsIdempotent", fn := fun _ => fun
  | [d] => { results := [.lit (.bool false)], args := [d] }
  | _ => none }
def FnBlankCommentsIdempotentWrongFalsely : Prop := fnBlankCommentsIdempotentRow.holds Try.pinned (OpenSpec.ofChange fnBlankCommentsIdempotentWrong)

/-- 'zzlaws_root_b1.FnValueEndMatchesDescent': WHATEVER THE INPUT: true; the input reads as it did. -/
def fnValueEndMatchesDescentSpec : ChangeSpec := { name := "fnValueEndMatchesDescent", fn := fun _ => fun
  | [d1, d2] => { results := [.lit (.bool true)], args := [d1, d2] }
  | _ => none }
def fnValueEndMatchesDescentRow : OpenClaim := { program := "qxb6603002a", sum := "fe48f9932735f753d825fcd1c261953ad040b15191cd63ce391d968077dbe9bb", func := "example.com/sealpack/sealpack/zzlaws_root_b1.FnValueEndMatchesDescent", spec := "fnValueEndMatchesDescent", recurses := true, apart := false }
def FnValueEndMatchesDescentSaid : Prop := fnValueEndMatchesDescentRow.holds Try.pinned (OpenSpec.ofChange fnValueEndMatchesDescentSpec)

/-- ITS FALSE NEIGHBOUR: 'it returns false'. Refute it at one input. -/
def fnValueEndMatchesDescentWrong : ChangeSpec := { name := "fnValueEndMatchesDescent", fn := fun _ => fun
  | [d1, d2] => { results := [.lit (.bool false)], args := [d1, d2] }
  | _ => none }
def FnValueEndMatchesDescentWrongFalsely : Prop := fnValueEndMatchesDescentRow.holds Try.pinned (OpenSpec.ofChange fnValueEndMatchesDescentWrong)

/-- 'zzlaws_root_b1.FnValueEndShiftInvariant': WHATEVER THE INPUT: true; the input reads as it did. -/
def fnValueEndShiftInvariantSpec : ChangeSpec := { name := "fnValueEndShiftInvariant", fn := fun _ => fun
  | [d1, d2] => { results := [.lit (.bool true)], args := [d1, d2] }
  | _ => none }
def fnValueEndShiftInvariantRow : OpenClaim := { program := "qxb6603002a", sum := "fe48f9932735f753d825fcd1c261953ad040b15191cd63ce391d968077dbe9bb", func := "example.com/sealpack/sealpack/zzlaws_root_b1.FnValueEndShiftInvariant", spec := "fnValueEndShiftInvariant", apart := false }
def FnValueEndShiftInvariantSaid : Prop := fnValueEndShiftInvariantRow.holds Try.pinned (OpenSpec.ofChange fnValueEndShiftInvariantSpec)

/-- ITS FALSE NEIGHBOUR: 'it returns false'. Refute it at one input. -/
def fnValueEndShiftInvariantWrong : ChangeSpec := { name := "fnValueEndShiftInvariant", fn := fun _ => fun
  | [d1, d2] => { results := [.lit (.bool false)], args := [d1, d2] }
  | _ => none }
def FnValueEndShiftInvariantWrongFalsely : Prop := fnValueEndShiftInvariantRow.holds Try.pinned (OpenSpec.ofChange fnValueEndShiftInvariantWrong)

/-- 'zzlaws_root_b1.FnValueEndReadsNothingPast': WHATEVER THE INPUT: true; the input reads as it did. -/
def fnValueEndReadsNothingPastSpec : ChangeSpec := { name := "fnValueEndReadsNothingPast", fn := fun _ => fun
  | [d1, d2, d3] => { results := [.lit (.bool true)], args := [d1, d2, d3] }
  | _ => none }
def fnValueEndReadsNothingPastRow : OpenClaim := { program := "qxb6603002a", sum := "fe48f9932735f753d825fcd1c261953ad040b15191cd63ce391d968077dbe9bb", func := "example.com/sealpack/sealpack/zzlaws_root_b1.FnValueEndReadsNothingPast", spec := "fnValueEndReadsNothingPast", apart := false }
def FnValueEndReadsNothingPastSaid : Prop := fnValueEndReadsNothingPastRow.holds Try.pinned (OpenSpec.ofChange fnValueEndReadsNothingPastSpec)

/-- ITS FALSE NEIGHBOUR: 'it returns false'. Refute it at one input. -/
def fnValueEndReadsNothingPastWrong : ChangeSpec := { name := "fnValueEndReadsNothingPast", fn := fun _ => fun
  | [d1, d2, d3] => { results := [.lit (.bool false)], args := [d1, d2, d3] }
  | _ => none }
def FnValueEndReadsNothingPastWrongFalsely : Prop := fnValueEndReadsNothingPastRow.holds Try.pinned (OpenSpec.ofChange fnValueEndReadsNothingPastWrong)

end Rows
end Go.Proofs.Qxb6603002a
