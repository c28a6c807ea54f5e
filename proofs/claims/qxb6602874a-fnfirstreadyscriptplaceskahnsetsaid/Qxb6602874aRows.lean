/-
  No cell of these rows narrows 'for every input' (looked for: loops, veiled, ifaces, maps, wideKeys, modest, calm, conditions, laid).
  DERIVED. THE GIVEN ROWS OF THIS SEAT. 4 by the template 'for every input the law returns true; each argument reads behind the call as it read before'; 0 by the template 'total and deterministic' (their statements: Qxb6602874aTotals.lean).
  GIVEN WITH THE SEED: the statements are not yours to turn. If you find one false, say at which input.
  Laid BY PROGRAM, IN A SANDBOX (cutbox-rows.mjs): the forced cells as the released guide's own fill.sh prints them over the translation 88334ecd7d9444b9… (all of the seat's roots in one cut). By AI agents, Wed Nov 11 2026. No macro, syntax, notation, axiom, sorry.
-/
import Derived.Test.Qxb6602874aChecked
import GoSem.Claim
import GoSem.ClaimJoined
import GoSem.ClaimMapViews
import Derived.JoinedTies
import Derived.KernelRfl
namespace Go.Proofs.Qxb6602874a
/- THE CELL 'sum', in the pinned program and in every row, IS THE sha256 OF THE DUMP (.gsa) THAT Qxb6602874aProg.lean LOADS. Nothing in Lean hashes anything: it is a label: what it is worth is what the hold of that sum in a sandbox is worth. -/
noncomputable def Try.pinned : Pinned := { name := "qxb6602874a", sum := "88334ecd7d9444b9348dfdf0e15a6f7701c8501d769dcb2f9908b92b31a13059", checked := Try.checked }
namespace Rows
def none {H : Type} : Left H := { results := [], args := [] }

/-- 'zzlaws_root_b1.FnFirstReadyIsLeastReady': WHATEVER THE INPUT: true; the input reads as it did. -/
def fnFirstReadyIsLeastReadySpec : ChangeSpec := { name := "fnFirstReadyIsLeastReady", fn := fun _ => fun
  | [d1, d2] => { results := [.lit (.bool true)], args := [d1, d2] }
  | _ => none }
def fnFirstReadyIsLeastReadyRow : OpenClaim := { program := "qxb6602874a", sum := "88334ecd7d9444b9348dfdf0e15a6f7701c8501d769dcb2f9908b92b31a13059", func := "example.com/cardea/cardea/zzlaws_root_b1.FnFirstReadyIsLeastReady", spec := "fnFirstReadyIsLeastReady", apart := false }
def FnFirstReadyIsLeastReadySaid : Prop := fnFirstReadyIsLeastReadyRow.holds Try.pinned (OpenSpec.ofChange fnFirstReadyIsLeastReadySpec)

/-- ITS FALSE NEIGHBOUR: 'it returns false'. Refute it at one input. -/
def fnFirstReadyIsLeastReadyWrong : ChangeSpec := { name := "fnFirstReadyIsLeastReady", fn := fun _ => fun
  | [d1, d2] => { results := [.lit (.bool false)], args := [d1, d2] }
  | _ => none }
def FnFirstReadyIsLeastReadyWrongFalsely : Prop := fnFirstReadyIsLeastReadyRow.holds Try.pinned (OpenSpec.ofChange fnFirstReadyIsLeastReadyWrong)

/-- 'zzlaws_root_b1.FnFirstReadyScriptPlacesKahnSet': WHATEVER THE INPUT: true; the input reads as it did. -/
def fnFirstReadyScriptPlacesKahnSetSpec : ChangeSpec := { name := "fnFirstReadyScriptPlacesKahnSet", fn := fun _ => fun
  | [d1, d2] => { results := [.lit (.bool true)], args := [d1, d2] }
  | _ => none }
def fnFirstReadyScriptPlacesKahnSetRow : OpenClaim := { program := "qxb6602874a", sum := "88334ecd7d9444b9348dfdf0e15a6f7701c8501d769dcb2f9908b92b31a13059", func := "example.com/cardea/cardea/zzlaws_root_b1.FnFirstReadyScriptPlacesKahnSet", spec := "fnFirstReadyScriptPlacesKahnSet", apart := false }
def FnFirstReadyScriptPlacesKahnSetSaid : Prop := fnFirstReadyScriptPlacesKahnSetRow.holds Try.pinned (OpenSpec.ofChange fnFirstReadyScriptPlacesKahnSetSpec)

/-- ITS FALSE NEIGHBOUR: 'it returns false'. Refute it at one input. -/
def fnFirstReadyScriptPlacesKahnSetWrong : ChangeSpec := { name := "fnFirstReadyScriptPlacesKahnSet", fn := fun _ => fun
  | [d1, d2] => { results := [.lit (.bool false)], args := [d1, d2] }
  | _ => none }
def FnFirstReadyScriptPlacesKahnSetWrongFalsely : Prop := fnFirstReadyScriptPlacesKahnSetRow.holds Try.pinned (OpenSpec.ofChange fnFirstReadyScriptPlacesKahnSetWrong)

/-- 'zzlaws_root_b1.FnDependOnIsReachability': WHATEVER THE INPUT: true; the input reads as it did. -/
def fnDependOnIsReachabilitySpec : ChangeSpec := { name := "fnDependOnIsReachability", fn := fun _ => fun
  | [d1, d2, d3] => { results := [.lit (.bool true)], args := [d1, d2, d3] }
  | _ => none }
def fnDependOnIsReachabilityRow : OpenClaim := { program := "qxb6602874a", sum := "88334ecd7d9444b9348dfdf0e15a6f7701c8501d769dcb2f9908b92b31a13059", func := "example.com/cardea/cardea/zzlaws_root_b1.FnDependOnIsReachability", spec := "fnDependOnIsReachability", apart := false }
def FnDependOnIsReachabilitySaid : Prop := fnDependOnIsReachabilityRow.holds Try.pinned (OpenSpec.ofChange fnDependOnIsReachabilitySpec)

/-- ITS FALSE NEIGHBOUR: 'it returns false'. Refute it at one input. -/
def fnDependOnIsReachabilityWrong : ChangeSpec := { name := "fnDependOnIsReachability", fn := fun _ => fun
  | [d1, d2, d3] => { results := [.lit (.bool false)], args := [d1, d2, d3] }
  | _ => none }
def FnDependOnIsReachabilityWrongFalsely : Prop := fnDependOnIsReachabilityRow.holds Try.pinned (OpenSpec.ofChange fnDependOnIsReachabilityWrong)

/-- 'zzlaws_root_b1.FnDependOnMonotoneInMarked': WHATEVER THE INPUT: true; the input reads as it did. -/
def fnDependOnMonotoneInMarkedSpec : ChangeSpec := { name := "fnDependOnMonotoneInMarked", fn := fun _ => fun
  | [d1, d2, d3, d4] => { results := [.lit (.bool true)], args := [d1, d2, d3, d4] }
  | _ => none }
def fnDependOnMonotoneInMarkedRow : OpenClaim := { program := "qxb6602874a", sum := "88334ecd7d9444b9348dfdf0e15a6f7701c8501d769dcb2f9908b92b31a13059", func := "example.com/cardea/cardea/zzlaws_root_b1.FnDependOnMonotoneInMarked", spec := "fnDependOnMonotoneInMarked", apart := false }
def FnDependOnMonotoneInMarkedSaid : Prop := fnDependOnMonotoneInMarkedRow.holds Try.pinned (OpenSpec.ofChange fnDependOnMonotoneInMarkedSpec)

/-- ITS FALSE NEIGHBOUR: 'it returns false'. Refute it at one input. -/
def fnDependOnMonotoneInMarkedWrong : ChangeSpec := { name := "fnDependOnMonotoneInMarked", fn := fun _ => fun
  | [d1, d2, d3, d4] => { results := [.lit (.bool false)], args := [d1, d2, d3, d4] }
  | _ => none }
def FnDependOnMonotoneInMarkedWrongFalsely : Prop := fnDependOnMonotoneInMarkedRow.holds Try.pinned (OpenSpec.ofChange fnDependOnMonotoneInMarkedWrong)

end Rows
end Go.Proofs.Qxb6602874a
