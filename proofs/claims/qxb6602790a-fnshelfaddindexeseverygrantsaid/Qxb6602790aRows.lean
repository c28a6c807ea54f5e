/-
  No cell of these rows narrows 'for every input' (looked for: loops, veiled, ifaces, maps, wideKeys, modest, calm, conditions, laid).
  DERIVED. THE GIVEN ROWS OF THIS SEAT. 5 by the template 'for every input the law returns true; each argument reads behind the call as it read before'; 0 by the template 'total and deterministic' (their statements: Qxb6602790aTotals.lean).
  GIVEN WITH THE SEED: the statements are not yours to turn. If you find one false, say at which input.
  Laid BY PROGRAM, IN A SANDBOX (cutbox-rows.mjs): the forced cells as the released guide's own fill.sh prints them over the translation 8ae530663363827c… (all of the seat's roots in one cut). By AI agents, Wed Nov 11 2026. No macro, syntax, notation, axiom, sorry.
-/
import Derived.Test.Qxb6602790aChecked
import GoSem.Claim
import GoSem.ClaimJoined
import GoSem.ClaimMapViews
import Derived.JoinedTies
import Derived.KernelRfl
namespace Go.Proofs.Qxb6602790a
/- THE CELL 'sum', in the pinned program and in every row, IS THE sha256 OF THE DUMP (.gsa) THAT Qxb6602790aProg.lean LOADS. Nothing in Lean hashes anything: it is a label: what it is worth is what the hold of that sum in a sandbox is worth. -/
noncomputable def Try.pinned : Pinned := { name := "qxb6602790a", sum := "8ae530663363827ceefcbb2a343fe8af84eaf7a68e0886963b2c13d6e481cd1c", checked := Try.checked }
namespace Rows
def none {H : Type} : Left H := { results := [], args := [] }

/-- 'zzlaws_delegation_b1.FnQueryAskNumbersInFirstSeenOrder': WHATEVER THE INPUT: true; the input reads as it did. -/
def fnQueryAskNumbersInFirstSeenOrderSpec : ChangeSpec := { name := "fnQueryAskNumbersInFirstSeenOrder", fn := fun _ => fun
  | [d1, d2] => { results := [.lit (.bool true)], args := [d1, d2] }
  | _ => none }
def fnQueryAskNumbersInFirstSeenOrderRow : OpenClaim := { program := "qxb6602790a", sum := "8ae530663363827ceefcbb2a343fe8af84eaf7a68e0886963b2c13d6e481cd1c", func := "example.com/volmacht/volmacht/zzlaws_delegation_b1.FnQueryAskNumbersInFirstSeenOrder", spec := "fnQueryAskNumbersInFirstSeenOrder", recurses := true, plainKeys := false, apart := false }
def FnQueryAskNumbersInFirstSeenOrderSaid : Prop := fnQueryAskNumbersInFirstSeenOrderRow.holds Try.pinned (OpenSpec.ofChange fnQueryAskNumbersInFirstSeenOrderSpec)

/-- ITS FALSE NEIGHBOUR: 'it returns false'. Refute it at one input. -/
def fnQueryAskNumbersInFirstSeenOrderWrong : ChangeSpec := { name := "fnQueryAskNumbersInFirstSeenOrder", fn := fun _ => fun
  | [d1, d2] => { results := [.lit (.bool false)], args := [d1, d2] }
  | _ => none }
def FnQueryAskNumbersInFirstSeenOrderWrongFalsely : Prop := fnQueryAskNumbersInFirstSeenOrderRow.holds Try.pinned (OpenSpec.ofChange fnQueryAskNumbersInFirstSeenOrderWrong)

/-- 'zzlaws_delegation_b1.FnQueryAskOrderAndRepeatFree': WHATEVER THE INPUT: true; the input reads as it did. -/
def fnQueryAskOrderAndRepeatFreeSpec : ChangeSpec := { name := "fnQueryAskOrderAndRepeatFree", fn := fun _ => fun
  | [d1, d2] => { results := [.lit (.bool true)], args := [d1, d2] }
  | _ => none }
def fnQueryAskOrderAndRepeatFreeRow : OpenClaim := { program := "qxb6602790a", sum := "8ae530663363827ceefcbb2a343fe8af84eaf7a68e0886963b2c13d6e481cd1c", func := "example.com/volmacht/volmacht/zzlaws_delegation_b1.FnQueryAskOrderAndRepeatFree", spec := "fnQueryAskOrderAndRepeatFree", recurses := true, plainKeys := false, apart := false }
def FnQueryAskOrderAndRepeatFreeSaid : Prop := fnQueryAskOrderAndRepeatFreeRow.holds Try.pinned (OpenSpec.ofChange fnQueryAskOrderAndRepeatFreeSpec)

/-- ITS FALSE NEIGHBOUR: 'it returns false'. Refute it at one input. -/
def fnQueryAskOrderAndRepeatFreeWrong : ChangeSpec := { name := "fnQueryAskOrderAndRepeatFree", fn := fun _ => fun
  | [d1, d2] => { results := [.lit (.bool false)], args := [d1, d2] }
  | _ => none }
def FnQueryAskOrderAndRepeatFreeWrongFalsely : Prop := fnQueryAskOrderAndRepeatFreeRow.holds Try.pinned (OpenSpec.ofChange fnQueryAskOrderAndRepeatFreeWrong)

/-- 'zzlaws_delegation_b1.FnPostingKeepIsIntersection': WHATEVER THE INPUT: true; the input reads as it did. -/
def fnPostingKeepIsIntersectionSpec : ChangeSpec := { name := "fnPostingKeepIsIntersection", fn := fun _ => fun
  | [d1, d2, d3] => { results := [.lit (.bool true)], args := [d1, d2, d3] }
  | _ => none }
def fnPostingKeepIsIntersectionRow : OpenClaim := { program := "qxb6602790a", sum := "8ae530663363827ceefcbb2a343fe8af84eaf7a68e0886963b2c13d6e481cd1c", func := "example.com/volmacht/volmacht/zzlaws_delegation_b1.FnPostingKeepIsIntersection", spec := "fnPostingKeepIsIntersection", unfollowed := true, recurses := true, plainKeys := false, apart := false }
def FnPostingKeepIsIntersectionSaid : Prop := fnPostingKeepIsIntersectionRow.holds Try.pinned (OpenSpec.ofChange fnPostingKeepIsIntersectionSpec)

/-- ITS FALSE NEIGHBOUR: 'it returns false'. Refute it at one input. -/
def fnPostingKeepIsIntersectionWrong : ChangeSpec := { name := "fnPostingKeepIsIntersection", fn := fun _ => fun
  | [d1, d2, d3] => { results := [.lit (.bool false)], args := [d1, d2, d3] }
  | _ => none }
def FnPostingKeepIsIntersectionWrongFalsely : Prop := fnPostingKeepIsIntersectionRow.holds Try.pinned (OpenSpec.ofChange fnPostingKeepIsIntersectionWrong)

/-- 'zzlaws_delegation_b1.FnPostingKeepIdempotent': WHATEVER THE INPUT: true; the input reads as it did. -/
def fnPostingKeepIdempotentSpec : ChangeSpec := { name := "fnPostingKeepIdempotent", fn := fun _ => fun
  | [d1, d2, d3] => { results := [.lit (.bool true)], args := [d1, d2, d3] }
  | _ => none }
def fnPostingKeepIdempotentRow : OpenClaim := { program := "qxb6602790a", sum := "8ae530663363827ceefcbb2a343fe8af84eaf7a68e0886963b2c13d6e481cd1c", func := "example.com/volmacht/volmacht/zzlaws_delegation_b1.FnPostingKeepIdempotent", spec := "fnPostingKeepIdempotent", unfollowed := true, recurses := true, plainKeys := false, apart := false }
def FnPostingKeepIdempotentSaid : Prop := fnPostingKeepIdempotentRow.holds Try.pinned (OpenSpec.ofChange fnPostingKeepIdempotentSpec)

/-- ITS FALSE NEIGHBOUR: 'it returns false'. Refute it at one input. -/
def fnPostingKeepIdempotentWrong : ChangeSpec := { name := "fnPostingKeepIdempotent", fn := fun _ => fun
  | [d1, d2, d3] => { results := [.lit (.bool false)], args := [d1, d2, d3] }
  | _ => none }
def FnPostingKeepIdempotentWrongFalsely : Prop := fnPostingKeepIdempotentRow.holds Try.pinned (OpenSpec.ofChange fnPostingKeepIdempotentWrong)

/-- 'zzlaws_delegation_b1.FnShelfAddIndexesEveryGrant': WHATEVER THE INPUT: true; the input reads as it did. -/
def fnShelfAddIndexesEveryGrantSpec : ChangeSpec := { name := "fnShelfAddIndexesEveryGrant", fn := fun _ => fun
  | [d] => { results := [.lit (.bool true)], args := [d] }
  | _ => none }
def fnShelfAddIndexesEveryGrantRow : OpenClaim := { program := "qxb6602790a", sum := "8ae530663363827ceefcbb2a343fe8af84eaf7a68e0886963b2c13d6e481cd1c", func := "example.com/volmacht/volmacht/zzlaws_delegation_b1.FnShelfAddIndexesEveryGrant", spec := "fnShelfAddIndexesEveryGrant", plainKeys := false, apart := false }
def FnShelfAddIndexesEveryGrantSaid : Prop := fnShelfAddIndexesEveryGrantRow.holds Try.pinned (OpenSpec.ofChange fnShelfAddIndexesEveryGrantSpec)

/-- ITS FALSE NEIGHBOUR: 'it returns false'. Refute it at one input. -/
def fnShelfAddIndexesEveryGrantWrong : ChangeSpec := { name := "fnShelfAddIndexesEveryGrant", fn := fun _ => fun
  | [d] => { results := [.lit (.bool false)], args := [d] }
  | _ => none }
def FnShelfAddIndexesEveryGrantWrongFalsely : Prop := fnShelfAddIndexesEveryGrantRow.holds Try.pinned (OpenSpec.ofChange fnShelfAddIndexesEveryGrantWrong)

end Rows
end Go.Proofs.Qxb6602790a
