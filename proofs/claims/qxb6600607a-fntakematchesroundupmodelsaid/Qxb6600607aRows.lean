/-
  No cell of these rows narrows 'for every input' (looked for: loops, veiled, ifaces, maps, wideKeys, modest, calm, conditions, laid).
  DERIVED. THE GIVEN ROWS OF THIS SEAT. 3 by the template 'for every input the law returns true; each argument reads behind the call as it read before'; 0 by the template 'total and deterministic' (their statements: Qxb6600607aTotals.lean).
  GIVEN WITH THE SEED: the statements are not yours to turn. If you find one false, say at which input.
  Laid BY PROGRAM, IN A SANDBOX (cutbox-rows.mjs): the forced cells as the released guide's own fill.sh prints them over the translation 73399a731df9931b… (all of the seat's roots in one cut). By AI agents, Wed Nov 11 2026. No macro, syntax, notation, axiom, sorry.
-/
import Derived.Test.Qxb6600607aChecked
import GoSem.Claim
import GoSem.ClaimJoined
import GoSem.ClaimMapViews
import Derived.JoinedTies
import Derived.KernelRfl
namespace Go.Proofs.Qxb6600607a
/- THE CELL 'sum', in the pinned program and in every row, IS THE sha256 OF THE DUMP (.gsa) THAT Qxb6600607aProg.lean LOADS. Nothing in Lean hashes anything: it is a label: what it is worth is what the hold of that sum in a sandbox is worth. -/
noncomputable def Try.pinned : Pinned := { name := "qxb6600607a", sum := "73399a731df9931b26b8916ad8c402f2225cb0c2241f2ddbae35fcad80722b61", checked := Try.checked }
namespace Rows
def none {H : Type} : Left H := { results := [], args := [] }

/-- 'zzlaws_internal_api_b1.FnTakeMatchesRoundUpModel': WHATEVER THE INPUT: true; the input reads as it did. -/
def fnTakeMatchesRoundUpModelSpec : ChangeSpec := { name := "fnTakeMatchesRoundUpModel", fn := fun _ => fun
  | [d1, d2, d3, d4, d5, d6, d7, d8, d9, d10] => { results := [.lit (.bool true)], args := [d1, d2, d3, d4, d5, d6, d7, d8, d9, d10] }
  | _ => none }
def fnTakeMatchesRoundUpModelRow : OpenClaim := { program := "qxb6600607a", sum := "73399a731df9931b26b8916ad8c402f2225cb0c2241f2ddbae35fcad80722b61", func := "example.com/allotrope/allotrope/zzlaws_internal_api_b1.FnTakeMatchesRoundUpModel", spec := "fnTakeMatchesRoundUpModel", apart := false }
def FnTakeMatchesRoundUpModelSaid : Prop := fnTakeMatchesRoundUpModelRow.holds Try.pinned (OpenSpec.ofChange fnTakeMatchesRoundUpModelSpec)

/-- ITS FALSE NEIGHBOUR: 'it returns false'. Refute it at one input. -/
def fnTakeMatchesRoundUpModelWrong : ChangeSpec := { name := "fnTakeMatchesRoundUpModel", fn := fun _ => fun
  | [d1, d2, d3, d4, d5, d6, d7, d8, d9, d10] => { results := [.lit (.bool false)], args := [d1, d2, d3, d4, d5, d6, d7, d8, d9, d10] }
  | _ => none }
def FnTakeMatchesRoundUpModelWrongFalsely : Prop := fnTakeMatchesRoundUpModelRow.holds Try.pinned (OpenSpec.ofChange fnTakeMatchesRoundUpModelWrong)

/-- 'zzlaws_internal_api_b1.FnTakeMetAmountWithinPolicy': WHATEVER THE INPUT: true; the input reads as it did. -/
def fnTakeMetAmountWithinPolicySpec : ChangeSpec := { name := "fnTakeMetAmountWithinPolicy", fn := fun _ => fun
  | [d1, d2, d3, d4, d5, d6, d7, d8, d9, d10] => { results := [.lit (.bool true)], args := [d1, d2, d3, d4, d5, d6, d7, d8, d9, d10] }
  | _ => none }
def fnTakeMetAmountWithinPolicyRow : OpenClaim := { program := "qxb6600607a", sum := "73399a731df9931b26b8916ad8c402f2225cb0c2241f2ddbae35fcad80722b61", func := "example.com/allotrope/allotrope/zzlaws_internal_api_b1.FnTakeMetAmountWithinPolicy", spec := "fnTakeMetAmountWithinPolicy", apart := false }
def FnTakeMetAmountWithinPolicySaid : Prop := fnTakeMetAmountWithinPolicyRow.holds Try.pinned (OpenSpec.ofChange fnTakeMetAmountWithinPolicySpec)

/-- ITS FALSE NEIGHBOUR: 'it returns false'. Refute it at one input. -/
def fnTakeMetAmountWithinPolicyWrong : ChangeSpec := { name := "fnTakeMetAmountWithinPolicy", fn := fun _ => fun
  | [d1, d2, d3, d4, d5, d6, d7, d8, d9, d10] => { results := [.lit (.bool false)], args := [d1, d2, d3, d4, d5, d6, d7, d8, d9, d10] }
  | _ => none }
def FnTakeMetAmountWithinPolicyWrongFalsely : Prop := fnTakeMetAmountWithinPolicyRow.holds Try.pinned (OpenSpec.ofChange fnTakeMetAmountWithinPolicyWrong)

/-- 'zzlaws_internal_api_b1.FnTakeRoundUpIsMonotoneAndIdempotent': WHATEVER THE INPUT: true; the input reads as it did. -/
def fnTakeRoundUpIsMonotoneAndIdempotentSpec : ChangeSpec := { name := "fnTakeRoundUpIsMonotoneAndIdempotent", fn := fun _ => fun
  | [d1, d2, d3, d4, d5, d6, d7, d8, d9] => { results := [.lit (.bool true)], args := [d1, d2, d3, d4, d5, d6, d7, d8, d9] }
  | _ => none }
def fnTakeRoundUpIsMonotoneAndIdempotentRow : OpenClaim := { program := "qxb6600607a", sum := "73399a731df9931b26b8916ad8c402f2225cb0c2241f2ddbae35fcad80722b61", func := "example.com/allotrope/allotrope/zzlaws_internal_api_b1.FnTakeRoundUpIsMonotoneAndIdempotent", spec := "fnTakeRoundUpIsMonotoneAndIdempotent", apart := false }
def FnTakeRoundUpIsMonotoneAndIdempotentSaid : Prop := fnTakeRoundUpIsMonotoneAndIdempotentRow.holds Try.pinned (OpenSpec.ofChange fnTakeRoundUpIsMonotoneAndIdempotentSpec)

/-- ITS FALSE NEIGHBOUR: 'it returns false'. Refute it at one input. -/
def fnTakeRoundUpIsMonotoneAndIdempotentWrong : ChangeSpec := { name := "fnTakeRoundUpIsMonotoneAndIdempotent", fn := fun _ => fun
  | [d1, d2, d3, d4, d5, d6, d7, d8, d9] => { results := [.lit (.bool false)], args := [d1, d2, d3, d4, d5, d6, d7, d8, d9] }
  | _ => none }
def FnTakeRoundUpIsMonotoneAndIdempotentWrongFalsely : Prop := fnTakeRoundUpIsMonotoneAndIdempotentRow.holds Try.pinned (OpenSpec.ofChange fnTakeRoundUpIsMonotoneAndIdempotentWrong)

end Rows
end Go.Proofs.Qxb6600607a
