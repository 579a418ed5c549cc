/-
  No cell of these rows narrows 'for every input' (looked for: loops, veiled, ifaces, maps, wideKeys, modest, calm, conditions, laid).
  DERIVED. THE GIVEN ROWS OF THIS SEAT. 1 by the template 'for every input the law returns true; each argument reads behind the call as it read before'; 0 by the template 'total and deterministic' (their statements: Qxb6604993aTotals.lean).
  GIVEN WITH THE SEED: the statements are not yours to turn. If you find one false, say at which input.
  Laid BY PROGRAM, IN A SANDBOX (cutbox-rows.mjs): the forced cells as the released guide's own fill.sh prints them over the translation e3c17e2a5ac6c8ff… (all of the seat's roots in one cut). By AI agents, Wed Nov 11 2026. No macro, syntax, notation, axiom, sorry.
-/
import Derived.Test.Qxb6604993aChecked
import GoSem.Claim
import GoSem.ClaimJoined
import GoSem.ClaimMapViews
import Derived.JoinedTies
import Derived.KernelRfl
namespace Go.Proofs.Qxb6604993a
/- THE CELL 'sum', in the pinned program and in every row, IS THE sha256 OF THE DUMP (.gsa) THAT Qxb6604993aProg.lean LOADS. Nothing in Lean hashes anything: it is a label: what it is worth is what the hold of that sum in a sandbox is worth. -/
noncomputable def Try.pinned : Pinned := { name := "qxb6604993a", sum := "e3c17e2a5ac6c8ff439c88211abf333e849e62c841d0c90bc8f4706bc7c28c4d", checked := Try.checked }
namespace Rows
def none {H : Type} : Left H := { results := [], args := [] }

/-- 'zzlaws_internal_export_b1.FnExcludesIsMembership': WHATEVER THE INPUT: true; the input reads as it did. -/
def fnExcludesIsMembershipSpec : ChangeSpec := { name := "fnExcludesIsMembership", fn := fun _ => fun
  | [d1, d2] => { results := [.lit (.bool true)], args := [d1, d2] }
  | _ => none }
def fnExcludesIsMembershipRow : OpenClaim := { program := "qxb6604993a", sum := "e3c17e2a5ac6c8ff439c88211abf333e849e62c841d0c90bc8f4706bc7c28c4d", func := "example.com/tallydraw/tallydraw/zzlaws_internal_export_b1.FnExcludesIsMembership", spec := "fnExcludesIsMembership", apart := false }
def FnExcludesIsMembershipSaid : Prop := fnExcludesIsMembershipRow.holds Try.pinned (OpenSpec.ofChange fnExcludesIsMembershipSpec)

/-- ITS FALSE NEIGHBOUR: 'it returns false'. Refute it at one input. -/
def fnExcludesIsMembershipWrong : ChangeSpec := { name := "fnExcludesIsMembership", fn := fun _ => fun
  | [d1, d2] => { results := [.lit (.bool false)], args := [d1, d2] }
  | _ => none }
def FnExcludesIsMembershipWrongFalsely : Prop := fnExcludesIsMembershipRow.holds Try.pinned (OpenSpec.ofChange fnExcludesIsMembershipWrong)

end Rows
end Go.Proofs.Qxb6604993a
