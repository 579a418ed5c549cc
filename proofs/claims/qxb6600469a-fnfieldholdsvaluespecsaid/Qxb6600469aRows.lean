/-
  No cell of these rows narrows 'for every input' (looked for: loops, veiled, ifaces, maps, wideKeys, modest, calm, conditions, laid).
  DERIVED. THE GIVEN ROWS OF THIS SEAT. 2 by the template 'for every input the law returns true; each argument reads behind the call as it read before'; 0 by the template 'total and deterministic' (their statements: Qxb6600469aTotals.lean).
  GIVEN WITH THE SEED: the statements are not yours to turn. If you find one false, say at which input.
  Laid BY PROGRAM, IN A SANDBOX (cutbox-rows.mjs): the forced cells as the released guide's own fill.sh prints them over the translation 67842d3706a61964… (all of the seat's roots in one cut). By AI agents, Wed Nov 11 2026. No macro, syntax, notation, axiom, sorry.
-/
import Derived.Test.Qxb6600469aChecked
import GoSem.Claim
import GoSem.ClaimJoined
import GoSem.ClaimMapViews
import Derived.JoinedTies
import Derived.KernelRfl
namespace Go.Proofs.Qxb6600469a
/- THE CELL 'sum', in the pinned program and in every row, IS THE sha256 OF THE DUMP (.gsa) THAT Qxb6600469aProg.lean LOADS. Nothing in Lean hashes anything: it is a label: what it is worth is what the hold of that sum in a sandbox is worth. -/
noncomputable def Try.pinned : Pinned := { name := "qxb6600469a", sum := "67842d3706a619647bf7e72a2f957ca6451a2bb5f0cda53208ee5d9cc8001062", checked := Try.checked }
namespace Rows
def none {H : Type} : Left H := { results := [], args := [] }

/-- 'zzlaws_api_b1.FnFieldHoldsValueSpec': WHATEVER THE INPUT: true; the input reads as it did. -/
def fnFieldHoldsValueSpecSpec : ChangeSpec := { name := "fnFieldHoldsValueSpec", fn := fun _ => fun
  | [d1, d2, d3] => { results := [.lit (.bool true)], args := [d1, d2, d3] }
  | _ => none }
def fnFieldHoldsValueSpecRow : OpenClaim := { program := "qxb6600469a", sum := "67842d3706a619647bf7e72a2f957ca6451a2bb5f0cda53208ee5d9cc8001062", func := "example.com/certwright/certwright/zzlaws_api_b1.FnFieldHoldsValueSpec", spec := "fnFieldHoldsValueSpec", unfollowed := true, recurses := true, apart := false }
def FnFieldHoldsValueSpecSaid : Prop := fnFieldHoldsValueSpecRow.holds Try.pinned (OpenSpec.ofChange fnFieldHoldsValueSpecSpec)

/-- ITS FALSE NEIGHBOUR: 'it returns false'. Refute it at one input. -/
def fnFieldHoldsValueSpecWrong : ChangeSpec := { name := "fnFieldHoldsValueSpec", fn := fun _ => fun
  | [d1, d2, d3] => { results := [.lit (.bool false)], args := [d1, d2, d3] }
  | _ => none }
def FnFieldHoldsValueSpecWrongFalsely : Prop := fnFieldHoldsValueSpecRow.holds Try.pinned (OpenSpec.ofChange fnFieldHoldsValueSpecWrong)

/-- 'zzlaws_api_b1.FnFieldHoldsValueKeptUnderAppend': WHATEVER THE INPUT: true; the input reads as it did. -/
def fnFieldHoldsValueKeptUnderAppendSpec : ChangeSpec := { name := "fnFieldHoldsValueKeptUnderAppend", fn := fun _ => fun
  | [d1, d2, d3, d4] => { results := [.lit (.bool true)], args := [d1, d2, d3, d4] }
  | _ => none }
def fnFieldHoldsValueKeptUnderAppendRow : OpenClaim := { program := "qxb6600469a", sum := "67842d3706a619647bf7e72a2f957ca6451a2bb5f0cda53208ee5d9cc8001062", func := "example.com/certwright/certwright/zzlaws_api_b1.FnFieldHoldsValueKeptUnderAppend", spec := "fnFieldHoldsValueKeptUnderAppend", unfollowed := true, recurses := true, apart := false }
def FnFieldHoldsValueKeptUnderAppendSaid : Prop := fnFieldHoldsValueKeptUnderAppendRow.holds Try.pinned (OpenSpec.ofChange fnFieldHoldsValueKeptUnderAppendSpec)

/-- ITS FALSE NEIGHBOUR: 'it returns false'. Refute it at one input. -/
def fnFieldHoldsValueKeptUnderAppendWrong : ChangeSpec := { name := "fnFieldHoldsValueKeptUnderAppend", fn := fun _ => fun
  | [d1, d2, d3, d4] => { results := [.lit (.bool false)], args := [d1, d2, d3, d4] }
  | _ => none }
def FnFieldHoldsValueKeptUnderAppendWrongFalsely : Prop := fnFieldHoldsValueKeptUnderAppendRow.holds Try.pinned (OpenSpec.ofChange fnFieldHoldsValueKeptUnderAppendWrong)

end Rows
end Go.Proofs.Qxb6600469a
