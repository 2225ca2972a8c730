/-
  No cell of these rows narrows 'for every input' (looked for: loops, veiled, ifaces, maps, wideKeys, modest, calm, conditions, laid).
  DERIVED. THE GIVEN ROWS OF THIS SEAT. 2 by the template 'for every input the law returns true; each argument reads behind the call as it read before'; 0 by the template 'total and deterministic' (their statements: YbulkcnfwTotals.lean).
  GIVEN WITH THE SEED: the statements are not yours to turn. If you find one false, say at which input.
  Laid BY PROGRAM, IN A SANDBOX (cutbox-rows.mjs): the forced cells as the released guide's own fill.sh prints them over the translation eb395fa3207d9aa8… (all of the seat's roots in one cut). By AI agents, Wed Nov 11 2026. No macro, syntax, notation, axiom, sorry.
-/
import Derived.Test.YbulkcnfwChecked
import GoSem.Claim
import GoSem.ClaimJoined
import GoSem.ClaimMapViews
import Derived.JoinedTies
import Derived.KernelRfl
namespace Go.Proofs.Ybulkcnfw
/- THE CELL 'sum', in the pinned program and in every row, IS THE sha256 OF THE DUMP (.gsa) THAT YbulkcnfwProg.lean LOADS. Nothing in Lean hashes anything: it is a label: what it is worth is what the hold of that sum in a sandbox is worth. -/
noncomputable def Yba.pinned : Pinned := { name := "ybulkcnfw", sum := "eb395fa3207d9aa8f9478eb63bfa70f04abdfb4480a0581b722830ab7e0d5c67", checked := Yba.checked }
namespace Rows
def none {H : Type} : Left H := { results := [], args := [] }

/-- 'wire.LawS4455CState': WHATEVER THE INPUT: true; the input reads as it did. -/
def lawS4455CStateSpec : ChangeSpec := { name := "lawS4455CState", fn := fun _ => fun
  | [d1, d2, d3] => { results := [.lit (.bool true)], args := [d1, d2, d3] }
  | _ => none }
def lawS4455CStateRow : OpenClaim := { program := "ybulkcnfw", sum := "eb395fa3207d9aa8f9478eb63bfa70f04abdfb4480a0581b722830ab7e0d5c67", func := "example.com/querent/querent/internal/wire.LawS4455CState", spec := "lawS4455CState", apart := false }
def LawS4455CStateSaid : Prop := lawS4455CStateRow.holds Yba.pinned (OpenSpec.ofChange lawS4455CStateSpec)

/-- ITS FALSE NEIGHBOUR: 'it returns false'. Refute it at one input. -/
def lawS4455CStateWrong : ChangeSpec := { name := "lawS4455CState", fn := fun _ => fun
  | [d1, d2, d3] => { results := [.lit (.bool false)], args := [d1, d2, d3] }
  | _ => none }
def LawS4455CStateWrongFalsely : Prop := lawS4455CStateRow.holds Yba.pinned (OpenSpec.ofChange lawS4455CStateWrong)

/-- 'wire.LawS4455CFind': WHATEVER THE INPUT: true; the input reads as it did. -/
def lawS4455CFindSpec : ChangeSpec := { name := "lawS4455CFind", fn := fun _ => fun
  | [d1, d2, d3] => { results := [.lit (.bool true)], args := [d1, d2, d3] }
  | _ => none }
def lawS4455CFindRow : OpenClaim := { program := "ybulkcnfw", sum := "eb395fa3207d9aa8f9478eb63bfa70f04abdfb4480a0581b722830ab7e0d5c67", func := "example.com/querent/querent/internal/wire.LawS4455CFind", spec := "lawS4455CFind", apart := false }
def LawS4455CFindSaid : Prop := lawS4455CFindRow.holds Yba.pinned (OpenSpec.ofChange lawS4455CFindSpec)

/-- ITS FALSE NEIGHBOUR: 'it returns false'. Refute it at one input. -/
def lawS4455CFindWrong : ChangeSpec := { name := "lawS4455CFind", fn := fun _ => fun
  | [d1, d2, d3] => { results := [.lit (.bool false)], args := [d1, d2, d3] }
  | _ => none }
def LawS4455CFindWrongFalsely : Prop := lawS4455CFindRow.holds Yba.pinned (OpenSpec.ofChange lawS4455CFindWrong)

end Rows
end Go.Proofs.Ybulkcnfw
