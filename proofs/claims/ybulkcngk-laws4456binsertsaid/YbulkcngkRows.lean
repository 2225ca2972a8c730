/-
  No cell of these rows narrows 'for every input' (looked for: loops, veiled, ifaces, maps, wideKeys, modest, calm, conditions, laid).
  DERIVED. THE GIVEN ROWS OF THIS SEAT. 3 by the template 'for every input the law returns true; each argument reads behind the call as it read before'; 0 by the template 'total and deterministic' (their statements: YbulkcngkTotals.lean).
  GIVEN WITH THE SEED: the statements are not yours to turn. If you find one false, say at which input.
  Laid BY PROGRAM, IN A SANDBOX (cutbox-rows.mjs): the forced cells as the released guide's own fill.sh prints them over the translation 29a4ecc9ca929e3e… (all of the seat's roots in one cut). By AI agents, Wed Nov 11 2026. No macro, syntax, notation, axiom, sorry.
-/
import Derived.Test.YbulkcngkChecked
import GoSem.Claim
import GoSem.ClaimJoined
import GoSem.ClaimMapViews
import Derived.JoinedTies
import Derived.KernelRfl
namespace Go.Proofs.Ybulkcngk
/- THE CELL 'sum', in the pinned program and in every row, IS THE sha256 OF THE DUMP (.gsa) THAT YbulkcngkProg.lean LOADS. Nothing in Lean hashes anything: it is a label: what it is worth is what the hold of that sum in a sandbox is worth. -/
noncomputable def Yba.pinned : Pinned := { name := "ybulkcngk", sum := "29a4ecc9ca929e3ed0590b31c0444a900e9c1aea9e92c9d742625c4399146861", checked := Yba.checked }
namespace Rows
def none {H : Type} : Left H := { results := [], args := [] }

/-- 'fuzz.LawS4456BInsert': WHATEVER THE INPUT: true; the input reads as it did. -/
def lawS4456BInsertSpec : ChangeSpec := { name := "lawS4456BInsert", fn := fun _ => fun
  | [d1, d2, d3] => { results := [.lit (.bool true)], args := [d1, d2, d3] }
  | _ => none }
def lawS4456BInsertRow : OpenClaim := { program := "ybulkcngk", sum := "29a4ecc9ca929e3ed0590b31c0444a900e9c1aea9e92c9d742625c4399146861", func := "example.com/deepcall/deepcall/fuzz.LawS4456BInsert", spec := "lawS4456BInsert", apart := false }
def LawS4456BInsertSaid : Prop := lawS4456BInsertRow.holds Yba.pinned (OpenSpec.ofChange lawS4456BInsertSpec)

/-- ITS FALSE NEIGHBOUR: 'it returns false'. Refute it at one input. -/
def lawS4456BInsertWrong : ChangeSpec := { name := "lawS4456BInsert", fn := fun _ => fun
  | [d1, d2, d3] => { results := [.lit (.bool false)], args := [d1, d2, d3] }
  | _ => none }
def LawS4456BInsertWrongFalsely : Prop := lawS4456BInsertRow.holds Yba.pinned (OpenSpec.ofChange lawS4456BInsertWrong)

/-- 'fuzz.LawS4456CTable': WHATEVER THE INPUT: true; the input reads as it did. -/
def lawS4456CTableSpec : ChangeSpec := { name := "lawS4456CTable", fn := fun _ => fun
  | [d1, d2, d3, d4] => { results := [.lit (.bool true)], args := [d1, d2, d3, d4] }
  | _ => none }
def lawS4456CTableRow : OpenClaim := { program := "ybulkcngk", sum := "29a4ecc9ca929e3ed0590b31c0444a900e9c1aea9e92c9d742625c4399146861", func := "example.com/deepcall/deepcall/fuzz.LawS4456CTable", spec := "lawS4456CTable", apart := false }
def LawS4456CTableSaid : Prop := lawS4456CTableRow.holds Yba.pinned (OpenSpec.ofChange lawS4456CTableSpec)

/-- ITS FALSE NEIGHBOUR: 'it returns false'. Refute it at one input. -/
def lawS4456CTableWrong : ChangeSpec := { name := "lawS4456CTable", fn := fun _ => fun
  | [d1, d2, d3, d4] => { results := [.lit (.bool false)], args := [d1, d2, d3, d4] }
  | _ => none }
def LawS4456CTableWrongFalsely : Prop := lawS4456CTableRow.holds Yba.pinned (OpenSpec.ofChange lawS4456CTableWrong)

/-- 'fuzz.LawS4456CRoundTrip': WHATEVER THE INPUT: true; the input reads as it did. -/
def lawS4456CRoundTripSpec : ChangeSpec := { name := "lawS4456CRoundTrip", fn := fun _ => fun
  | [d1, d2] => { results := [.lit (.bool true)], args := [d1, d2] }
  | _ => none }
def lawS4456CRoundTripRow : OpenClaim := { program := "ybulkcngk", sum := "29a4ecc9ca929e3ed0590b31c0444a900e9c1aea9e92c9d742625c4399146861", func := "example.com/deepcall/deepcall/fuzz.LawS4456CRoundTrip", spec := "lawS4456CRoundTrip", apart := false }
def LawS4456CRoundTripSaid : Prop := lawS4456CRoundTripRow.holds Yba.pinned (OpenSpec.ofChange lawS4456CRoundTripSpec)

/-- ITS FALSE NEIGHBOUR: 'it returns false'. Refute it at one input. -/
def lawS4456CRoundTripWrong : ChangeSpec := { name := "lawS4456CRoundTrip", fn := fun _ => fun
  | [d1, d2] => { results := [.lit (.bool false)], args := [d1, d2] }
  | _ => none }
def LawS4456CRoundTripWrongFalsely : Prop := lawS4456CRoundTripRow.holds Yba.pinned (OpenSpec.ofChange lawS4456CRoundTripWrong)

end Rows
end Go.Proofs.Ybulkcngk
