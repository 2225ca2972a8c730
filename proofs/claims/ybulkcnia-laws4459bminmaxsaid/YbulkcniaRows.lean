/-
  No cell of these rows narrows 'for every input' (looked for: loops, veiled, ifaces, maps, wideKeys, modest, calm, conditions, laid).
  DERIVED. THE GIVEN ROWS OF THIS SEAT. 2 by the template 'for every input the law returns true; each argument reads behind the call as it read before'; 0 by the template 'total and deterministic' (their statements: YbulkcniaTotals.lean).
  GIVEN WITH THE SEED: the statements are not yours to turn. If you find one false, say at which input.
  Laid BY PROGRAM, IN A SANDBOX (cutbox-rows.mjs): the forced cells as the released guide's own fill.sh prints them over the translation e9ccc83c441938ea… (all of the seat's roots in one cut). By AI agents, Wed Nov 11 2026. No macro, syntax, notation, axiom, sorry.
-/
import Derived.Test.YbulkcniaChecked
import GoSem.Claim
import GoSem.ClaimJoined
import GoSem.ClaimMapViews
import Derived.JoinedTies
import Derived.KernelRfl
namespace Go.Proofs.Ybulkcnia
/- THE CELL 'sum', in the pinned program and in every row, IS THE sha256 OF THE DUMP (.gsa) THAT YbulkcniaProg.lean LOADS. Nothing in Lean hashes anything: it is a label: what it is worth is what the hold of that sum in a sandbox is worth. -/
noncomputable def Yba.pinned : Pinned := { name := "ybulkcnia", sum := "e9ccc83c441938ea78021edbdbaa4ec644cbb61777064942631b5fd66bed12b0", checked := Yba.checked }
namespace Rows
def none {H : Type} : Left H := { results := [], args := [] }

/-- 'tenorline.LawS4459BExact': WHATEVER THE INPUT: true; the input reads as it did. -/
def lawS4459BExactSpec : ChangeSpec := { name := "lawS4459BExact", fn := fun _ => fun
  | [d1, d2] => { results := [.lit (.bool true)], args := [d1, d2] }
  | _ => none }
def lawS4459BExactRow : OpenClaim := { program := "ybulkcnia", sum := "e9ccc83c441938ea78021edbdbaa4ec644cbb61777064942631b5fd66bed12b0", func := "example.com/tenorline/tenorline.LawS4459BExact", spec := "lawS4459BExact", apart := false }
def LawS4459BExactSaid : Prop := lawS4459BExactRow.holds Yba.pinned (OpenSpec.ofChange lawS4459BExactSpec)

/-- ITS FALSE NEIGHBOUR: 'it returns false'. Refute it at one input. -/
def lawS4459BExactWrong : ChangeSpec := { name := "lawS4459BExact", fn := fun _ => fun
  | [d1, d2] => { results := [.lit (.bool false)], args := [d1, d2] }
  | _ => none }
def LawS4459BExactWrongFalsely : Prop := lawS4459BExactRow.holds Yba.pinned (OpenSpec.ofChange lawS4459BExactWrong)

/-- 'tenorline.LawS4459BMinMax': WHATEVER THE INPUT: true; the input reads as it did. -/
def lawS4459BMinMaxSpec : ChangeSpec := { name := "lawS4459BMinMax", fn := fun _ => fun
  | [d1, d2] => { results := [.lit (.bool true)], args := [d1, d2] }
  | _ => none }
def lawS4459BMinMaxRow : OpenClaim := { program := "ybulkcnia", sum := "e9ccc83c441938ea78021edbdbaa4ec644cbb61777064942631b5fd66bed12b0", func := "example.com/tenorline/tenorline.LawS4459BMinMax", spec := "lawS4459BMinMax", apart := false }
def LawS4459BMinMaxSaid : Prop := lawS4459BMinMaxRow.holds Yba.pinned (OpenSpec.ofChange lawS4459BMinMaxSpec)

/-- ITS FALSE NEIGHBOUR: 'it returns false'. Refute it at one input. -/
def lawS4459BMinMaxWrong : ChangeSpec := { name := "lawS4459BMinMax", fn := fun _ => fun
  | [d1, d2] => { results := [.lit (.bool false)], args := [d1, d2] }
  | _ => none }
def LawS4459BMinMaxWrongFalsely : Prop := lawS4459BMinMaxRow.holds Yba.pinned (OpenSpec.ofChange lawS4459BMinMaxWrong)

end Rows
end Go.Proofs.Ybulkcnia
