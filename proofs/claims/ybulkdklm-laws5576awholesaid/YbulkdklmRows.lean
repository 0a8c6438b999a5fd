/-
  No cell of these rows narrows 'for every input' (looked for: loops, veiled, ifaces, maps, wideKeys, modest, calm, conditions, laid).
  DERIVED. THE GIVEN ROWS OF THIS SEAT. 1 by the template 'for every input the law returns true; each argument reads behind the call as it read before'; 0 by the template 'total and deterministic' (their statements: YbulkdklmTotals.lean).
  GIVEN WITH THE SEED: the statements are not yours to turn. If you find one false, say at which input.
  Laid BY PROGRAM, IN A SANDBOX (cutbox-rows.mjs): the forced cells as the released guide's own fill.sh prints them over the translation 07809383b066fd66… (all of the seat's roots in one cut). By AI agents, Wed Nov 11 2026. No macro, syntax, notation, axiom, sorry.
-/
import Derived.Test.YbulkdklmChecked
import GoSem.Claim
import GoSem.ClaimJoined
import GoSem.ClaimMapViews
import Derived.JoinedTies
import Derived.KernelRfl
namespace Go.Proofs.Ybulkdklm
/- THE CELL 'sum', in the pinned program and in every row, IS THE sha256 OF THE DUMP (.gsa) THAT YbulkdklmProg.lean LOADS. Nothing in Lean hashes anything: it is a label: what it is worth is what the hold of that sum in a sandbox is worth. -/
noncomputable def Yba.pinned : Pinned := { name := "ybulkdklm", sum := "07809383b066fd664796bd464d38c7f33c41da2c9238f837f4a84e176d55f054", checked := Yba.checked }
namespace Rows
def none {H : Type} : Left H := { results := [], args := [] }

/-- 'tallyfold.LawS5576AWhole': WHATEVER THE INPUT: true; the input reads as it did. -/
def lawS5576AWholeSpec : ChangeSpec := { name := "lawS5576AWhole", fn := fun _ => fun
  | [d1, d2, d3] => { results := [.lit (.bool true)], args := [d1, d2, d3] }
  | _ => none }
def lawS5576AWholeRow : OpenClaim := { program := "ybulkdklm", sum := "07809383b066fd664796bd464d38c7f33c41da2c9238f837f4a84e176d55f054", func := "example.com/tallyfold/tallyfold.LawS5576AWhole", spec := "lawS5576AWhole", inPlace := ["slices.overlaps[[]*example.com/tallyfold/tallyfold.span]", "slices.overlaps[*example.com/tallyfold/tallyfold.span]"], apart := false }
def LawS5576AWholeSaid : Prop := lawS5576AWholeRow.holds Yba.pinned (OpenSpec.ofChange lawS5576AWholeSpec)

/-- ITS FALSE NEIGHBOUR: 'it returns false'. Refute it at one input. -/
def lawS5576AWholeWrong : ChangeSpec := { name := "lawS5576AWhole", fn := fun _ => fun
  | [d1, d2, d3] => { results := [.lit (.bool false)], args := [d1, d2, d3] }
  | _ => none }
def LawS5576AWholeWrongFalsely : Prop := lawS5576AWholeRow.holds Yba.pinned (OpenSpec.ofChange lawS5576AWholeWrong)

end Rows
end Go.Proofs.Ybulkdklm
