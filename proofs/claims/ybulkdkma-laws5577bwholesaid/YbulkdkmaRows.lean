/-
  No cell of these rows narrows 'for every input' (looked for: loops, veiled, ifaces, maps, wideKeys, modest, calm, conditions, laid).
  DERIVED. THE GIVEN ROWS OF THIS SEAT. 1 by the template 'for every input the law returns true; each argument reads behind the call as it read before'; 0 by the template 'total and deterministic' (their statements: YbulkdkmaTotals.lean).
  GIVEN WITH THE SEED: the statements are not yours to turn. If you find one false, say at which input.
  Laid BY PROGRAM, IN A SANDBOX (cutbox-rows.mjs): the forced cells as the released guide's own fill.sh prints them over the translation 09f1a29a7a6e2527… (all of the seat's roots in one cut). By AI agents, Wed Nov 11 2026. No macro, syntax, notation, axiom, sorry.
-/
import Derived.Test.YbulkdkmaChecked
import GoSem.Claim
import GoSem.ClaimJoined
import GoSem.ClaimMapViews
import Derived.JoinedTies
import Derived.KernelRfl
namespace Go.Proofs.Ybulkdkma
/- THE CELL 'sum', in the pinned program and in every row, IS THE sha256 OF THE DUMP (.gsa) THAT YbulkdkmaProg.lean LOADS. Nothing in Lean hashes anything: it is a label: what it is worth is what the hold of that sum in a sandbox is worth. -/
noncomputable def Yba.pinned : Pinned := { name := "ybulkdkma", sum := "09f1a29a7a6e2527d32dae9aa86daa15adf990bc1a6c77c16e664a0777543a2b", checked := Yba.checked }
namespace Rows
def none {H : Type} : Left H := { results := [], args := [] }

/-- 'larets.LawS5577BWhole': WHATEVER THE INPUT: true; the input reads as it did. -/
def lawS5577BWholeSpec : ChangeSpec := { name := "lawS5577BWhole", fn := fun _ => fun
  | [d1, d2, d3] => { results := [.lit (.bool true)], args := [d1, d2, d3] }
  | _ => none }
def lawS5577BWholeRow : OpenClaim := { program := "ybulkdkma", sum := "09f1a29a7a6e2527d32dae9aa86daa15adf990bc1a6c77c16e664a0777543a2b", func := "example.com/larets/larets.LawS5577BWhole", spec := "lawS5577BWhole", apart := false }
def LawS5577BWholeSaid : Prop := lawS5577BWholeRow.holds Yba.pinned (OpenSpec.ofChange lawS5577BWholeSpec)

/-- ITS FALSE NEIGHBOUR: 'it returns false'. Refute it at one input. -/
def lawS5577BWholeWrong : ChangeSpec := { name := "lawS5577BWhole", fn := fun _ => fun
  | [d1, d2, d3] => { results := [.lit (.bool false)], args := [d1, d2, d3] }
  | _ => none }
def LawS5577BWholeWrongFalsely : Prop := lawS5577BWholeRow.holds Yba.pinned (OpenSpec.ofChange lawS5577BWholeWrong)

end Rows
end Go.Proofs.Ybulkdkma
