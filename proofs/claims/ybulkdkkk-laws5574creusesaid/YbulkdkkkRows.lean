/-
  No cell of these rows narrows 'for every input' (looked for: loops, veiled, ifaces, maps, wideKeys, modest, calm, conditions, laid).
  DERIVED. THE GIVEN ROWS OF THIS SEAT. 3 by the template 'for every input the law returns true; each argument reads behind the call as it read before'; 0 by the template 'total and deterministic' (their statements: YbulkdkkkTotals.lean).
  GIVEN WITH THE SEED: the statements are not yours to turn. If you find one false, say at which input.
  Laid BY PROGRAM, IN A SANDBOX (cutbox-rows.mjs): the forced cells as the released guide's own fill.sh prints them over the translation e8fe0458256b38c5… (all of the seat's roots in one cut). By AI agents, Wed Nov 11 2026. No macro, syntax, notation, axiom, sorry.
-/
import Derived.Test.YbulkdkkkChecked
import GoSem.Claim
import GoSem.ClaimJoined
import GoSem.ClaimMapViews
import Derived.JoinedTies
import Derived.KernelRfl
namespace Go.Proofs.Ybulkdkkk
/- THE CELL 'sum', in the pinned program and in every row, IS THE sha256 OF THE DUMP (.gsa) THAT YbulkdkkkProg.lean LOADS. Nothing in Lean hashes anything: it is a label: what it is worth is what the hold of that sum in a sandbox is worth. -/
noncomputable def Yba.pinned : Pinned := { name := "ybulkdkkk", sum := "e8fe0458256b38c50c37338751530b1811454d5259e63340fc28ad7648678caf", checked := Yba.checked }
namespace Rows
def none {H : Type} : Left H := { results := [], args := [] }

/-- 'spvm.LawS5574AWhole': WHATEVER THE INPUT: true; the input reads as it did. -/
def lawS5574AWholeSpec : ChangeSpec := { name := "lawS5574AWhole", fn := fun _ => fun
  | [d1, d2] => { results := [.lit (.bool true)], args := [d1, d2] }
  | _ => none }
def lawS5574AWholeRow : OpenClaim := { program := "ybulkdkkk", sum := "e8fe0458256b38c50c37338751530b1811454d5259e63340fc28ad7648678caf", func := "example.com/lexcraft/lexcraft/spvm.LawS5574AWhole", spec := "lawS5574AWhole", apart := false }
def LawS5574AWholeSaid : Prop := lawS5574AWholeRow.holds Yba.pinned (OpenSpec.ofChange lawS5574AWholeSpec)

/-- ITS FALSE NEIGHBOUR: 'it returns false'. Refute it at one input. -/
def lawS5574AWholeWrong : ChangeSpec := { name := "lawS5574AWhole", fn := fun _ => fun
  | [d1, d2] => { results := [.lit (.bool false)], args := [d1, d2] }
  | _ => none }
def LawS5574AWholeWrongFalsely : Prop := lawS5574AWholeRow.holds Yba.pinned (OpenSpec.ofChange lawS5574AWholeWrong)

/-- 'php.LawS5574CWhole': WHATEVER THE INPUT: true; the input reads as it did. -/
def lawS5574CWholeSpec : ChangeSpec := { name := "lawS5574CWhole", fn := fun _ => fun
  | [d1, d2] => { results := [.lit (.bool true)], args := [d1, d2] }
  | _ => none }
def lawS5574CWholeRow : OpenClaim := { program := "ybulkdkkk", sum := "e8fe0458256b38c50c37338751530b1811454d5259e63340fc28ad7648678caf", func := "example.com/lexcraft/lexcraft/php.LawS5574CWhole", spec := "lawS5574CWhole", apart := false }
def LawS5574CWholeSaid : Prop := lawS5574CWholeRow.holds Yba.pinned (OpenSpec.ofChange lawS5574CWholeSpec)

/-- ITS FALSE NEIGHBOUR: 'it returns false'. Refute it at one input. -/
def lawS5574CWholeWrong : ChangeSpec := { name := "lawS5574CWhole", fn := fun _ => fun
  | [d1, d2] => { results := [.lit (.bool false)], args := [d1, d2] }
  | _ => none }
def LawS5574CWholeWrongFalsely : Prop := lawS5574CWholeRow.holds Yba.pinned (OpenSpec.ofChange lawS5574CWholeWrong)

/-- 'php.LawS5574CReuse': WHATEVER THE INPUT: true; the input reads as it did. -/
def lawS5574CReuseSpec : ChangeSpec := { name := "lawS5574CReuse", fn := fun _ => fun
  | [d1, d2] => { results := [.lit (.bool true)], args := [d1, d2] }
  | _ => none }
def lawS5574CReuseRow : OpenClaim := { program := "ybulkdkkk", sum := "e8fe0458256b38c50c37338751530b1811454d5259e63340fc28ad7648678caf", func := "example.com/lexcraft/lexcraft/php.LawS5574CReuse", spec := "lawS5574CReuse", apart := false }
def LawS5574CReuseSaid : Prop := lawS5574CReuseRow.holds Yba.pinned (OpenSpec.ofChange lawS5574CReuseSpec)

/-- ITS FALSE NEIGHBOUR: 'it returns false'. Refute it at one input. -/
def lawS5574CReuseWrong : ChangeSpec := { name := "lawS5574CReuse", fn := fun _ => fun
  | [d1, d2] => { results := [.lit (.bool false)], args := [d1, d2] }
  | _ => none }
def LawS5574CReuseWrongFalsely : Prop := lawS5574CReuseRow.holds Yba.pinned (OpenSpec.ofChange lawS5574CReuseWrong)

end Rows
end Go.Proofs.Ybulkdkkk
