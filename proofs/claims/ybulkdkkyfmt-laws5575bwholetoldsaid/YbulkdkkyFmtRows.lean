/-
  No cell of these rows narrows 'for every input' (looked for: loops, veiled, ifaces, maps, wideKeys, modest, calm, conditions, laid).
  DERIVED. THE GIVEN ROWS OF THIS SEAT. 3 by the template 'for every input the law returns true; each argument reads behind the call as it read before'; 0 by the template 'total and deterministic' (their statements: YbulkdkkyFmtTotals.lean).
  GIVEN WITH THE SEED: the statements are not yours to turn. If you find one false, say at which input.
  Laid BY PROGRAM, IN A SANDBOX (cutbox-rows.mjs): the forced cells as the released guide's own fill.sh prints them over the translation 8bcac748bd3ffbc9… (all of the seat's roots in one cut). By AI agents, Wed Nov 11 2026. No macro, syntax, notation, axiom, sorry.
-/
import Derived.Test.YbulkdkkyFmtChecked
import GoSem.Claim
import GoSem.ClaimJoined
import GoSem.ClaimMapViews
import Derived.JoinedTies
import Derived.KernelRfl
namespace Go.Proofs.YbulkdkkyFmt
/- THE CELL 'sum', in the pinned program and in every row, IS THE sha256 OF THE DUMP (.gsa) THAT YbulkdkkyFmtProg.lean LOADS. Nothing in Lean hashes anything: it is a label: what it is worth is what the hold of that sum in a sandbox is worth. -/
noncomputable def Ybaf.pinned : Pinned := { name := "ybulkdkkyfmt", sum := "8bcac748bd3ffbc9d828edf1e4a9ea1d1fb0756a060539023c8150d567061127", checked := Ybaf.checked }
namespace Rows
def none {H : Type} : Left H := { results := [], args := [] }

/-- 'sleeping.LawS5575AWhole': WHATEVER THE INPUT: true; the input reads as it did. -/
def lawS5575AWholeSpec : ChangeSpec := { name := "lawS5575AWhole", fn := fun _ => fun
  | [d1, d2] => { results := [.lit (.bool true)], args := [d1, d2] }
  | _ => none }
def lawS5575AWholeRow : OpenClaim := { program := "ybulkdkkyfmt", sum := "8bcac748bd3ffbc9d828edf1e4a9ea1d1fb0756a060539023c8150d567061127", func := "example.com/sleepy-quorum/sleepy-quorum/pkg/sleeping.LawS5575AWhole", spec := "lawS5575AWhole", stops := ["fmt.Sprintf"], inPlace := ["fmt.Sprintf"], apart := false }
/-- NO THEOREM (fmt's text is open here; it may be false): for the released tool's asking of the row's closed facts alone. THE STATEMENT IS 'LawS5575AWholeToldSaid' (YbulkdkkyFmtCards.lean). -/
def LawS5575AWholeFormAsk : Prop := lawS5575AWholeRow.holds Ybaf.pinned (OpenSpec.ofChange lawS5575AWholeSpec)

/-- ITS FALSE NEIGHBOUR: 'it returns false'. Refute it at one input. -/
def lawS5575AWholeWrong : ChangeSpec := { name := "lawS5575AWhole", fn := fun _ => fun
  | [d1, d2] => { results := [.lit (.bool false)], args := [d1, d2] }
  | _ => none }
def LawS5575AWholeWrongFormAsk : Prop := lawS5575AWholeRow.holds Ybaf.pinned (OpenSpec.ofChange lawS5575AWholeWrong)

/-- 'radio.LawS5575BWhole': WHATEVER THE INPUT: true; the input reads as it did. -/
def lawS5575BWholeSpec : ChangeSpec := { name := "lawS5575BWhole", fn := fun _ => fun
  | [d1, d2, d3, d4, d5] => { results := [.lit (.bool true)], args := [d1, d2, d3, d4, d5] }
  | _ => none }
def lawS5575BWholeRow : OpenClaim := { program := "ybulkdkkyfmt", sum := "8bcac748bd3ffbc9d828edf1e4a9ea1d1fb0756a060539023c8150d567061127", func := "example.com/sleepy-quorum/sleepy-quorum/pkg/radio.LawS5575BWhole", spec := "lawS5575BWhole", stops := ["fmt.Sprintf"], inPlace := ["fmt.Sprintf"], apart := false }
/-- NO THEOREM (fmt's text is open here; it may be false): for the released tool's asking of the row's closed facts alone. THE STATEMENT IS 'LawS5575BWholeToldSaid' (YbulkdkkyFmtCards.lean). -/
def LawS5575BWholeFormAsk : Prop := lawS5575BWholeRow.holds Ybaf.pinned (OpenSpec.ofChange lawS5575BWholeSpec)

/-- ITS FALSE NEIGHBOUR: 'it returns false'. Refute it at one input. -/
def lawS5575BWholeWrong : ChangeSpec := { name := "lawS5575BWhole", fn := fun _ => fun
  | [d1, d2, d3, d4, d5] => { results := [.lit (.bool false)], args := [d1, d2, d3, d4, d5] }
  | _ => none }
def LawS5575BWholeWrongFormAsk : Prop := lawS5575BWholeRow.holds Ybaf.pinned (OpenSpec.ofChange lawS5575BWholeWrong)

/-- 'radio.LawS5575CWhole': WHATEVER THE INPUT: true; the input reads as it did. -/
def lawS5575CWholeSpec : ChangeSpec := { name := "lawS5575CWhole", fn := fun _ => fun
  | [d1, d2, d3] => { results := [.lit (.bool true)], args := [d1, d2, d3] }
  | _ => none }
def lawS5575CWholeRow : OpenClaim := { program := "ybulkdkkyfmt", sum := "8bcac748bd3ffbc9d828edf1e4a9ea1d1fb0756a060539023c8150d567061127", func := "example.com/sleepy-quorum/sleepy-quorum/pkg/radio.LawS5575CWhole", spec := "lawS5575CWhole", stops := ["fmt.Sprintf"], inPlace := ["fmt.Sprintf"], apart := false }
/-- NO THEOREM (fmt's text is open here; it may be false): for the released tool's asking of the row's closed facts alone. THE STATEMENT IS 'LawS5575CWholeToldSaid' (YbulkdkkyFmtCards.lean). -/
def LawS5575CWholeFormAsk : Prop := lawS5575CWholeRow.holds Ybaf.pinned (OpenSpec.ofChange lawS5575CWholeSpec)

/-- ITS FALSE NEIGHBOUR: 'it returns false'. Refute it at one input. -/
def lawS5575CWholeWrong : ChangeSpec := { name := "lawS5575CWhole", fn := fun _ => fun
  | [d1, d2, d3] => { results := [.lit (.bool false)], args := [d1, d2, d3] }
  | _ => none }
def LawS5575CWholeWrongFormAsk : Prop := lawS5575CWholeRow.holds Ybaf.pinned (OpenSpec.ofChange lawS5575CWholeWrong)

end Rows
end Go.Proofs.YbulkdkkyFmt
