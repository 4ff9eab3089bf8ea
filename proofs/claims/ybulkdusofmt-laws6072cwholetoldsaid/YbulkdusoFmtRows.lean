/-
  No cell of these rows narrows 'for every input' (looked for: loops, veiled, ifaces, maps, wideKeys, modest, calm, conditions, laid).
  DERIVED. THE GIVEN ROWS OF THIS SEAT. 1 by the template 'for every input the law returns true; each argument reads behind the call as it read before'; 0 by the template 'total and deterministic' (their statements: YbulkdusoFmtTotals.lean).
  GIVEN WITH THE SEED: the statements are not yours to turn. If you find one false, say at which input.
  Laid BY PROGRAM, IN A SANDBOX (cutbox-rows.mjs): the forced cells as the released guide's own fill.sh prints them over the translation eeead70667979831… (all of the seat's roots in one cut). By AI agents, Wed Nov 11 2026. No macro, syntax, notation, axiom, sorry.
-/
import Derived.Test.YbulkdusoFmtChecked
import GoSem.Claim
import GoSem.ClaimJoined
import GoSem.ClaimMapViews
import Derived.JoinedTies
import Derived.KernelRfl
namespace Go.Proofs.YbulkdusoFmt
/- THE CELL 'sum', in the pinned program and in every row, IS THE sha256 OF THE DUMP (.gsa) THAT YbulkdusoFmtProg.lean LOADS. Nothing in Lean hashes anything: it is a label: what it is worth is what the hold of that sum in a sandbox is worth. -/
noncomputable def Ybaf.pinned : Pinned := { name := "ybulkdusofmt", sum := "eeead706679798312f426e56f6d9fe24d75c46324a5bbf4d2670dae95eab3cba", checked := Ybaf.checked }
namespace Rows
def none {H : Type} : Left H := { results := [], args := [] }

/-- 'tagwright.LawS6072CWhole': WHATEVER THE INPUT: true; the input reads as it did. -/
def lawS6072CWholeSpec : ChangeSpec := { name := "lawS6072CWhole", fn := fun _ => fun
  | [d1, d2, d3, d4, d5, d6, d7, d8, d9] => { results := [.lit (.bool true)], args := [d1, d2, d3, d4, d5, d6, d7, d8, d9] }
  | _ => none }
def lawS6072CWholeRow : OpenClaim := { program := "ybulkdusofmt", sum := "eeead706679798312f426e56f6d9fe24d75c46324a5bbf4d2670dae95eab3cba", func := "example.com/tagwright/tagwright.LawS6072CWhole", spec := "lawS6072CWhole", stops := ["fmt.Sprintf"], inPlace := ["fmt.Sprintf"], apart := false }
/-- NO THEOREM (fmt's text is open here; it may be false): for the released tool's asking of the row's closed facts alone. THE STATEMENT IS 'LawS6072CWholeToldSaid' (YbulkdusoFmtCards.lean). -/
def LawS6072CWholeFormAsk : Prop := lawS6072CWholeRow.holds Ybaf.pinned (OpenSpec.ofChange lawS6072CWholeSpec)

/-- ITS FALSE NEIGHBOUR: 'it returns false'. Refute it at one input. -/
def lawS6072CWholeWrong : ChangeSpec := { name := "lawS6072CWhole", fn := fun _ => fun
  | [d1, d2, d3, d4, d5, d6, d7, d8, d9] => { results := [.lit (.bool false)], args := [d1, d2, d3, d4, d5, d6, d7, d8, d9] }
  | _ => none }
def LawS6072CWholeWrongFormAsk : Prop := lawS6072CWholeRow.holds Ybaf.pinned (OpenSpec.ofChange lawS6072CWholeWrong)

end Rows
end Go.Proofs.YbulkdusoFmt
