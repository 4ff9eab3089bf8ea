/-
  No cell of these rows narrows 'for every input' (looked for: loops, veiled, ifaces, maps, wideKeys, modest, calm, conditions, laid).
  DERIVED. THE GIVEN ROWS OF THIS SEAT. 2 by the template 'for every input the law returns true; each argument reads behind the call as it read before'; 0 by the template 'total and deterministic' (their statements: YbulkduvuTotals.lean).
  GIVEN WITH THE SEED: the statements are not yours to turn. If you find one false, say at which input.
  Laid BY PROGRAM, IN A SANDBOX (cutbox-rows.mjs): the forced cells as the released guide's own fill.sh prints them over the translation 3b2e544844263b9c… (all of the seat's roots in one cut). By AI agents, Wed Nov 11 2026. No macro, syntax, notation, axiom, sorry.
-/
import Derived.Test.YbulkduvuChecked
import GoSem.Claim
import GoSem.ClaimJoined
import GoSem.ClaimMapViews
import Derived.JoinedTies
import Derived.KernelRfl
namespace Go.Proofs.Ybulkduvu
/- THE CELL 'sum', in the pinned program and in every row, IS THE sha256 OF THE DUMP (.gsa) THAT YbulkduvuProg.lean LOADS. Nothing in Lean hashes anything: it is a label: what it is worth is what the hold of that sum in a sandbox is worth. -/
noncomputable def Yba.pinned : Pinned := { name := "ybulkduvu", sum := "3b2e544844263b9c09e4616c9ec96d3a6d957754306f2f7f2139565ebee33ab4", checked := Yba.checked }
namespace Rows
def none {H : Type} : Left H := { results := [], args := [] }

/-- 'audax.LawS6078AWhole': WHATEVER THE INPUT: true; the input reads as it did. -/
def lawS6078AWholeSpec : ChangeSpec := { name := "lawS6078AWhole", fn := fun _ => fun
  | [d1, d2, d3, d4, d5] => { results := [.lit (.bool true)], args := [d1, d2, d3, d4, d5] }
  | _ => none }
def lawS6078AWholeRow : OpenClaim := { program := "ybulkduvu", sum := "3b2e544844263b9c09e4616c9ec96d3a6d957754306f2f7f2139565ebee33ab4", func := "example.com/audax/audax.LawS6078AWhole", spec := "lawS6078AWhole", unfollowed := true, recurses := true, apart := false }
def LawS6078AWholeSaid : Prop := lawS6078AWholeRow.holds Yba.pinned (OpenSpec.ofChange lawS6078AWholeSpec)

/-- ITS FALSE NEIGHBOUR: 'it returns false'. Refute it at one input. -/
def lawS6078AWholeWrong : ChangeSpec := { name := "lawS6078AWhole", fn := fun _ => fun
  | [d1, d2, d3, d4, d5] => { results := [.lit (.bool false)], args := [d1, d2, d3, d4, d5] }
  | _ => none }
def LawS6078AWholeWrongFalsely : Prop := lawS6078AWholeRow.holds Yba.pinned (OpenSpec.ofChange lawS6078AWholeWrong)

/-- 'audax.LawS6078BWhole': WHATEVER THE INPUT: true; the input reads as it did. -/
def lawS6078BWholeSpec : ChangeSpec := { name := "lawS6078BWhole", fn := fun _ => fun
  | [d1, d2, d3] => { results := [.lit (.bool true)], args := [d1, d2, d3] }
  | _ => none }
def lawS6078BWholeRow : OpenClaim := { program := "ybulkduvu", sum := "3b2e544844263b9c09e4616c9ec96d3a6d957754306f2f7f2139565ebee33ab4", func := "example.com/audax/audax.LawS6078BWhole", spec := "lawS6078BWhole", unfollowed := true, recurses := true, apart := false }
def LawS6078BWholeSaid : Prop := lawS6078BWholeRow.holds Yba.pinned (OpenSpec.ofChange lawS6078BWholeSpec)

/-- ITS FALSE NEIGHBOUR: 'it returns false'. Refute it at one input. -/
def lawS6078BWholeWrong : ChangeSpec := { name := "lawS6078BWhole", fn := fun _ => fun
  | [d1, d2, d3] => { results := [.lit (.bool false)], args := [d1, d2, d3] }
  | _ => none }
def LawS6078BWholeWrongFalsely : Prop := lawS6078BWholeRow.holds Yba.pinned (OpenSpec.ofChange lawS6078BWholeWrong)

end Rows
end Go.Proofs.Ybulkduvu
