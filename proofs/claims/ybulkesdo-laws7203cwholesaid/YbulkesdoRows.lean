/-
  No cell of these rows narrows 'for every input' (looked for: loops, veiled, ifaces, maps, wideKeys, modest, calm, conditions, laid).
  DERIVED. THE GIVEN ROWS OF THIS SEAT. 2 by the template 'for every input the law returns true; each argument reads behind the call as it read before'; 0 by the template 'total and deterministic' (their statements: YbulkesdoTotals.lean).
  GIVEN WITH THE SEED: the statements are not yours to turn. If you find one false, say at which input.
  Laid BY PROGRAM, IN A SANDBOX (cutbox-rows.mjs): the forced cells as the released guide's own fill.sh prints them over the translation 65fe775b37cb2626… (all of the seat's roots in one cut). By AI agents, Wed Nov 11 2026. No macro, syntax, notation, axiom, sorry.
-/
import Derived.Test.YbulkesdoChecked
import GoSem.Claim
import GoSem.ClaimJoined
import GoSem.ClaimMapViews
import Derived.JoinedTies
import Derived.KernelRfl
namespace Go.Proofs.Ybulkesdo
/- THE CELL 'sum', in the pinned program and in every row, IS THE sha256 OF THE DUMP (.gsa) THAT YbulkesdoProg.lean LOADS. Nothing in Lean hashes anything: it is a label: what it is worth is what the hold of that sum in a sandbox is worth. -/
noncomputable def Yba.pinned : Pinned := { name := "ybulkesdo", sum := "65fe775b37cb262645625b7a2305e242e55522e21508354df309f2eb33bbf8c1", checked := Yba.checked }
namespace Rows
def none {H : Type} : Left H := { results := [], args := [] }

/-- 'syncline.LawS7203BWhole': WHATEVER THE INPUT: true; the input reads as it did. -/
def lawS7203BWholeSpec : ChangeSpec := { name := "lawS7203BWhole", fn := fun _ => fun
  | [d1, d2] => { results := [.lit (.bool true)], args := [d1, d2] }
  | _ => none }
def lawS7203BWholeRow : OpenClaim := { program := "ybulkesdo", sum := "65fe775b37cb262645625b7a2305e242e55522e21508354df309f2eb33bbf8c1", func := "example.com/syncline/syncline.LawS7203BWhole", spec := "lawS7203BWhole", plainKeys := false, apart := false }
def LawS7203BWholeSaid : Prop := lawS7203BWholeRow.holds Yba.pinned (OpenSpec.ofChange lawS7203BWholeSpec)

/-- ITS FALSE NEIGHBOUR: 'it returns false'. Refute it at one input. -/
def lawS7203BWholeWrong : ChangeSpec := { name := "lawS7203BWhole", fn := fun _ => fun
  | [d1, d2] => { results := [.lit (.bool false)], args := [d1, d2] }
  | _ => none }
def LawS7203BWholeWrongFalsely : Prop := lawS7203BWholeRow.holds Yba.pinned (OpenSpec.ofChange lawS7203BWholeWrong)

/-- 'syncline.LawS7203CWhole': WHATEVER THE INPUT: true; the input reads as it did. -/
def lawS7203CWholeSpec : ChangeSpec := { name := "lawS7203CWhole", fn := fun _ => fun
  | [d1, d2, d3, d4] => { results := [.lit (.bool true)], args := [d1, d2, d3, d4] }
  | _ => none }
def lawS7203CWholeRow : OpenClaim := { program := "ybulkesdo", sum := "65fe775b37cb262645625b7a2305e242e55522e21508354df309f2eb33bbf8c1", func := "example.com/syncline/syncline.LawS7203CWhole", spec := "lawS7203CWhole", unfollowed := true, recurses := true, plainKeys := false, apart := false }
def LawS7203CWholeSaid : Prop := lawS7203CWholeRow.holds Yba.pinned (OpenSpec.ofChange lawS7203CWholeSpec)

/-- ITS FALSE NEIGHBOUR: 'it returns false'. Refute it at one input. -/
def lawS7203CWholeWrong : ChangeSpec := { name := "lawS7203CWhole", fn := fun _ => fun
  | [d1, d2, d3, d4] => { results := [.lit (.bool false)], args := [d1, d2, d3, d4] }
  | _ => none }
def LawS7203CWholeWrongFalsely : Prop := lawS7203CWholeRow.holds Yba.pinned (OpenSpec.ofChange lawS7203CWholeWrong)

end Rows
end Go.Proofs.Ybulkesdo
