/-
  No cell of these rows narrows 'for every input' (looked for: loops, veiled, ifaces, maps, wideKeys, modest, calm, conditions, laid).
  DERIVED. THE GIVEN ROWS OF THIS SEAT. 1 by the template 'for every input the law returns true; each argument reads behind the call as it read before'; 0 by the template 'total and deterministic' (their statements: YbulkeuaaTotals.lean).
  GIVEN WITH THE SEED: the statements are not yours to turn. If you find one false, say at which input.
  Laid BY PROGRAM, IN A SANDBOX (cutbox-rows.mjs): the forced cells as the released guide's own fill.sh prints them over the translation 66accb6c8fce836c… (all of the seat's roots in one cut). By AI agents, Wed Nov 11 2026. No macro, syntax, notation, axiom, sorry.
-/
import Derived.Test.YbulkeuaaChecked
import GoSem.Claim
import GoSem.ClaimJoined
import GoSem.ClaimMapViews
import Derived.JoinedTies
import Derived.KernelRfl
namespace Go.Proofs.Ybulkeuaa
/- THE CELL 'sum', in the pinned program and in every row, IS THE sha256 OF THE DUMP (.gsa) THAT YbulkeuaaProg.lean LOADS. Nothing in Lean hashes anything: it is a label: what it is worth is what the hold of that sum in a sandbox is worth. -/
noncomputable def Yba.pinned : Pinned := { name := "ybulkeuaa", sum := "66accb6c8fce836c9b6e560eff8bb76f0f41667a3d1f38f3bafcae48532f96df", checked := Yba.checked }
namespace Rows
def none {H : Type} : Left H := { results := [], args := [] }

/-- 'refjournal.LawS7293AWhole': WHATEVER THE INPUT: true; the input reads as it did. -/
def lawS7293AWholeSpec : ChangeSpec := { name := "lawS7293AWhole", fn := fun _ => fun
  | [d1, d2, d3, d4] => { results := [.lit (.bool true)], args := [d1, d2, d3, d4] }
  | _ => none }
def lawS7293AWholeRow : OpenClaim := { program := "ybulkeuaa", sum := "66accb6c8fce836c9b6e560eff8bb76f0f41667a3d1f38f3bafcae48532f96df", func := "example.com/refjournal/refjournal.LawS7293AWhole", spec := "lawS7293AWhole", apart := false }
def LawS7293AWholeSaid : Prop := lawS7293AWholeRow.holds Yba.pinned (OpenSpec.ofChange lawS7293AWholeSpec)

/-- ITS FALSE NEIGHBOUR: 'it returns false'. Refute it at one input. -/
def lawS7293AWholeWrong : ChangeSpec := { name := "lawS7293AWhole", fn := fun _ => fun
  | [d1, d2, d3, d4] => { results := [.lit (.bool false)], args := [d1, d2, d3, d4] }
  | _ => none }
def LawS7293AWholeWrongFalsely : Prop := lawS7293AWholeRow.holds Yba.pinned (OpenSpec.ofChange lawS7293AWholeWrong)

end Rows
end Go.Proofs.Ybulkeuaa
