/-
  NARROWER THAN 'FOR EVERY INPUT', by the rows' own cells (each row's printed sentence says how): LawS7280BWhole: ifaces, laid · LawS7280CWhole: ifaces, laid.
  DERIVED. THE GIVEN ROWS OF THIS SEAT. 2 by the template 'for every input the law returns true; each argument reads behind the call as it read before'; 0 by the template 'total and deterministic' (their statements: YbulkettaFmtTotals.lean).
  GIVEN WITH THE SEED: the statements are not yours to turn. If you find one false, say at which input.
  Laid BY PROGRAM, IN A SANDBOX (cutbox-rows.mjs): the forced cells as the released guide's own fill.sh prints them over the translation b63afd2822e6b1d5… (all of the seat's roots in one cut). By AI agents, Wed Nov 11 2026. No macro, syntax, notation, axiom, sorry.
-/
import Derived.Test.YbulkettaFmtChecked
import GoSem.Claim
import GoSem.ClaimJoined
import GoSem.ClaimMapViews
import Derived.JoinedTies
import Derived.KernelRfl
namespace Go.Proofs.YbulkettaFmt
/- THE CELL 'sum', in the pinned program and in every row, IS THE sha256 OF THE DUMP (.gsa) THAT YbulkettaFmtProg.lean LOADS. Nothing in Lean hashes anything: it is a label: what it is worth is what the hold of that sum in a sandbox is worth. -/
noncomputable def Ybaf.pinned : Pinned := { name := "ybulkettafmt", sum := "b63afd2822e6b1d5a91365812e6c11c21e59d673a1741dc51ae3efa741d29d11", checked := Ybaf.checked }
namespace Rows
def none {H : Type} : Left H := { results := [], args := [] }

/- WHAT THE LISTED PACKAGE-LEVEL VARIABLES READ AS WHEN THE CALL BEGINS. Each datum BY PROGRAM (the guide's laid-datum.mjs) off the statement by which the dump's own 'gosem.cut.vars' lays the variable. In a bare row this is a premise. The card (YbulkettaFmtCards.lean) ties it to the program's text. -/
def laid_example_com_tenure_tenure_internal_registry_ErrNotFound {H : Type} : DataW H := .iface "*errors.errorString" (.ptr (.agg [.lit (.string [110, 111, 116, 32, 114, 101, 103, 105, 115, 116, 101, 114, 101, 100])]))
def laid_example_com_tenure_tenure_internal_registry_ErrNotSponsor {H : Type} : DataW H := .iface "*errors.errorString" (.ptr (.agg [.lit (.string [115, 112, 111, 110, 115, 111, 114, 101, 100, 32, 98, 121, 32, 97, 110, 111, 116, 104, 101, 114, 32, 114, 101, 103, 105, 115, 116, 114, 97, 114])]))
def laid_example_com_tenure_tenure_internal_registry_ErrStatusProhibits {H : Type} : DataW H := .iface "*errors.errorString" (.ptr (.agg [.lit (.string [112, 114, 111, 104, 105, 98, 105, 116, 101, 100, 32, 98, 121, 32, 116, 104, 101, 32, 100, 111, 109, 97, 105, 110, 39, 115, 32, 115, 116, 97, 116, 117, 115])]))

/-- 'registry.LawS7280BWhole': WHATEVER THE INPUT: true; the input reads as it did. -/
def lawS7280BWholeSpec : ChangeSpec := { name := "lawS7280BWhole", vars := ["example.com/tenure/tenure/internal/registry.ErrNotFound", "example.com/tenure/tenure/internal/registry.ErrNotSponsor"], fn := fun _ => fun
  | [d1, d2, d3, d4, g1, g2] => { results := [.lit (.bool true)], args := [d1, d2, d3, d4], vars := [g1, g2] }
  | _ => none }
def lawS7280BWholeRow : OpenClaim := { program := "ybulkettafmt", sum := "b63afd2822e6b1d5a91365812e6c11c21e59d673a1741dc51ae3efa741d29d11", func := "example.com/tenure/tenure/internal/registry.LawS7280BWhole", spec := "lawS7280BWhole", stops := ["fmt.errorf"], inPlace := ["fmt.errorf", "internal/reflectlite.TypeOf"], unfollowed := true, recurses := true, named := ["example.com/tenure/tenure/internal/registry.ErrNotFound", "example.com/tenure/tenure/internal/registry.ErrNotSponsor"], ifaces := true, apart := false, laid := [("example.com/tenure/tenure/internal/registry.ErrNotFound", laid_example_com_tenure_tenure_internal_registry_ErrNotFound), ("example.com/tenure/tenure/internal/registry.ErrNotSponsor", laid_example_com_tenure_tenure_internal_registry_ErrNotSponsor)] }
/-- NO THEOREM (fmt's text is open here; it may be false): for the released tool's asking of the row's closed facts alone. THE STATEMENT IS 'LawS7280BWholeToldSaid' (YbulkettaFmtCards.lean). -/
def LawS7280BWholeFormAsk : Prop := lawS7280BWholeRow.holds Ybaf.pinned (OpenSpec.ofChange lawS7280BWholeSpec)

/-- ITS FALSE NEIGHBOUR: 'it returns false'. Refute it at one input. -/
def lawS7280BWholeWrong : ChangeSpec := { name := "lawS7280BWhole", vars := ["example.com/tenure/tenure/internal/registry.ErrNotFound", "example.com/tenure/tenure/internal/registry.ErrNotSponsor"], fn := fun _ => fun
  | [d1, d2, d3, d4, g1, g2] => { results := [.lit (.bool false)], args := [d1, d2, d3, d4], vars := [g1, g2] }
  | _ => none }
def LawS7280BWholeWrongFormAsk : Prop := lawS7280BWholeRow.holds Ybaf.pinned (OpenSpec.ofChange lawS7280BWholeWrong)

/-- 'registry.LawS7280CWhole': WHATEVER THE INPUT: true; the input reads as it did. -/
def lawS7280CWholeSpec : ChangeSpec := { name := "lawS7280CWhole", vars := ["example.com/tenure/tenure/internal/registry.ErrStatusProhibits"], fn := fun _ => fun
  | [d1, d2, d3, d4, g1] => { results := [.lit (.bool true)], args := [d1, d2, d3, d4], vars := [g1] }
  | _ => none }
def lawS7280CWholeRow : OpenClaim := { program := "ybulkettafmt", sum := "b63afd2822e6b1d5a91365812e6c11c21e59d673a1741dc51ae3efa741d29d11", func := "example.com/tenure/tenure/internal/registry.LawS7280CWhole", spec := "lawS7280CWhole", stops := ["fmt.errorf"], inPlace := ["fmt.errorf", "internal/reflectlite.TypeOf"], unfollowed := true, recurses := true, named := ["example.com/tenure/tenure/internal/registry.ErrStatusProhibits"], ifaces := true, apart := false, laid := [("example.com/tenure/tenure/internal/registry.ErrStatusProhibits", laid_example_com_tenure_tenure_internal_registry_ErrStatusProhibits)] }
/-- NO THEOREM (fmt's text is open here; it may be false): for the released tool's asking of the row's closed facts alone. THE STATEMENT IS 'LawS7280CWholeToldSaid' (YbulkettaFmtCards.lean). -/
def LawS7280CWholeFormAsk : Prop := lawS7280CWholeRow.holds Ybaf.pinned (OpenSpec.ofChange lawS7280CWholeSpec)

/-- ITS FALSE NEIGHBOUR: 'it returns false'. Refute it at one input. -/
def lawS7280CWholeWrong : ChangeSpec := { name := "lawS7280CWhole", vars := ["example.com/tenure/tenure/internal/registry.ErrStatusProhibits"], fn := fun _ => fun
  | [d1, d2, d3, d4, g1] => { results := [.lit (.bool false)], args := [d1, d2, d3, d4], vars := [g1] }
  | _ => none }
def LawS7280CWholeWrongFormAsk : Prop := lawS7280CWholeRow.holds Ybaf.pinned (OpenSpec.ofChange lawS7280CWholeWrong)

end Rows
end Go.Proofs.YbulkettaFmt
