/-
  NARROWER THAN 'FOR EVERY INPUT', by the rows' own cells (each row's printed sentence says how): LawS3175BCounts: laid · LawS3175BAddRemove: laid.
  DERIVED. THE GIVEN ROWS OF THIS SEAT. 2 by the template 'for every input the law returns true; each argument reads behind the call as it read before'; 0 by the template 'total and deterministic' (their statements: YbulkbmsqDoorTotals.lean).
  GIVEN WITH THE SEED: the statements are not yours to turn. If you find one false, say at which input.
  Laid BY PROGRAM, IN A SANDBOX (cutbox-rows.mjs): the forced cells as the released guide's own fill.sh prints them over the translation 9bd1111a32aaf723… (all of the seat's roots in one cut). By AI agents, Wed Nov 11 2026. No macro, syntax, notation, axiom, sorry.
-/
import Derived.Test.YbulkbmsqDoorChecked
import GoSem.Claim
import GoSem.ClaimJoined
import GoSem.ClaimMapViews
import Derived.JoinedTies
import Derived.KernelRfl
namespace Go.Proofs.YbulkbmsqDoor
/- THE CELL 'sum', in the pinned program and in every row, IS THE sha256 OF THE DUMP (.gsa) THAT YbulkbmsqDoorProg.lean LOADS. Nothing in Lean hashes anything: it is a label: what it is worth is what the hold of that sum in a sandbox is worth. -/
noncomputable def Ybad.pinned : Pinned := { name := "ybulkbmsqdoor", sum := "9bd1111a32aaf723e6abeb6cbc721377eae26302fe4b46898281efdf61a9383f", checked := Ybad.checked }
namespace Rows
def none {H : Type} : Left H := { results := [], args := [] }

/- WHAT THE LISTED PACKAGE-LEVEL VARIABLES READ AS WHEN THE CALL BEGINS. Each datum BY PROGRAM (the guide's laid-datum.mjs) off the statement by which the dump's own 'gosem.cut.vars' lays the variable. In a bare row this is a premise. The card (YbulkbmsqDoorCards.lean) ties it to the program's text. -/
def laid_net_netip_z4 {H : Type} : DataW H := .agg [.ptr (.agg [.lit (.bool false), .lit (.string [])])]
def laid_net_netip_z6noz {H : Type} : DataW H := .agg [.ptr (.agg [.lit (.bool true), .lit (.string [])])]
def laid_net_netip_z0 {H : Type} : DataW H := .agg [.nil]

/-- 'node.LawS3175BCounts': WHATEVER THE INPUT: true; the input reads as it did. -/
def lawS3175BCountsSpec : ChangeSpec := { name := "lawS3175BCounts", fn := fun _ => fun
  | [d] => { results := [.lit (.bool true)], args := [d] }
  | _ => none }
def lawS3175BCountsRow : OpenClaim := { program := "ybulkbmsqdoor", sum := "9bd1111a32aaf723e6abeb6cbc721377eae26302fe4b46898281efdf61a9383f", func := "example.com/keyward/keyward/internal/node.LawS3175BCounts", spec := "lawS3175BCounts", named := ["net/netip.z4", "net/netip.z0", "net/netip.z6noz"], plainKeys := false, apart := false, laid := [("net/netip.z4", laid_net_netip_z4), ("net/netip.z6noz", laid_net_netip_z6noz), ("net/netip.z0", laid_net_netip_z0)] }
def LawS3175BCountsSaid : Prop := lawS3175BCountsRow.holds Ybad.pinned (OpenSpec.ofChange lawS3175BCountsSpec)

/-- ITS FALSE NEIGHBOUR: 'it returns false'. Refute it at one input. -/
def lawS3175BCountsWrong : ChangeSpec := { name := "lawS3175BCounts", fn := fun _ => fun
  | [d] => { results := [.lit (.bool false)], args := [d] }
  | _ => none }
def LawS3175BCountsWrongFalsely : Prop := lawS3175BCountsRow.holds Ybad.pinned (OpenSpec.ofChange lawS3175BCountsWrong)

/-- 'node.LawS3175BAddRemove': WHATEVER THE INPUT: true; the input reads as it did. -/
def lawS3175BAddRemoveSpec : ChangeSpec := { name := "lawS3175BAddRemove", fn := fun _ => fun
  | [d1, d2, d3] => { results := [.lit (.bool true)], args := [d1, d2, d3] }
  | _ => none }
def lawS3175BAddRemoveRow : OpenClaim := { program := "ybulkbmsqdoor", sum := "9bd1111a32aaf723e6abeb6cbc721377eae26302fe4b46898281efdf61a9383f", func := "example.com/keyward/keyward/internal/node.LawS3175BAddRemove", spec := "lawS3175BAddRemove", named := ["net/netip.z4", "net/netip.z0", "net/netip.z6noz"], plainKeys := false, apart := false, laid := [("net/netip.z4", laid_net_netip_z4), ("net/netip.z6noz", laid_net_netip_z6noz), ("net/netip.z0", laid_net_netip_z0)] }
def LawS3175BAddRemoveSaid : Prop := lawS3175BAddRemoveRow.holds Ybad.pinned (OpenSpec.ofChange lawS3175BAddRemoveSpec)

/-- ITS FALSE NEIGHBOUR: 'it returns false'. Refute it at one input. -/
def lawS3175BAddRemoveWrong : ChangeSpec := { name := "lawS3175BAddRemove", fn := fun _ => fun
  | [d1, d2, d3] => { results := [.lit (.bool false)], args := [d1, d2, d3] }
  | _ => none }
def LawS3175BAddRemoveWrongFalsely : Prop := lawS3175BAddRemoveRow.holds Ybad.pinned (OpenSpec.ofChange lawS3175BAddRemoveWrong)

end Rows
end Go.Proofs.YbulkbmsqDoor
