/-
  No cell of these rows narrows 'for every input' (looked for: loops, veiled, ifaces, maps, wideKeys, modest, calm, conditions, laid).
  DERIVED. THE GIVEN ROWS OF THIS SEAT. 4 by the template 'for every input the law returns true; each argument reads behind the call as it read before'; 0 by the template 'total and deterministic' (their statements: YbulkbmqmTotals.lean).
  GIVEN WITH THE SEED: the statements are not yours to turn. If you find one false, say at which input.
  Laid BY PROGRAM, IN A SANDBOX (cutbox-rows.mjs): the forced cells as the released guide's own fill.sh prints them over the translation 3c09965f1bf9a36b… (all of the seat's roots in one cut). By AI agents, Wed Nov 11 2026. No macro, syntax, notation, axiom, sorry.
-/
import Derived.Test.YbulkbmqmChecked
import GoSem.Claim
import GoSem.ClaimJoined
import GoSem.ClaimMapViews
import Derived.JoinedTies
import Derived.KernelRfl
namespace Go.Proofs.Ybulkbmqm
/- THE CELL 'sum', in the pinned program and in every row, IS THE sha256 OF THE DUMP (.gsa) THAT YbulkbmqmProg.lean LOADS. Nothing in Lean hashes anything: it is a label: what it is worth is what the hold of that sum in a sandbox is worth. -/
noncomputable def Yba.pinned : Pinned := { name := "ybulkbmqm", sum := "3c09965f1bf9a36b798e3dffce98111c84284516c7657894d410bb7c00b623cb", checked := Yba.checked }
namespace Rows
def none {H : Type} : Left H := { results := [], args := [] }

/-- 'tandemless.LawS3171AExact': WHATEVER THE INPUT: true; the input reads as it did. -/
def lawS3171AExactSpec : ChangeSpec := { name := "lawS3171AExact", fn := fun _ => fun
  | [d1, d2, d3, d4] => { results := [.lit (.bool true)], args := [d1, d2, d3, d4] }
  | _ => none }
def lawS3171AExactRow : OpenClaim := { program := "ybulkbmqm", sum := "3c09965f1bf9a36b798e3dffce98111c84284516c7657894d410bb7c00b623cb", func := "example.com/tandemless/tandemless.LawS3171AExact", spec := "lawS3171AExact", apart := false }
def LawS3171AExactSaid : Prop := lawS3171AExactRow.holds Yba.pinned (OpenSpec.ofChange lawS3171AExactSpec)

/-- ITS FALSE NEIGHBOUR: 'it returns false'. Refute it at one input. -/
def lawS3171AExactWrong : ChangeSpec := { name := "lawS3171AExact", fn := fun _ => fun
  | [d1, d2, d3, d4] => { results := [.lit (.bool false)], args := [d1, d2, d3, d4] }
  | _ => none }
def LawS3171AExactWrongFalsely : Prop := lawS3171AExactRow.holds Yba.pinned (OpenSpec.ofChange lawS3171AExactWrong)

/-- 'tandemless.LawS3171ARoundTrip': WHATEVER THE INPUT: true; the input reads as it did. -/
def lawS3171ARoundTripSpec : ChangeSpec := { name := "lawS3171ARoundTrip", fn := fun _ => fun
  | [d1, d2, d3, d4, d5, d6] => { results := [.lit (.bool true)], args := [d1, d2, d3, d4, d5, d6] }
  | _ => none }
def lawS3171ARoundTripRow : OpenClaim := { program := "ybulkbmqm", sum := "3c09965f1bf9a36b798e3dffce98111c84284516c7657894d410bb7c00b623cb", func := "example.com/tandemless/tandemless.LawS3171ARoundTrip", spec := "lawS3171ARoundTrip", apart := false }
def LawS3171ARoundTripSaid : Prop := lawS3171ARoundTripRow.holds Yba.pinned (OpenSpec.ofChange lawS3171ARoundTripSpec)

/-- ITS FALSE NEIGHBOUR: 'it returns false'. Refute it at one input. -/
def lawS3171ARoundTripWrong : ChangeSpec := { name := "lawS3171ARoundTrip", fn := fun _ => fun
  | [d1, d2, d3, d4, d5, d6] => { results := [.lit (.bool false)], args := [d1, d2, d3, d4, d5, d6] }
  | _ => none }
def LawS3171ARoundTripWrongFalsely : Prop := lawS3171ARoundTripRow.holds Yba.pinned (OpenSpec.ofChange lawS3171ARoundTripWrong)

/-- 'tandemless.LawS3171BOrder': WHATEVER THE INPUT: true; the input reads as it did. -/
def lawS3171BOrderSpec : ChangeSpec := { name := "lawS3171BOrder", fn := fun _ => fun
  | [d] => { results := [.lit (.bool true)], args := [d] }
  | _ => none }
def lawS3171BOrderRow : OpenClaim := { program := "ybulkbmqm", sum := "3c09965f1bf9a36b798e3dffce98111c84284516c7657894d410bb7c00b623cb", func := "example.com/tandemless/tandemless.LawS3171BOrder", spec := "lawS3171BOrder", unfollowed := true, recurses := true, apart := false }
def LawS3171BOrderSaid : Prop := lawS3171BOrderRow.holds Yba.pinned (OpenSpec.ofChange lawS3171BOrderSpec)

/-- ITS FALSE NEIGHBOUR: 'it returns false'. Refute it at one input. -/
def lawS3171BOrderWrong : ChangeSpec := { name := "lawS3171BOrder", fn := fun _ => fun
  | [d] => { results := [.lit (.bool false)], args := [d] }
  | _ => none }
def LawS3171BOrderWrongFalsely : Prop := lawS3171BOrderRow.holds Yba.pinned (OpenSpec.ofChange lawS3171BOrderWrong)

/-- 'tandemless.LawS3171BFilter': WHATEVER THE INPUT: true; the input reads as it did. -/
def lawS3171BFilterSpec : ChangeSpec := { name := "lawS3171BFilter", fn := fun _ => fun
  | [d] => { results := [.lit (.bool true)], args := [d] }
  | _ => none }
def lawS3171BFilterRow : OpenClaim := { program := "ybulkbmqm", sum := "3c09965f1bf9a36b798e3dffce98111c84284516c7657894d410bb7c00b623cb", func := "example.com/tandemless/tandemless.LawS3171BFilter", spec := "lawS3171BFilter", unfollowed := true, recurses := true, apart := false }
def LawS3171BFilterSaid : Prop := lawS3171BFilterRow.holds Yba.pinned (OpenSpec.ofChange lawS3171BFilterSpec)

/-- ITS FALSE NEIGHBOUR: 'it returns false'. Refute it at one input. -/
def lawS3171BFilterWrong : ChangeSpec := { name := "lawS3171BFilter", fn := fun _ => fun
  | [d] => { results := [.lit (.bool false)], args := [d] }
  | _ => none }
def LawS3171BFilterWrongFalsely : Prop := lawS3171BFilterRow.holds Yba.pinned (OpenSpec.ofChange lawS3171BFilterWrong)

end Rows
end Go.Proofs.Ybulkbmqm
