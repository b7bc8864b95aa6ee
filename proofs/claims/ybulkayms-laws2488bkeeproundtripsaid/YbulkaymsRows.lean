/-
  No cell of these rows narrows 'for every input' (looked for: loops, veiled, ifaces, maps, wideKeys, modest, calm, conditions, laid).
  DERIVED. THE GIVEN ROWS OF THIS SEAT. 6 by the template 'for every input the law returns true; each argument reads behind the call as it read before'; 0 by the template 'total and deterministic' (their statements: YbulkaymsTotals.lean).
  GIVEN WITH THE SEED: the statements are not yours to turn. If you find one false, say at which input.
  Laid BY PROGRAM, IN A SANDBOX (cutbox-rows.mjs): the forced cells as the released guide's own fill.sh prints them over the translation 4939c2933c42433e… (all of the seat's roots in one cut). By AI agents, Wed Nov 11 2026. No macro, syntax, notation, axiom, sorry.
-/
import Derived.Test.YbulkaymsChecked
import GoSem.Claim
import GoSem.ClaimJoined
import GoSem.ClaimMapViews
import Derived.JoinedTies
import Derived.KernelRfl
namespace Go.Proofs.Ybulkayms
/- THE CELL 'sum', in the pinned program and in every row, IS THE sha256 OF THE DUMP (.gsa) THAT YbulkaymsProg.lean LOADS. Nothing in Lean hashes anything: it is a label: what it is worth is what the hold of that sum in a sandbox is worth. -/
noncomputable def Yba.pinned : Pinned := { name := "ybulkayms", sum := "4939c2933c42433ebcc8b7f55fdccf86e0148deddca0109d6abfa55e331c7cda", checked := Yba.checked }
namespace Rows
def none {H : Type} : Left H := { results := [], args := [] }

/-- 'antecede.LawS2488AExact': WHATEVER THE INPUT: true; the input reads as it did. -/
def lawS2488AExactSpec : ChangeSpec := { name := "lawS2488AExact", fn := fun _ => fun
  | [d1, d2] => { results := [.lit (.bool true)], args := [d1, d2] }
  | _ => none }
def lawS2488AExactRow : OpenClaim := { program := "ybulkayms", sum := "4939c2933c42433ebcc8b7f55fdccf86e0148deddca0109d6abfa55e331c7cda", func := "example.com/antecede/antecede.LawS2488AExact", spec := "lawS2488AExact", inPlace := ["internal/abi.NoEscape"], plainKeys := false, apart := false }
def LawS2488AExactSaid : Prop := lawS2488AExactRow.holds Yba.pinned (OpenSpec.ofChange lawS2488AExactSpec)

/-- ITS FALSE NEIGHBOUR: 'it returns false'. Refute it at one input. -/
def lawS2488AExactWrong : ChangeSpec := { name := "lawS2488AExact", fn := fun _ => fun
  | [d1, d2] => { results := [.lit (.bool false)], args := [d1, d2] }
  | _ => none }
def LawS2488AExactWrongFalsely : Prop := lawS2488AExactRow.holds Yba.pinned (OpenSpec.ofChange lawS2488AExactWrong)

/-- 'antecede.LawS2488ABoundary': WHATEVER THE INPUT: true; the input reads as it did. -/
def lawS2488ABoundarySpec : ChangeSpec := { name := "lawS2488ABoundary", fn := fun _ => fun
  | [d1, d2, d3] => { results := [.lit (.bool true)], args := [d1, d2, d3] }
  | _ => none }
def lawS2488ABoundaryRow : OpenClaim := { program := "ybulkayms", sum := "4939c2933c42433ebcc8b7f55fdccf86e0148deddca0109d6abfa55e331c7cda", func := "example.com/antecede/antecede.LawS2488ABoundary", spec := "lawS2488ABoundary", inPlace := ["internal/abi.NoEscape"], plainKeys := false, apart := false }
def LawS2488ABoundarySaid : Prop := lawS2488ABoundaryRow.holds Yba.pinned (OpenSpec.ofChange lawS2488ABoundarySpec)

/-- ITS FALSE NEIGHBOUR: 'it returns false'. Refute it at one input. -/
def lawS2488ABoundaryWrong : ChangeSpec := { name := "lawS2488ABoundary", fn := fun _ => fun
  | [d1, d2, d3] => { results := [.lit (.bool false)], args := [d1, d2, d3] }
  | _ => none }
def LawS2488ABoundaryWrongFalsely : Prop := lawS2488ABoundaryRow.holds Yba.pinned (OpenSpec.ofChange lawS2488ABoundaryWrong)

/-- 'antecede.LawS2488BDecodes': WHATEVER THE INPUT: true; the input reads as it did. -/
def lawS2488BDecodesSpec : ChangeSpec := { name := "lawS2488BDecodes", fn := fun _ => fun
  | [d1, d2, d3] => { results := [.lit (.bool true)], args := [d1, d2, d3] }
  | _ => none }
def lawS2488BDecodesRow : OpenClaim := { program := "ybulkayms", sum := "4939c2933c42433ebcc8b7f55fdccf86e0148deddca0109d6abfa55e331c7cda", func := "example.com/antecede/antecede.LawS2488BDecodes", spec := "lawS2488BDecodes", plainKeys := false, apart := false }
def LawS2488BDecodesSaid : Prop := lawS2488BDecodesRow.holds Yba.pinned (OpenSpec.ofChange lawS2488BDecodesSpec)

/-- ITS FALSE NEIGHBOUR: 'it returns false'. Refute it at one input. -/
def lawS2488BDecodesWrong : ChangeSpec := { name := "lawS2488BDecodes", fn := fun _ => fun
  | [d1, d2, d3] => { results := [.lit (.bool false)], args := [d1, d2, d3] }
  | _ => none }
def LawS2488BDecodesWrongFalsely : Prop := lawS2488BDecodesRow.holds Yba.pinned (OpenSpec.ofChange lawS2488BDecodesWrong)

/-- 'antecede.LawS2488BKeepRoundTrip': WHATEVER THE INPUT: true; the input reads as it did. -/
def lawS2488BKeepRoundTripSpec : ChangeSpec := { name := "lawS2488BKeepRoundTrip", fn := fun _ => fun
  | [d1, d2] => { results := [.lit (.bool true)], args := [d1, d2] }
  | _ => none }
def lawS2488BKeepRoundTripRow : OpenClaim := { program := "ybulkayms", sum := "4939c2933c42433ebcc8b7f55fdccf86e0148deddca0109d6abfa55e331c7cda", func := "example.com/antecede/antecede.LawS2488BKeepRoundTrip", spec := "lawS2488BKeepRoundTrip", plainKeys := false, apart := false }
def LawS2488BKeepRoundTripSaid : Prop := lawS2488BKeepRoundTripRow.holds Yba.pinned (OpenSpec.ofChange lawS2488BKeepRoundTripSpec)

/-- ITS FALSE NEIGHBOUR: 'it returns false'. Refute it at one input. -/
def lawS2488BKeepRoundTripWrong : ChangeSpec := { name := "lawS2488BKeepRoundTrip", fn := fun _ => fun
  | [d1, d2] => { results := [.lit (.bool false)], args := [d1, d2] }
  | _ => none }
def LawS2488BKeepRoundTripWrongFalsely : Prop := lawS2488BKeepRoundTripRow.holds Yba.pinned (OpenSpec.ofChange lawS2488BKeepRoundTripWrong)

/-- 'antecede.LawS2488CSplit': WHATEVER THE INPUT: true; the input reads as it did. -/
def lawS2488CSplitSpec : ChangeSpec := { name := "lawS2488CSplit", fn := fun _ => fun
  | [d] => { results := [.lit (.bool true)], args := [d] }
  | _ => none }
def lawS2488CSplitRow : OpenClaim := { program := "ybulkayms", sum := "4939c2933c42433ebcc8b7f55fdccf86e0148deddca0109d6abfa55e331c7cda", func := "example.com/antecede/antecede.LawS2488CSplit", spec := "lawS2488CSplit", plainKeys := false, apart := false }
def LawS2488CSplitSaid : Prop := lawS2488CSplitRow.holds Yba.pinned (OpenSpec.ofChange lawS2488CSplitSpec)

/-- ITS FALSE NEIGHBOUR: 'it returns false'. Refute it at one input. -/
def lawS2488CSplitWrong : ChangeSpec := { name := "lawS2488CSplit", fn := fun _ => fun
  | [d] => { results := [.lit (.bool false)], args := [d] }
  | _ => none }
def LawS2488CSplitWrongFalsely : Prop := lawS2488CSplitRow.holds Yba.pinned (OpenSpec.ofChange lawS2488CSplitWrong)

/-- 'antecede.LawS2488CBytes': WHATEVER THE INPUT: true; the input reads as it did. -/
def lawS2488CBytesSpec : ChangeSpec := { name := "lawS2488CBytes", fn := fun _ => fun
  | [d] => { results := [.lit (.bool true)], args := [d] }
  | _ => none }
def lawS2488CBytesRow : OpenClaim := { program := "ybulkayms", sum := "4939c2933c42433ebcc8b7f55fdccf86e0148deddca0109d6abfa55e331c7cda", func := "example.com/antecede/antecede.LawS2488CBytes", spec := "lawS2488CBytes", plainKeys := false, apart := false }
def LawS2488CBytesSaid : Prop := lawS2488CBytesRow.holds Yba.pinned (OpenSpec.ofChange lawS2488CBytesSpec)

/-- ITS FALSE NEIGHBOUR: 'it returns false'. Refute it at one input. -/
def lawS2488CBytesWrong : ChangeSpec := { name := "lawS2488CBytes", fn := fun _ => fun
  | [d] => { results := [.lit (.bool false)], args := [d] }
  | _ => none }
def LawS2488CBytesWrongFalsely : Prop := lawS2488CBytesRow.holds Yba.pinned (OpenSpec.ofChange lawS2488CBytesWrong)

end Rows
end Go.Proofs.Ybulkayms
