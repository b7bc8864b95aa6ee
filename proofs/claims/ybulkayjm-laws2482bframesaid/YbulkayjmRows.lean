/-
  No cell of these rows narrows 'for every input' (looked for: loops, veiled, ifaces, maps, wideKeys, modest, calm, conditions, laid).
  DERIVED. THE GIVEN ROWS OF THIS SEAT. 2 by the template 'for every input the law returns true; each argument reads behind the call as it read before'; 0 by the template 'total and deterministic' (their statements: YbulkayjmTotals.lean).
  GIVEN WITH THE SEED: the statements are not yours to turn. If you find one false, say at which input.
  Laid BY PROGRAM, IN A SANDBOX (cutbox-rows.mjs): the forced cells as the released guide's own fill.sh prints them over the translation b53590762ecd215f… (all of the seat's roots in one cut). By AI agents, Wed Nov 11 2026. No macro, syntax, notation, axiom, sorry.
-/
import Derived.Test.YbulkayjmChecked
import GoSem.Claim
import GoSem.ClaimJoined
import GoSem.ClaimMapViews
import Derived.JoinedTies
import Derived.KernelRfl
namespace Go.Proofs.Ybulkayjm
/- THE CELL 'sum', in the pinned program and in every row, IS THE sha256 OF THE DUMP (.gsa) THAT YbulkayjmProg.lean LOADS. Nothing in Lean hashes anything: it is a label: what it is worth is what the hold of that sum in a sandbox is worth. -/
noncomputable def Yba.pinned : Pinned := { name := "ybulkayjm", sum := "b53590762ecd215f11ffd041185b7a7a82a352a2d781395d199dd4dbfb209cca", checked := Yba.checked }
namespace Rows
def none {H : Type} : Left H := { results := [], args := [] }

/-- 'mpwiretest.LawS2482BExact': WHATEVER THE INPUT: true; the input reads as it did. -/
def lawS2482BExactSpec : ChangeSpec := { name := "lawS2482BExact", fn := fun _ => fun
  | [d1, d2] => { results := [.lit (.bool true)], args := [d1, d2] }
  | _ => none }
def lawS2482BExactRow : OpenClaim := { program := "ybulkayjm", sum := "b53590762ecd215f11ffd041185b7a7a82a352a2d781395d199dd4dbfb209cca", func := "example.com/wireloom/wireloom/pkg/mpwire/mpwiretest.LawS2482BExact", spec := "lawS2482BExact", named := ["encoding/binary.BigEndian"], apart := false }
def LawS2482BExactSaid : Prop := lawS2482BExactRow.holds Yba.pinned (OpenSpec.ofChange lawS2482BExactSpec)

/-- ITS FALSE NEIGHBOUR: 'it returns false'. Refute it at one input. -/
def lawS2482BExactWrong : ChangeSpec := { name := "lawS2482BExact", fn := fun _ => fun
  | [d1, d2] => { results := [.lit (.bool false)], args := [d1, d2] }
  | _ => none }
def LawS2482BExactWrongFalsely : Prop := lawS2482BExactRow.holds Yba.pinned (OpenSpec.ofChange lawS2482BExactWrong)

/-- 'mpwiretest.LawS2482BFrame': WHATEVER THE INPUT: true; the input reads as it did. -/
def lawS2482BFrameSpec : ChangeSpec := { name := "lawS2482BFrame", fn := fun _ => fun
  | [d1, d2] => { results := [.lit (.bool true)], args := [d1, d2] }
  | _ => none }
def lawS2482BFrameRow : OpenClaim := { program := "ybulkayjm", sum := "b53590762ecd215f11ffd041185b7a7a82a352a2d781395d199dd4dbfb209cca", func := "example.com/wireloom/wireloom/pkg/mpwire/mpwiretest.LawS2482BFrame", spec := "lawS2482BFrame", named := ["encoding/binary.BigEndian"], apart := false }
def LawS2482BFrameSaid : Prop := lawS2482BFrameRow.holds Yba.pinned (OpenSpec.ofChange lawS2482BFrameSpec)

/-- ITS FALSE NEIGHBOUR: 'it returns false'. Refute it at one input. -/
def lawS2482BFrameWrong : ChangeSpec := { name := "lawS2482BFrame", fn := fun _ => fun
  | [d1, d2] => { results := [.lit (.bool false)], args := [d1, d2] }
  | _ => none }
def LawS2482BFrameWrongFalsely : Prop := lawS2482BFrameRow.holds Yba.pinned (OpenSpec.ofChange lawS2482BFrameWrong)

end Rows
end Go.Proofs.Ybulkayjm
