/-
  No cell of these rows narrows 'for every input' (looked for: loops, veiled, ifaces, maps, wideKeys, modest, calm, conditions, laid).
  DERIVED. THE GIVEN ROWS OF THIS SEAT. 2 by the template 'for every input the law returns true; each argument reads behind the call as it read before'; 0 by the template 'total and deterministic' (their statements: YbulkayiyTotals.lean).
  GIVEN WITH THE SEED: the statements are not yours to turn. If you find one false, say at which input.
  Laid BY PROGRAM, IN A SANDBOX (cutbox-rows.mjs): the forced cells as the released guide's own fill.sh prints them over the translation 3de663b364c48906… (all of the seat's roots in one cut). By AI agents, Wed Nov 11 2026. No macro, syntax, notation, axiom, sorry.
-/
import Derived.Test.YbulkayiyChecked
import GoSem.Claim
import GoSem.ClaimJoined
import GoSem.ClaimMapViews
import Derived.JoinedTies
import Derived.KernelRfl
namespace Go.Proofs.Ybulkayiy
/- THE CELL 'sum', in the pinned program and in every row, IS THE sha256 OF THE DUMP (.gsa) THAT YbulkayiyProg.lean LOADS. Nothing in Lean hashes anything: it is a label: what it is worth is what the hold of that sum in a sandbox is worth. -/
noncomputable def Yba.pinned : Pinned := { name := "ybulkayiy", sum := "3de663b364c48906651a2ccde6e349dd717efc77aeb40f8dfe56ce4bd989652a", checked := Yba.checked }
namespace Rows
def none {H : Type} : Left H := { results := [], args := [] }

/-- 'host.LawS2481CText': WHATEVER THE INPUT: true; the input reads as it did. -/
def lawS2481CTextSpec : ChangeSpec := { name := "lawS2481CText", fn := fun _ => fun
  | [d1, d2] => { results := [.lit (.bool true)], args := [d1, d2] }
  | _ => none }
def lawS2481CTextRow : OpenClaim := { program := "ybulkayiy", sum := "3de663b364c48906651a2ccde6e349dd717efc77aeb40f8dfe56ce4bd989652a", func := "example.com/moorline/moorline/host.LawS2481CText", spec := "lawS2481CText", apart := false }
def LawS2481CTextSaid : Prop := lawS2481CTextRow.holds Yba.pinned (OpenSpec.ofChange lawS2481CTextSpec)

/-- ITS FALSE NEIGHBOUR: 'it returns false'. Refute it at one input. -/
def lawS2481CTextWrong : ChangeSpec := { name := "lawS2481CText", fn := fun _ => fun
  | [d1, d2] => { results := [.lit (.bool false)], args := [d1, d2] }
  | _ => none }
def LawS2481CTextWrongFalsely : Prop := lawS2481CTextRow.holds Yba.pinned (OpenSpec.ofChange lawS2481CTextWrong)

/-- 'host.LawS2481CFromReply': WHATEVER THE INPUT: true; the input reads as it did. -/
def lawS2481CFromReplySpec : ChangeSpec := { name := "lawS2481CFromReply", fn := fun _ => fun
  | [d1, d2] => { results := [.lit (.bool true)], args := [d1, d2] }
  | _ => none }
def lawS2481CFromReplyRow : OpenClaim := { program := "ybulkayiy", sum := "3de663b364c48906651a2ccde6e349dd717efc77aeb40f8dfe56ce4bd989652a", func := "example.com/moorline/moorline/host.LawS2481CFromReply", spec := "lawS2481CFromReply", apart := false }
def LawS2481CFromReplySaid : Prop := lawS2481CFromReplyRow.holds Yba.pinned (OpenSpec.ofChange lawS2481CFromReplySpec)

/-- ITS FALSE NEIGHBOUR: 'it returns false'. Refute it at one input. -/
def lawS2481CFromReplyWrong : ChangeSpec := { name := "lawS2481CFromReply", fn := fun _ => fun
  | [d1, d2] => { results := [.lit (.bool false)], args := [d1, d2] }
  | _ => none }
def LawS2481CFromReplyWrongFalsely : Prop := lawS2481CFromReplyRow.holds Yba.pinned (OpenSpec.ofChange lawS2481CFromReplyWrong)

end Rows
end Go.Proofs.Ybulkayiy
