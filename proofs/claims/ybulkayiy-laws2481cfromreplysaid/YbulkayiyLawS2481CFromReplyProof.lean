/-
  The proof of Rows.LawS2481CFromReplySaid: the frame of the given shell; the walk lies in YbulkayiyFrom.
-/
import Derived.Test.YbulkayiyRows
import Derived.Test.YbulkayiyFrom
import Derived.WalkKit
import Derived.ProofKit
import Derived.OpenShut
import Derived.ChangeOld
import Derived.Below
import Derived.ShutString
namespace Go.Proofs.Ybulkayiy.lawS2481CFromReply
open Go.ChangeShapes Go.WideShapes Go.ChangeAt Go.RowKit
open Go.ChangeMaps (open_string shut_string)
set_option linter.unusedVariables false      -- a walk need not use every 'w<i>' (that an integer argument fits its kind)

theorem own : ownKnob Yba.prog.godebug = none := by kernel_rfl
theorem laidOut : laidOutB Yba.prog = true := by kernel_rfl

/-! ### STEP 1: THE WALK: the Go text returns true, and writes nothing that was there. -/
theorem walk (a0 : ByteArray) (ao : Option Addr) (n cap : Nat) (ss : List ByteArray) (hcap : n ≤ cap) (w : World)
    (hc : ∀ j, j < n → ∃ x, ao = some x ∧ w.cell? (x.add j) = some (.string (ss.getD j ByteArray.empty))) :
    Calls Yba.prog 4 #[.string a0, .slice ao n cap] w fun e w' => e = .returned (.bool true) ∧ Below w.heap.size w w' :=
  Txt.law_from a0 ao n cap (fun j => ss.getD j ByteArray.empty) hcap w hc

/-! ### THE ROW's STEP: WRITTEN OUT: LEAVE IT -/
set_option maxRecDepth 100000 in
theorem lifted (os : Os) (started : os.Started) (H : Type) (enc : TypeId × Value → H) :
    ReturnsInHanded {} Yba.checked os 4 .any (Rows.lawS2481CFromReplySpec.pre6 enc Yba.prog Yba.f4 Rows.lawS2481CFromReplyRow.domain false) (Rows.lawS2481CFromReplySpec.post enc Yba.prog Yba.f4 false true false false) := by
  refine returnsInHanded_of_change (C := Yba.checked) own started (by kernel_rfl) Yba.func4
    (ChangeSpec.witness6 (enc := enc) (C := Yba.checked) false ⟨#[], #[.string ByteArray.empty, .slice none 0 0], []⟩ 8 (by kernel_rfl) (by kernel_rfl) (by kernel_rfl) (by kernel_rfl)) ?_
  intro W base args ds gs before hval0 hW hcnd _
  have hval : ∀ (j : Nat) t v, Yba.f4.params[j]? = some t → args[j]? = some v → Value.okWide Yba.prog W .any base t v := hval0
  have hW' := hW
  obtain ⟨p, q, hA0, hV, rfl, hfz, hnd⟩ := hW
  have hA : DataW.TrodAll enc Yba.prog W 0 (fun _ => true) true Yba.f4.params.toList args.toList ds p := hA0
  rw [Yba.params4] at hA hval
  obtain ⟨v0, vs0, d0, ds0, p0, q0, hargs, rfl, rfl, h0, r0⟩ := trodAll_cons hA
  obtain ⟨v1, vs1, d1, ds1, p1, q1, rfl, rfl, rfl, h1, r1⟩ := trodAll_cons r0
  obtain ⟨rfl, rfl, rfl⟩ := trodAll_nil r1
  obtain rfl : args = #[v0, v1] := by cases args; simp_all
  obtain ⟨rfl, rfl⟩ := trodVars_none hV
  obtain ⟨a0, rfl, rfl, rfl, w0⟩ := open_string Yba.underlying9 (hval 0 9 v0 rfl rfl) h0
  obtain ⟨a1, len1, cap1, rfl⟩ := okWide_slice Yba.underlying26 (hval 1 26 v1 rfl rfl)
  have k1 := h1
  have lt1 : ∀ x ∈ p1, x.block < W.heap.size := by obtain ⟨m, hm⟩ := k1; exact DataW.trod_lt m _ _ _ hm
  obtain ⟨ss, hcap, hcl⟩ : ∃ ss : List ByteArray, len1 ≤ cap1 ∧ ∀ j, j < len1 → ∃ x, a1 = some x ∧ W.cell? (x.add j) = some (.string (ss.getD j ByteArray.empty)) := by
    obtain ⟨fuel, hf⟩ := h1
    rcases open_strings Yba.underlying26 Yba.underlying9 (by kernel_rfl) hf with ⟨hcs, _⟩ | ⟨x, l, c, ss, hcs, _, hl, hm, hz, _, hcell, hws⟩
    · simp [Value.cells] at hcs
      obtain ⟨rfl, rfl, rfl⟩ := hcs
      exact ⟨[], Nat.le_refl _, fun j hj => absurd hj (Nat.not_lt_zero j)⟩
    · simp [Value.cells] at hcs
      obtain ⟨rfl, rfl, rfl⟩ := hcs
      refine ⟨ss, hl, fun j hj => ⟨x, rfl, hcell j ?_⟩⟩
      simp at hz
      omega
  clear hA0 hval0
  refine (walk a0 a1 len1 cap1 ss hcap W hcl).mono fun e W' ⟨he, bel⟩ => ?_
  subst he
  exact ⟨_, rfl, _, _, _, [], _, [], hW', trodAll_mk1 (shut_bool Yba.underlying4 _), (trodAll_cons_mk (shut_string Yba.underlying9 w0) (trodAll_cons_mk (Below.trod laidOut (by kernel_rfl) (of_decide_eq_true (by kernel_rfl)) k1 bel lt1) trodAll_mk0)), rfl, bel.frame _, fun h => by cases h⟩

theorem over : Rows.lawS2481CFromReplyRow.holds Yba.pinned (OpenSpec.ofChange Rows.lawS2481CFromReplySpec) :=
  OpenClaim.holds_of_wide 4 Yba.f4 rfl rfl rfl rfl rfl rfl rfl ⟨rfl, rfl, rfl, rfl, rfl⟩ rfl rfl rfl rfl rfl (by kernel_rfl) Yba.func4 (by kernel_rfl)
    (of_decide_eq_true (by kernel_rfl)) (by unfold Func.isWrapper; first | (rw [if_pos (by decide +kernel)]; kernel_rfl) | (rw [if_neg (by decide +kernel)]; exact ⟨rfl, rfl⟩))
    (fun os started H enc _ => lifted os started H enc)

/-- ████ THE STATEMENT ████ -/
theorem proved : Rows.LawS2481CFromReplySaid :=
  over
end Go.Proofs.Ybulkayiy.lawS2481CFromReply

namespace Go.Proofs.Ybulkayiy
theorem lawS2481CFromReply_holds : Rows.LawS2481CFromReplySaid := lawS2481CFromReply.proved
end Go.Proofs.Ybulkayiy
