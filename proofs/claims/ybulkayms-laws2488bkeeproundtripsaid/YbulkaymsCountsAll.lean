/-
  (*Log).appendCounts, for however many counts.
-/
import Derived.Test.YbulkaymsCounts
namespace Go.Proofs.Ybulkayms.Cnt
open Go.RowKit
open Go.Lib (uvarint byteCells uvarint_length64 uvarint_pos uvarint_small uvarint_big uvarintDec)

theorem app_none (w : World) (bo : Option Addr) (np : Nat) (ty : TypeId) : (Builtin.append_ #[25, 3] ty #[.slice bo np np, .int .i64 0]).run Yba.prog w = .ok (.slice bo np np) w := by
  obtain ⟨i, hi, hz0, hz1, hz2⟩ := info_parts info28
  have hw : IntKind.i64.wrap 0 = 0 := by rw [IntKind.wrap_i64]; omega
  cases bo <;> simp [Builtin.append_, run_underlying Yba.underlying25, run_underlying Yba.underlying3, sizeOf, typeInfo, hi, asInt, asIntOf, hw, storeCells]

/-- What the call of appendCounts gives: a slice of n numbers U. -/
def Got (w : World) (n : Nat) (U : Nat → Int) (e : Ending) (w' : World) : Prop :=
  ∃ a' C', e = .returned (.slice a' n C') ∧ (a' = none → n = 0) ∧ Hold w' a' n U ∧ Below w.heap.size w w'

set_option maxRecDepth 10000 in
set_option maxHeartbeats 1000000 in
theorem counts_none (lb eb st bk start g bl C2 np : Nat) (B : List UInt8) (bo : Option Addr) (V : Nat → Int) (w : World) (hL : LogAt w lb eb st bk start 0 g (start + bl) (start + C2) B)
    (hv : Hold w bo np V) (hnil : bo = none → np = 0) (hnp : np ≤ 1024) (hL2 : start + bl ≤ 1000000) (hst : st ≤ 10) (hbk : bk ≤ 10) :
    Calls Yba.prog 11 #[.pointer (some ⟨lb, 0, none⟩), .slice bo np np, .pointer (some ⟨eb, 0, none⟩)] w fun e w' => Got w np V e w' := by
  obtain ⟨sb, ns, sc, an, mc, s1, s2, s3⟩ := hL.sets
  obtain ⟨bb, nb, bc, t1, t2, t3⟩ := hL.blocks
  have e2 := hL.set_
  have e5 := hL.block_
  have e6 := hL.from_
  have hle := hL.le
  have hrun' := hid (app_none w.drew bo np 25)
  have i0 : (0 : Int) ≤ (st : Int) := by omega
  have i1 : (st : Int) < (ns : Int) := by omega
  have HV := hid hv
  clear hL hv
  go_enter Yba.func11, Yba.ntmps11
  go_wp2_with fail
  go_region_held3 (fun w' => w'.cell? ⟨lb, 3, none⟩ = some (.slice (some ⟨sb, 0, none⟩) ns sc) ∧ w'.cell? ⟨sb, st * 2, none⟩ = some (.slice an 0 mc) ∧ w'.cell? ⟨eb, 2, none⟩ = some (.int .i64 st)) (go_keep) ((refine step_append_run rfl _ _ _ _ rfl _ _ rfl rfl _ _ hrun'.out ?_))
  clear s1 s3 e2 i0 i1 hrun'
  have j0 : (0 : Int) ≤ (np : Int) := by omega
  have j4 : (0 : Int) ≤ (bk : Int) := by omega
  have j5 : (bk : Int) < (nb : Int) := by omega
  have j6 : (0 : Int) ≤ (start : Int) := by omega
  have j7 : (start : Int) ≤ (start : Int) + (bl : Int) := by omega
  have j9 : (start : Int) + (bl : Int) ≤ (start : Int) + (C2 : Int) := by omega
  go_wp2_with fail
  by_cases j8 : C2 = 0
  · obtain rfl := j8
    obtain rfl : bl = 0 := by omega
    cases bo with
    | none =>
      obtain rfl := hnil rfl
      go_quiet (fail)
      go_wp2_with fail
      refine wp_loop_rounds 1 ?_
      rw [rounds_succ]
      go_wp2_with fail
      go_ret
      unfold Got
      exact ⟨_, _, rfl, fun _ => rfl, fun j hj => HV.out j hj, below_drewN (Below.refl _ _) _⟩
    | some a =>
      go_quiet (fail)
      go_wp2_with fail
      refine wp_loop_rounds 1 ?_
      rw [rounds_succ]
      go_wp2_with fail
      go_ret
      unfold Got
      exact ⟨_, _, rfl, fun h => hnil h, fun j hj => HV.out j hj, below_drewN (Below.refl _ _) _⟩
  · cases bo with
    | none =>
      obtain rfl := hnil rfl
      go_quiet (fail)
      go_wp2_with fail
      refine wp_loop_rounds 1 ?_
      rw [rounds_succ]
      go_wp2_with fail
      go_ret
      unfold Got
      exact ⟨_, _, rfl, fun _ => rfl, fun j hj => HV.out j hj, below_drewN (Below.refl _ _) _⟩
    | some a =>
      go_quiet (fail)
      go_wp2_with fail
      refine wp_loop_rounds 1 ?_
      rw [rounds_succ]
      go_wp2_with fail
      go_ret
      unfold Got
      exact ⟨_, _, rfl, fun h => hnil h, fun j hj => HV.out j hj, below_drewN (Below.refl _ _) _⟩


/-- The list that appendCounts gives. -/
def outU (np : Nat) (V : Nat → Int) (cs : List Nat) (j : Nat) : Int := if j < np then V j else ((cs.getD (j - np) 0 : Nat) : Int)

/-- appendCounts, for however many counts. -/
theorem counts_any (lb eb st bk start g L C np : Nat) (B rest : List UInt8) (cs : List Nat) (bo : Option Addr) (V : Nat → Int) (w : World) (hL : LogAt w lb eb st bk start cs.length g L C B) (hB : B = encs cs ++ rest)
    (hc64 : ∀ x ∈ cs, x < 18446744073709551616) (hv : Hold w bo np V) (hnil : bo = none → np = 0) (hm2 : cs.length ≤ 1024) (hnp : np ≤ 1024) (hL2 : L ≤ 1000000) (hst : st ≤ 10) (hbk : bk ≤ 10) :
    Calls Yba.prog 11 #[.pointer (some ⟨lb, 0, none⟩), .slice bo np np, .pointer (some ⟨eb, 0, none⟩)] w fun e w' => Got w (np + cs.length) (outU np V cs) e w' := by
  have hlen := hL.len
  have hle := hL.le
  obtain ⟨bl, rfl⟩ : ∃ bl, L = start + bl := ⟨L - start, by omega⟩
  obtain ⟨C2, rfl⟩ : ∃ C2, C = start + C2 := ⟨C - start, by omega⟩
  by_cases hm : cs = []
  · subst hm
    refine (counts_none lb eb st bk start g bl C2 np B bo V w hL hv hnil hnp hL2 hst hbk).mono ?_
    rintro e w' ⟨a', C', rfl, h1, h2, h3⟩
    exact ⟨a', C', rfl, h1, fun j hj => by
      obtain ⟨b, o, e1, e2⟩ := h2 j hj
      refine ⟨b, o, e1, ?_⟩
      have hj' : j < np := by simpa using hj
      rw [e2, outU, if_pos hj'], h3⟩
  · have hpos : 0 < cs.length := List.length_pos_iff.2 hm
    refine (counts_some lb eb st bk start cs.length g bl C2 np B rest cs bo V w hL hB rfl hc64 hv hnil hpos hm2 hnp hL2 hst hbk).mono ?_
    rintro e w' ⟨a', C', rfl, h1, h2, h3⟩
    exact ⟨a', C', rfl, h1, h2, h3⟩

end Go.Proofs.Ybulkayms.Cnt
