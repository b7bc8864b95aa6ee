/-
  (*Log).keep, where the log has one block with room.
-/
import Derived.Test.YbulkaymsKeep1
namespace Go.Proofs.Ybulkayms.Cnt
open Go.RowKit

set_option maxRecDepth 10000 in
set_option maxHeartbeats 1000000 in
theorem keep_more (lb bb g bc : Nat) (m1 m2 s : Value) (bs : List UInt8) (ao : Option Addr) (c : Nat) (jb : List UInt8) (w : World) (h : Laid w lb bb g bc m1 m2 s bs) (hs : Hold8 w ao jb) (hnil : ao = none → jb.length = 0 ∧ c = 0) (hl : bs.length ≤ 20000) (hl2 : jb.length ≤ 20000) :
    Calls Yba.prog 14 #[.pointer (some ⟨lb, 0, none⟩), .slice ao jb.length c] w fun e w' => e = .returned (.tuple #[.int .i32 0, .int .i32 bs.length]) ∧ Laid w' lb bb g bc m1 m2 s (bs ++ jb) ∧ Stays w w' bb g := by
  obtain ⟨n1, n2, n3, l1, l2, l3⟩ := h.apart
  have c7 : w.cell? ⟨lb, 7, none⟩ = some (.slice (some ⟨bb, 0, none⟩) 1 bc) := cell_of h.log rfl
  have c0 : w.cell? ⟨bb, 0, none⟩ = some (.slice (some ⟨g, 0, none⟩) bs.length 1048576) := by
    obtain ⟨cur, hr, hc⟩ := h.row
    exact cell_of hr hc
  have hne1 : ¬ bb = lb := fun e => n1 e.symm
  have hne2 : ¬ lb = bb := n1
  have i1 : IntKind.i64.wrap (1048576 - (bs.length : Int)) = 1048576 - (bs.length : Int) := by rw [IntKind.wrap_i64]; omega
  have i2 : decide (1048576 - (bs.length : Int) < (jb.length : Int)) = false := by rw [decide_eq_false_iff_not]; omega
  have i3 : ¬ (1048576 - (bs.length : Int) < (jb.length : Int)) := by omega
  have hprep := fun q => hid (half (h.drewN q) ao c jb hs hnil (by omega))
  clear h hs hnil n1 n2 n3
  go_enter Yba.func14, Yba.ntmps14
  go_wp2_with fail
  go_quiet (fail)
  go_wp2_with fail
  obtain ⟨w5, hap5, d1, d2, d3, hL, hS⟩ := (hprep (nq + 1)).out
  have HAP5 := hid hap5
  have HL := hid hL
  have HS := hid hS
  clear hap5 hL hS hprep
  go_region_held3 (fun w' => w'.cell? ⟨lb, 7, none⟩ = some (.slice (some ⟨bb, 0, none⟩) 1 bc)) (go_keep) ((refine step_append_run rfl _ _ _ _ rfl _ _ rfl rfl _ _ HAP5.out ?_))
  go_wp2_with fail
  go_ret2
  exact ⟨rfl, HL.out, HS.out.os, HS.out.tape, HS.out.output, HS.out.size, HS.out.block⟩
end Go.Proofs.Ybulkayms.Cnt
