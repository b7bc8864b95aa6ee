/-
  newNameTable, newLog.
-/
import Derived.Test.YbulkaymsLog
namespace Go.Proofs.Ybulkayms.Cnt
open Go.RowKit

set_option maxRecDepth 10000 in
theorem table_any (w : World) : Calls Yba.prog 23 #[] w fun e w' => (∃ m1 m2, e = .returned (.agg #[.slice none 0 0, m1, .slice none 0 0, m2, .int .i64 0])) ∧ Below w.heap.size w w' := by
  have hmm := @run_makeMap Yba.prog
  go_enter Yba.func23, Yba.ntmps23
  go_wp2_with fail
  refine bodyPost_ret (v := .agg #[.slice none 0 0, .map (some (w.heap.size + 1)), .slice none 0 0, .map (some (w.heap.size + 1 + 1)), .int .i64 0]) (by simp [results, Yba.results23, go_sem]) rfl ⟨⟨_, _, rfl⟩, ?_⟩
  refine Below.alloc (Below.alloc (Below.alloc (Below.refl _ _) (Nat.le_refl _) _) ?_ _) ?_ _ <;> simp <;> omega

def logCells (m1 m2 s b : Value) : Array Value := #[.slice none 0 0, .slice none 0 0, m1, s, m2, .int .i64 0, .slice none 0 0, b, .slice none 0 0, .map none]

set_option maxRecDepth 10000 in
theorem newLog_any (w : World) : Calls Yba.prog 13 #[] w fun e w' => ∃ lb m1 m2, e = .returned (.pointer (some ⟨lb, 0, none⟩)) ∧ w.heap.size ≤ lb ∧ w'.heap[lb]? = some (.cells (logCells m1 m2 (.slice none 0 0) (.slice none 0 0)) 43 (0, 0)) ∧ Below w.heap.size w w' := by
  go_enter Yba.func13, Yba.ntmps13
  go_wp2_with fail
  refine (table_any _).mono ?_
  rintro e w' ⟨⟨m1, m2, rfl⟩, hb⟩
  have HB := hid hb
  clear hb
  go_wp2_with fail
  go_ret
  exact ⟨_, m1, m2, rfl, HB.out.size, heap_alloc_new _ _, HB.out.alloc HB.out.size _⟩
end Go.Proofs.Ybulkayms.Cnt
