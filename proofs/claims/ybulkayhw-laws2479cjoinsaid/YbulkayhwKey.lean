/-
  zzs2479ckey: the two bytes of an index.
-/
import Derived.Test.YbulkayhwTree
import Derived.WalkSpells
import Derived.WalkLawsBesides
namespace Go.Proofs.Ybulkayhw.Tree
open Go.RowKit Go.Deep

/-- What the call of zzs2479ckey lays. -/
def keyBytes (i : Nat) : Obj := .cells #[.int .u8 (i / 256), .int .u8 (i % 256)] 5

theorem conv_key (a b : Int) (w : World) :
    (convert 60 9 (Value.slice (some { block := w.heap.size, off := 0 }) 2 2)).run Yba.prog (w.alloc (.cells #[.int .u8 a, .int .u8 b] 5))
      = .ok (.string ⟨#[UInt8.ofNat a.toNat, UInt8.ofNat b.toNat]⟩) (w.alloc (.cells #[.int .u8 a, .int .u8 b] 5)) := by
  rw [run_convert_bytes_string _ _ _ _ _ _ _ Yba.underlying60 Yba.underlying5 Yba.underlying9]
  rw [run_bytesToString _ _ _ _ [a, b]]
  · rfl
  · simp [go_sem]

set_option maxHeartbeats 400000 in
theorem key_any (i : Nat) (hi : i < 65536) (w : World) :
    Calls Yba.prog 11 #[.int .i64 i] w fun e w' => e = .returned (.string (keyOf i)) ∧ w' = w.alloc (keyBytes i) := by
  have hc := conv_key (i / 256) (i % 256) w
  go_enter Yba.func11, Yba.ntmps11
  go_wp2
  go_ret
  exact ⟨rfl, rfl⟩

/-- The same, the argument as the caller has it. -/
theorem key_at (z : Int) (i : Nat) (hz : z = i) (hi : i < 65536) (w : World) :
    Calls Yba.prog 11 #[.int .i64 z] w fun e w' => e = .returned (.string (keyOf i)) ∧ w' = w.alloc (keyBytes i) := by
  subst hz
  exact key_any i hi w

end Go.Proofs.Ybulkayhw.Tree
