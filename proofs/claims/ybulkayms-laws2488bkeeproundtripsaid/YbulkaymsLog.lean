/-
  The law's log and event, laid in the world.
-/
import Derived.Test.YbulkaymsSrc
namespace Go.Proofs.Ybulkayms.Cnt
open Go.RowKit

theorem LogAt.later {w w' : World} {lb eb st bk start m g L C : Nat} {B : List UInt8} (h : LogAt w lb eb st bk start m g L C B) (hb : Below w.heap.size w w') : LogAt w' lb eb st bk start m g L C B := by
  obtain ⟨⟨sb, ns, sc, an, mc, s1, s2, s3⟩, ⟨bb, nb, bc, t1, t2, t3⟩, e2, e5, e6, hl, hle, hby⟩ := h
  exact ⟨⟨sb, ns, sc, an, mc, cell_later hb s1, s2, cell_later hb s3⟩, ⟨bb, nb, bc, cell_later hb t1, t2, cell_later hb t3⟩, cell_later hb e2, cell_later hb e5, cell_later hb e6, hl, hle, fun j hj => cell_later hb (hby j hj)⟩

/-- The world in which the law has laid its log and its event. -/
def logW (wd : World) (m g L C start : Nat) : World :=
  (((((wd.alloc (Obj.cells (madeCells #[Value.int IntKind.i64 0] m) 3)).alloc
    (Obj.cells #[Value.slice (some { block := wd.heap.size, off := 0 }) m m, Value.string { data := #[] }] 32)).alloc
    (Obj.cells #[Value.slice (some { block := g, off := 0 }) L C] 26)).alloc
    (Obj.cells #[Value.slice none 0 0, Value.slice none 0 0, Value.map none, Value.slice (some { block := wd.heap.size + 1, off := 0 }) 1 1, Value.map none, Value.int IntKind.i64 0, Value.slice none 0 0,
      Value.slice (some { block := wd.heap.size + 1 + 1, off := 0 }) 1 1, Value.slice none 0 0, Value.map none] 43)).alloc
    (Obj.cells #[Value.int IntKind.i64 0, Value.int IntKind.i64 0, Value.int IntKind.i64 0, Value.int IntKind.u64 0, Value.int IntKind.u64 0, Value.int IntKind.i32 0, Value.int IntKind.i32 (start : Int)] 46))

theorem logW_size (wd : World) (m g L C start : Nat) : (logW wd m g L C start).heap.size = wd.heap.size + 1 + 1 + 1 + 1 + 1 := by simp [logW]
theorem logW_below (wd : World) (m g L C start b : Nat) (hb : b ≤ wd.heap.size) : Below b wd (logW wd m g L C start) := by
  unfold logW
  refine Below.alloc (Below.alloc (Below.alloc (Below.alloc (Below.alloc (Below.refl _ _) hb _) ?_ _) ?_ _) ?_ _) ?_ _ <;> simp <;> omega

theorem cell_at {w : World} {o : Array Value} {t : TypeId} {b k : Nat} {v : Value} (hb : b = w.heap.size) (hv : o[k]? = some v) : (w.alloc (.cells o t)).cell? ⟨b, k, none⟩ = some v := by
  subst hb
  simp only [World.cell?, heap_alloc_new]
  simpa using hv

theorem logW_at (wd : World) (m g L C start : Nat) (B : List UInt8) (hl : start + B.length = L) (hle : L ≤ C) (hby : ∀ j (hj : j < B.length), wd.cell? ⟨g, start + j, none⟩ = some (.int .u8 (B[j]).toNat)) :
    LogAt (logW wd m g L C start) (wd.heap.size + 1 + 1 + 1) (wd.heap.size + 1 + 1 + 1 + 1) 0 0 start m g L C B := by
  have up : ∀ {w : World} {o : Obj} {a : Addr} {v : Value}, w.cell? a = some v → (w.alloc o).cell? a = some v := fun h => cell_later ((Below.refl _ _).alloc (Nat.le_refl _) _) h
  refine ⟨⟨wd.heap.size + 1, 1, 1, some ⟨wd.heap.size, 0, none⟩, m, ?_, by omega, ?_⟩, ⟨wd.heap.size + 1 + 1, 1, 1, ?_, by omega, ?_⟩, ?_, ?_, ?_, hl, hle, fun j hj => ?_⟩
  · exact up (cell_at (by simp) rfl)
  · exact up (up (up (cell_at (by simp) rfl)))
  · exact up (cell_at (by simp) rfl)
  · exact up (up (cell_at (by simp) rfl))
  · exact cell_at (by simp) rfl
  · exact cell_at (by simp) rfl
  · exact cell_at (by simp) rfl
  · exact up (up (up (up (up (hby j hj)))))
end Go.Proofs.Ybulkayms.Cnt
