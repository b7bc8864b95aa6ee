/-
  The law's own steps on its log, without a walk.
-/
import Derived.Test.YbulkaymsKeep2
namespace Go.Proofs.Ybulkayms.Cnt
open Go.RowKit

theorem own_hold {w : World} {base n : Nat} {v : Value} {bs : List UInt8} (h : w.ownsRow base 5 1 v n (Go.Lib.byteCells bs)) :
    ∃ ao c, v = .slice ao bs.length c ∧ (ao = none → bs.length = 0 ∧ c = 0) ∧ Hold8 w ao bs ∧ ∀ b o, ao = some ⟨b, o, none⟩ → b < w.heap.size := by
  by_cases hv : v = .slice none 0 0
  · subst hv
    have hl : bs.length = 0 := by
      obtain ⟨hl, hn | ⟨_, _, _, e, _⟩⟩ := h
      · have := hn.2; simp [Go.Lib.byteCells] at hl; omega
      · cases e
    exact ⟨none, 0, by rw [hl], fun _ => ⟨hl, rfl⟩, fun j hj => by omega, fun b o e => by cases e⟩
  · obtain ⟨g, C, rfl, _, _, hn, hc⟩ := own_cells h hv
    have hlt := (h.lt g rfl).2
    refine ⟨some ⟨g, 0, none⟩, C, by rw [hn], (fun e => by cases e), fun j hj => ⟨g, 0, rfl, by simpa using hc j hj⟩, fun b o e => by cases e; exact hlt⟩

theorem Hold8.stays {w w' : World} {ao : Option Addr} {jb : List UInt8} {p q : Nat} (h : Hold8 w ao jb) (hs : Stays w w' p q) (hp : ∀ b o, ao = some ⟨b, o, none⟩ → b ≠ p ∧ b ≠ q) : Hold8 w' ao jb := fun j hj => by
  obtain ⟨b, o, e, c⟩ := h j hj
  exact ⟨b, o, e, (World.cell?_of_block (hs.block b (World.block_lt_of_cell? w _ c) (hp b o e).1 (hp b o e).2)).trans c⟩

/-- The log after 'l.sets = []nameSet{{numbers: make([]int, l0)}, {numbers: make([]int, l1)}}'. -/
structure SetsAt (W wx : World) (lb sb : Nat) (m1 m2 : Value) (l0 l1 : Nat) : Prop where
  log : wx.heap[lb]? = some (.cells (logCells m1 m2 (.slice (some ⟨sb, 0, none⟩) 2 2) (.slice none 0 0)) 43 (0, 0))
  sets : ∃ n1 n2 s1 s2, wx.heap[sb]? = some (.cells #[.slice n1 l0 l0, s1, .slice n2 l1 l1, s2] 32 (0, 0))
  new : W.heap.size ≤ sb
  lt : sb < wx.heap.size
  stays : Stays W wx lb lb

theorem sets_laid (W : World) (lb : Nat) (m1 m2 : Value) (l0 l1 : Nat) (hlog : W.heap[lb]? = some (.cells (logCells m1 m2 (.slice none 0 0) (.slice none 0 0)) 43 (0, 0))) (o1 o2 : Obj) (n1 n2 : Option Addr) (s1 s2 : Value) :
    SetsAt W ((((W.alloc o1).alloc o2).alloc (.cells #[.slice n1 l0 l0, s1, .slice n2 l1 l1, s2] 32)).setCell ⟨lb, 3, none⟩ (.slice (some ⟨W.heap.size + 1 + 1, 0, none⟩) 2 2)) lb (W.heap.size + 1 + 1) m1 m2 l0 l1 := by
  have hlb := lt_of hlog
  have old : ∀ k, k < W.heap.size → (((W.alloc o1).alloc o2).alloc (.cells #[.slice n1 l0 l0, s1, .slice n2 l1 l1, s2] 32)).heap[k]? = W.heap[k]? := fun k hk => by
    rw [Below.heap_alloc _ _ _ (by simp; omega), Below.heap_alloc _ _ _ (by simp; omega), Below.heap_alloc _ _ _ hk]
  have hsz : ((W.alloc o1).alloc o2).heap.size = W.heap.size + 1 + 1 := by simp
  refine ⟨?_, ⟨n1, n2, s1, s2, ?_⟩, by omega, by simp [World.setCell], ⟨rfl, rfl, rfl, by simp [World.setCell]; omega, ?_⟩⟩
  · rw [heap_setCell_same _ _ _ _ _ _ ((old lb hlb).trans hlog)]
    simp [logCells]
  · have e := heap_alloc_new ((W.alloc o1).alloc o2) (.cells #[.slice n1 l0 l0, s1, .slice n2 l1 l1, s2] 32)
    rw [hsz] at e
    rw [heap_setCell_other _ _ _ _ (by show W.heap.size + 1 + 1 ≠ lb; omega)]
    exact e
  · intro k hk h1 _
    rw [heap_setCell_other _ _ _ _ h1]
    exact old k hk

/-- What appendCounts reads, off the log as keep has left it. -/
theorem logAt_of {w : World} {lb bb g bc sb l0 l1 eb : Nat} {m1 m2 : Value} {bx bz : List UInt8} (h : Laid w lb bb g bc m1 m2 (.slice (some ⟨sb, 0, none⟩) 2 2) (bx ++ bz))
    (hs : ∃ n1 n2 s1 s2, w.heap[sb]? = some (.cells #[.slice n1 l0 l0, s1, .slice n2 l1 l1, s2] 32 (0, 0))) (z0 z1 z3 z4 : Value) :
    (w.heap[eb]? = some (.cells #[z0, z1, .int .i64 0, z3, z4, .int .i32 0, .int .i32 0] 46 (0, 0)) → LogAt w lb eb 0 0 0 l0 g (bx ++ bz).length 1048576 (bx ++ bz)) ∧
    (w.heap[eb]? = some (.cells #[z0, z1, .int .i64 1, z3, z4, .int .i32 0, .int .i32 bx.length] 46 (0, 0)) → LogAt w lb eb 1 0 bx.length l1 g (bx ++ bz).length 1048576 bz) := by
  obtain ⟨n1, n2, s1, s2, hs⟩ := hs
  obtain ⟨cur, hr, hc⟩ := h.row
  have hc7 : w.cell? ⟨lb, 7, none⟩ = some (.slice (some ⟨bb, 0, none⟩) 1 bc) := cell_of h.log rfl
  have hc3 : w.cell? ⟨lb, 3, none⟩ = some (.slice (some ⟨sb, 0, none⟩) 2 2) := cell_of h.log rfl
  obtain ⟨g', C', e, hle, _, _, hby⟩ := own_cells h.own (by intro e; cases e)
  cases e
  refine ⟨fun he => ⟨⟨sb, 2, 2, n1, l0, hc3, by omega, cell_of hs rfl⟩, ⟨bb, 1, bc, hc7, by omega, cell_of hr hc⟩, cell_of he rfl, cell_of he rfl, cell_of he rfl, by simp, hle, fun j hj => ?_⟩,
    fun he => ⟨⟨sb, 2, 2, n2, l1, hc3, by omega, cell_of hs rfl⟩, ⟨bb, 1, bc, hc7, by omega, cell_of hr hc⟩, cell_of he rfl, cell_of he rfl, cell_of he rfl, by simp, hle, fun j hj => ?_⟩⟩
  · have := hby j hj
    rw [Nat.zero_add]
    exact this
  · have := hby (bx.length + j) (by simp; omega)
    rw [this, List.getElem_append_right (by omega)]
    simp
end Go.Proofs.Ybulkayms.Cnt
