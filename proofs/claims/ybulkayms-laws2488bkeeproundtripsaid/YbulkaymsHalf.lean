/-
  The log with one block; 'l.blocks[last] = append(block, b...)'.
-/
import Derived.Test.YbulkaymsRoom
import Derived.Laws.Rows
namespace Go.Proofs.Ybulkayms.Cnt
open Go.RowKit

theorem info26 : (Yba.prog.info? 26).map (fun i => (i.zero, i.size, i.bytes)) = some (some (.slice none 0 0), 1, 24) := by kernel_rfl

/-- The log with one block that holds bs. -/
structure Laid (w : World) (lb bb g bc : Nat) (m1 m2 s : Value) (bs : List UInt8) : Prop where
  log : w.heap[lb]? = some (.cells (logCells m1 m2 s (.slice (some ⟨bb, 0, none⟩) 1 bc)) 43 (0, 0))
  row : ∃ cur, w.heap[bb]? = some (.cells cur 26 (0, 0)) ∧ cur[0]? = some (.slice (some ⟨g, 0, none⟩) bs.length 1048576)
  own : w.ownsRow g 5 1 (.slice (some ⟨g, 0, none⟩) bs.length 1048576) bs.length (Go.Lib.byteCells bs)

/-- Of w's blocks none but p and q has turned. -/
structure Stays (w w' : World) (p q : Nat) : Prop where
  os : w'.os = w.os
  tape : w'.tape = w.tape
  output : w'.output = w.output
  size : w.heap.size ≤ w'.heap.size
  block : ∀ k, k < w.heap.size → k ≠ p → k ≠ q → w'.heap[k]? = w.heap[k]?

theorem Stays.below {w w' : World} {p q B : Nat} (h : Stays w w' p q) (hB : B ≤ w.heap.size) (hp : B ≤ p) (hq : B ≤ q) : Below B w w' :=
  ⟨h.os, h.tape, h.output, h.size, fun k hk => h.block k (by omega) (by omega) (by omega)⟩

theorem cell_of {w : World} {b k : Nat} {cur : Array Value} {t : TypeId} {f : Nat × Nat} {v : Value} (h : w.heap[b]? = some (.cells cur t f)) (hv : cur[k]? = some v) : w.cell? ⟨b, k, none⟩ = some v := by
  simp only [World.cell?, h]
  simpa using hv
theorem free_of {w : World} {b k : Nat} {cur : Array Value} {t : TypeId} (h : w.heap[b]? = some (.cells cur t (0, 0))) : w.frozen? ⟨b, k, none⟩ = false := by
  simp only [World.frozen?, h]
  simp
theorem lt_of {w : World} {b : Nat} {o : Obj} (h : w.heap[b]? = some o) : b < w.heap.size := (Array.getElem?_eq_some_iff.1 h).1

theorem Laid.apart {w : World} {lb bb g bc : Nat} {m1 m2 s : Value} {bs : List UInt8} (h : Laid w lb bb g bc m1 m2 s bs) : lb ≠ bb ∧ lb ≠ g ∧ bb ≠ g ∧ lb < w.heap.size ∧ bb < w.heap.size ∧ g < w.heap.size := by
  obtain ⟨hl, ⟨cur, hr, _⟩, ho⟩ := h
  obtain ⟨_, hv | ⟨g', cap', cu, hv, _, hg, _⟩⟩ := ho
  · cases hv.1
  · cases hv
    refine ⟨?_, ?_, ?_, lt_of hl, lt_of hr, lt_of hg⟩
    · rintro rfl; rw [hl] at hr; cases hr
    · rintro rfl; rw [hl] at hg; cases hg
    · rintro rfl; rw [hr] at hg; cases hg

/-- 'l.blocks[last] = append(block, b...)' -/
theorem half {w : World} {lb bb g bc : Nat} {m1 m2 s : Value} {bs : List UInt8} (h : Laid w lb bb g bc m1 m2 s bs) (ao : Option Addr) (c : Nat) (jb : List UInt8) (hs : Hold8 w ao jb) (hnil : ao = none → jb.length = 0 ∧ c = 0) (hn : bs.length + jb.length ≤ 100000) :
    ∃ w5, (Builtin.append_ #[26, 26] 26 #[.slice (some ⟨g, 0, none⟩) bs.length 1048576, .slice ao jb.length c]).run Yba.prog w = .ok (.slice (some ⟨g, 0, none⟩) (bs.length + jb.length) 1048576) w5 ∧
      w5.cell? ⟨lb, 7, none⟩ = some (.slice (some ⟨bb, 0, none⟩) 1 bc) ∧ w5.cell? ⟨bb, 0, none⟩ = some (.slice (some ⟨g, 0, none⟩) bs.length 1048576) ∧ w5.frozen? ⟨bb, 0, none⟩ = false ∧
      Laid (w5.setCell ⟨bb, 0, none⟩ (.slice (some ⟨g, 0, none⟩) (bs.length + jb.length) 1048576)) lb bb g bc m1 m2 s (bs ++ jb) ∧ Stays w (w5.setCell ⟨bb, 0, none⟩ (.slice (some ⟨g, 0, none⟩) (bs.length + jb.length) 1048576)) bb g := by
  obtain ⟨n1, n2, n3, l1, l2, l3⟩ := h.apart
  obtain ⟨w5, hrun, ho5, hg5⟩ := app_room h.own ao c jb hs hnil hn (by omega)
  obtain ⟨cur, hr, hc⟩ := h.row
  have hlb5 : w5.heap[lb]? = _ := (hg5.block lb l1 (by simpa using n2)).trans h.log
  have hbb5 : w5.heap[bb]? = _ := (hg5.block bb l2 (by simpa using n3)).trans hr
  refine ⟨w5, hrun, cell_of hlb5 rfl, cell_of hbb5 hc, free_of hbb5, ⟨?_, ?_, ?_⟩, ⟨hg5.os, hg5.tape, hg5.output, ?_, ?_⟩⟩
  · rw [heap_setCell_other _ _ _ _ n1]; exact hlb5
  · refine ⟨_, heap_setCell_same _ _ _ _ _ _ hbb5, ?_⟩
    have : 0 < cur.size := (Array.getElem?_eq_some_iff.1 hc).1
    simp [this]
  · rw [List.length_append]
    obtain ⟨e1, hv | ⟨g', cap', cu, hv, hgg, hg, rest⟩⟩ := ho5
    · cases hv.1
    · have e2 := hv
      cases e2
      rw [show Go.Lib.byteCells (bs ++ jb) = Go.Lib.byteCells bs ++ Go.Lib.byteCells jb from by simp [Go.Lib.byteCells]]
      exact ⟨e1, .inr ⟨g, _, cu, rfl, hgg, by rw [heap_setCell_other _ _ _ _ (Ne.symm n3)]; exact hg, rest⟩⟩
  · have := hg5.size
    simpa [World.setCell] using this
  · intro k hk h1 h2
    rw [heap_setCell_other _ _ _ _ h1]
    exact hg5.block k hk (by simpa using h2)
end Go.Proofs.Ybulkayms.Cnt
