/-
  (*Log).keep, the first call: the log has no block.
-/
import Derived.Test.YbulkaymsHalf
import Derived.Deep.RegionLaw
import Derived.Deep.CutRange
namespace Go.Proofs.Ybulkayms.Cnt
open Go.RowKit

theorem Laid.drew {w : World} {lb bb g bc : Nat} {m1 m2 s : Value} {bs : List UInt8} (h : Laid w lb bb g bc m1 m2 s bs) : Laid w.drew lb bb g bc m1 m2 s bs := ⟨h.log, h.row, h.own⟩
theorem Laid.drewN {w : World} {lb bb g bc : Nat} {m1 m2 s : Value} {bs : List UInt8} (h : Laid w lb bb g bc m1 m2 s bs) (q : Nat) : Laid (w.drewN q) lb bb g bc m1 m2 s bs := ⟨h.log, h.row, h.own⟩

/-- What the first call's makes and appends give. -/
theorem first_prep (lb q : Nat) (m1 m2 s : Value) (ao : Option Addr) (c : Nat) (bs : List UInt8) (w : World) (hlog : w.heap[lb]? = some (.cells (logCells m1 m2 s (.slice none 0 0)) 43 (0, 0))) (hs : Hold8 w ao bs) (hnil : ao = none → bs.length = 0 ∧ c = 0) (hl : bs.length ≤ 20000)
    (hne : ∀ b o, ao = some ⟨b, o, none⟩ → b ≠ lb) :
    ∃ wa w3 w5 bb bc, (Instr.makeSlice 26 (.int .i64 0) (.int .i64 1048576)).run Yba.prog (w.drewN q) = .ok (.slice (some ⟨w.heap.size, 0, none⟩) 0 1048576) wa ∧
      (Builtin.append_ #[38, 38] 38 #[.slice none 0 0, .slice (some ⟨wa.heap.size, 0, none⟩) 1 1]).run Yba.prog (wa.alloc (.cells #[.slice (some ⟨w.heap.size, 0, none⟩) 0 1048576] 26)) = .ok (.slice (some ⟨bb, 0, none⟩) 1 bc) w3 ∧
      (Builtin.append_ #[26, 26] 26 #[.slice (some ⟨w.heap.size, 0, none⟩) 0 1048576, .slice ao bs.length c]).run Yba.prog (w3.setCell ⟨lb, 7, none⟩ (.slice (some ⟨bb, 0, none⟩) 1 bc)).drew = .ok (.slice (some ⟨w.heap.size, 0, none⟩) bs.length 1048576) w5 ∧
      wa.cell? ⟨lb, 7, none⟩ = some (.slice none 0 0) ∧ (wa.alloc (.cells #[.slice (some ⟨w.heap.size, 0, none⟩) 0 1048576] 26)).cell? ⟨lb, 7, none⟩ = some (.slice none 0 0) ∧ w3.cell? ⟨lb, 7, none⟩ = some (.slice none 0 0) ∧ w3.frozen? ⟨lb, 7, none⟩ = false ∧
      w3.cell? ⟨bb, 0, none⟩ = some (.slice (some ⟨w.heap.size, 0, none⟩) 0 1048576) ∧ w.heap.size ≤ bb ∧
      w5.cell? ⟨lb, 7, none⟩ = some (.slice (some ⟨bb, 0, none⟩) 1 bc) ∧ w5.cell? ⟨bb, 0, none⟩ = some (.slice (some ⟨w.heap.size, 0, none⟩) 0 1048576) ∧ w5.frozen? ⟨bb, 0, none⟩ = false ∧
      Laid (w5.setCell ⟨bb, 0, none⟩ (.slice (some ⟨w.heap.size, 0, none⟩) bs.length 1048576)) lb bb w.heap.size bc m1 m2 s bs ∧ Stays w (w5.setCell ⟨bb, 0, none⟩ (.slice (some ⟨w.heap.size, 0, none⟩) bs.length 1048576)) lb lb := by
  obtain ⟨i5, hi5, hz50, hz51, hz52⟩ := info_parts info5
  obtain ⟨i26, hi26, hz260, hz261, hz262⟩ := info_parts info26
  have c7 : w.cell? ⟨lb, 7, none⟩ = some (.slice none 0 0) := cell_of hlog rfl
  have HLOG := hid hlog
  obtain ⟨wa, hmk, hoa, hga⟩ := run_make_own (P := Yba.prog) (w.drewN (q)) w.heap.size 26 5 i5 (.int .u8 0) 1 Yba.underlying26 hi5 hz50 hz51 .i64 .i64 1048576 (by rw [hz52]; omega) (by unfold maxLen; omega) (by simp)
  have hgw : w.grownBy wa none := ⟨hga.os, hga.tape, hga.output, hga.size, hga.block⟩
  have hgs := hgw.size
  obtain ⟨v3, w3, hap, ho3, hg3, hn3⟩ := run_append_own (P := Yba.prog) (wa.alloc (.cells #[.slice (some ⟨w.heap.size, 0, none⟩) 0 1048576] 26)) w.heap.size 38 38 26 i26 (.slice none 0 0) 1 24 Yba.underlying38 hi26 hz260 hz261 hz262 rfl (by omega) (.slice none 0 0) 0 [] (World.ownsRow_nil _ _ _ _) ⟨wa.heap.size, 0, none⟩ 1 1 [.slice (some ⟨w.heap.size, 0, none⟩) 0 1048576] rfl (cell_one_new _ _ _) (by simp [Value.oneCell']) (by unfold maxLen; omega) (by omega) (by simp; omega)
  have hsz : (w.drewN (q)).heap.size = w.heap.size := by simp
  rw [hsz] at hmk hoa
  rw [show ((1048576 : Nat) : Int) = 1048576 from rfl] at hmk
  obtain ⟨bb, bc, cur3, rfl, hbb, hh3, hbc, _, hcur3, ht3⟩ : ∃ g cap cur, v3 = .slice (some ⟨g, 0, none⟩) 1 cap ∧ w.heap.size ≤ g ∧ w3.heap[g]? = some (.cells cur 26 (0, 0)) ∧ 1 ≤ cap ∧ cap ≤ maxLen ∧ cur.size = cap ∧ cur.toList.take 1 = [.slice (some ⟨w.heap.size, 0, none⟩) 0 1048576] := by
    rcases ho3.2 with h | ⟨g, cap, cur, h⟩
    · exact absurd h.2 (by omega)
    · exact ⟨g, cap, cur, by simpa using h⟩
  have hc30 : cur3[0]? = some (.slice (some ⟨w.heap.size, 0, none⟩) 0 1048576) := by
    have := congrArg (fun l => l[0]?) ht3
    simp only [List.getElem?_take] at this
    simpa using this
  have hcell3 : w3.cell? ⟨bb, 0, none⟩ = some (.slice (some ⟨w.heap.size, 0, none⟩) 0 1048576) := cell_of hh3 hc30
  have hlb : lb < w.heap.size := World.block_lt_of_cell? w _ c7
  have c7a := hgw.cell c7 (by simp)
  have hg3' : (wa.alloc (.cells #[.slice (some ⟨w.heap.size, 0, none⟩) 0 1048576] 26)).grownBy w3 none := hg3
  have c7c : (wa.alloc (.cells #[.slice (some ⟨w.heap.size, 0, none⟩) 0 1048576] 26)).cell? ⟨lb, 7, none⟩ = some (.slice none 0 0) := cell_later ((Below.refl _ _).alloc (Nat.le_refl _) _) c7a
  have c7b := hg3'.cell c7c (by simp)
  have old : ∀ k, k < w.heap.size → w3.heap[k]? = w.heap[k]? := fun k hk => by rw [hg3'.block k (by simp; omega) (by simp), Below.heap_alloc _ _ _ (by omega), hgw.block k hk (by simp)]
  have hl3 : w3.heap[lb]? = some (.cells (logCells m1 m2 s (.slice none 0 0)) 43 (0, 0)) := (old lb hlb).trans HLOG.out
  have f7 : w3.frozen? ⟨lb, 7, none⟩ = false := free_of hl3
  have hne1 : ¬ bb = lb := by omega
  have hne2 : ¬ lb = bb := by omega
  have hlaid : Laid (w3.setCell ⟨lb, 7, none⟩ (.slice (some ⟨bb, 0, none⟩) 1 bc)) lb bb w.heap.size bc m1 m2 s [] := by
    refine ⟨?_, ⟨cur3, by rw [heap_setCell_other _ _ _ _ hne1]; exact hh3, hc30⟩, ?_⟩
    · rw [heap_setCell_same _ _ _ _ _ _ hl3]; simp [logCells]
    · have e1 := hoa.kept (w' := w3) (row := none) ⟨hg3'.os, hg3'.tape, hg3'.output, by have := hg3'.size; simp at this; omega, fun k hk _ => by rw [hg3'.block k (by simp; omega) (by simp), Below.heap_alloc _ _ _ hk]⟩ (.inr (by simp [Value.ownBlock]))
      exact ownsRow_setCell_below e1 hlb _
  have hst3 : w3.heap.size ≥ w.heap.size := by have := hg3'.size; simp at this; omega
  have hs4 : Hold8 (w3.setCell ⟨lb, 7, none⟩ (.slice (some ⟨bb, 0, none⟩) 1 bc)).drew ao bs := fun j hj => by
    obtain ⟨b, o, e, cc⟩ := hs j hj
    refine ⟨b, o, e, ?_⟩
    have hb := World.block_lt_of_cell? w _ cc
    have e2 : (w3.setCell ⟨lb, 7, none⟩ (.slice (some ⟨bb, 0, none⟩) 1 bc)).drew.heap[b]? = w.heap[b]? := (heap_setCell_other _ _ _ _ (hne b o e)).trans (old b hb)
    exact (World.cell?_of_block e2).trans cc
  obtain ⟨w5, hap5, d1, d2, d3, hlaid5, hst5⟩ := half hlaid.drew ao c bs hs4 hnil (by simp; omega)
  simp only [List.length_nil, Nat.zero_add] at hap5 d2
  have HFIN : (Laid (w5.setCell ⟨bb, 0, none⟩ (.slice (some ⟨w.heap.size, 0, none⟩) bs.length 1048576)) lb bb w.heap.size bc m1 m2 s bs ∧ Stays w (w5.setCell ⟨bb, 0, none⟩ (.slice (some ⟨w.heap.size, 0, none⟩) bs.length 1048576)) lb lb) := by
    simp only [List.nil_append, List.length_nil, Nat.zero_add] at hlaid5 hst5
    refine ⟨hlaid5, hst5.os.trans (hg3'.os.trans hgw.os), hst5.tape.trans (hg3'.tape.trans hgw.tape), hst5.output.trans (hg3'.output.trans hgw.output), ?_, ?_⟩
    · have := hst5.size
      simp [World.setCell] at this ⊢
      omega
    · intro k hk h1 _
      rw [hst5.block k (by simp [World.setCell]; omega) (by omega) (by omega)]
      exact (heap_setCell_other _ _ _ _ h1).trans (old k hk)
  exact ⟨wa, w3, w5, bb, bc, hmk, hap, hap5, c7a, c7c, c7b, f7, hcell3, hbb, d1, d2, d3, HFIN.1, HFIN.2⟩

set_option maxRecDepth 10000 in
set_option maxHeartbeats 1000000 in
theorem keep_first (lb : Nat) (m1 m2 s : Value) (ao : Option Addr) (c : Nat) (bs : List UInt8) (w : World) (hlog : w.heap[lb]? = some (.cells (logCells m1 m2 s (.slice none 0 0)) 43 (0, 0))) (hs : Hold8 w ao bs) (hnil : ao = none → bs.length = 0 ∧ c = 0) (hl : bs.length ≤ 20000)
    (hne : ∀ b o, ao = some ⟨b, o, none⟩ → b ≠ lb) :
    Calls Yba.prog 14 #[.pointer (some ⟨lb, 0, none⟩), .slice ao bs.length c] w fun e w' => e = .returned (.tuple #[.int .i32 0, .int .i32 0]) ∧ (∃ bb g bc, w.heap.size ≤ bb ∧ w.heap.size ≤ g ∧ Laid w' lb bb g bc m1 m2 s bs) ∧ Stays w w' lb lb := by
  have c7 : w.cell? ⟨lb, 7, none⟩ = some (.slice none 0 0) := cell_of hlog rfl
  have i1 : IntKind.i64.wrap (-1) = -1 := by rw [IntKind.wrap_i64]; omega
  have hlb : lb < w.heap.size := World.block_lt_of_cell? w _ c7
  have hprep := fun q => hid (first_prep lb q m1 m2 s ao c bs w hlog hs hnil hl hne)
  clear hlog hs hnil hne
  go_enter Yba.func14, Yba.ntmps14
  go_wp2_with fail
  go_quiet (fail)
  go_wp2_with fail
  obtain ⟨wa, w3, w5, bb, bc, hmk, hap, hap5, c7a, c7c, c7b, f7, hcell3, hbb, d1, d2, d3, hL, hS⟩ := (hprep (nq + 1)).out
  have HAP := hid hap
  have HAP5 := hid hap5
  have HL := hid hL
  have HS := hid hS
  have hne1 : ¬ bb = lb := by omega
  have hne2 : ¬ lb = bb := by omega
  have hmax : max (1048576 : Int) (bs.length : Int) = 1048576 := by omega
  clear hap hap5 hL hS hprep
  go_cut [6] from 38 to 50 (fun u6 wx => u6 = .int .i64 (-1) ∧ wx = w3.setCell ⟨lb, 7, none⟩ (.slice (some ⟨bb, 0, none⟩) 1 bc))
  case first =>
    go_region_law (refine step_append_run rfl _ _ _ _ rfl _ _ rfl rfl _ _ HAP.out ?_)
    all_goals (go_wp2_with fail; go_meet; exact ⟨rfl, rfl⟩)
  case rest =>
    obtain ⟨rfl, rfl⟩ := hcut
    go_wp2_with fail
    have d0 : (w3.setCell ⟨lb, 7, none⟩ (.slice (some ⟨bb, 0, none⟩) 1 bc)).cell? ⟨lb, 7, none⟩ = some (.slice (some ⟨bb, 0, none⟩) 1 bc) := World.cell?_setCell_same' _ _ _ (by rw [c7b]; rfl)
    go_region_held3 (fun w' => w'.cell? ⟨lb, 7, none⟩ = some (.slice (some ⟨bb, 0, none⟩) 1 bc)) (go_keep) ((refine step_append_run rfl _ _ _ _ rfl _ _ rfl rfl _ _ HAP5.out ?_))
    go_wp2_with fail
    go_ret2
    exact ⟨rfl, ⟨bb, w.heap.size, bc, hbb, Nat.le_refl _, HL.out⟩, HS.out⟩
end Go.Proofs.Ybulkayms.Cnt
