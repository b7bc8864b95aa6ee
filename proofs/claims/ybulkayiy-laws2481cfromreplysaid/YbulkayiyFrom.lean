/-
  LawS2481CFromReply's walk: it returns true and writes nothing that was there.
-/
import Derived.Test.YbulkayiyText
import Derived.Laws.CopyOwn
import Derived.Deep.OwnRows
import Derived.SliceStrings
namespace Go.Proofs.Ybulkayiy.Txt
open Go.RowKit

/-- 'c := make([]T, len(s)); copy(c, s)': a row of the call's own that holds what s holds. -/
theorem made_copied {P : Program} (t e : TypeId) (z : Value) (bytes : Nat) (ht : P.underlying t = some (.slice e)) (hinfo : (P.info? e).map (fun i => (i.zero, i.size, i.bytes)) = some (some z, 1, bytes)) (hz1 : z.cells = #[z])
    (w : World) (ao : Option Addr) (n cap : Nat) (V : Nat → Value) (hV : ∀ j, (V j).oneCell' = true) (hb : bytes * n ≤ 281474976710656) (h63 : n ≤ 9223372036854775807)
    (hsrc : ∀ j, j < n → ∃ x, ao = some x ∧ w.cell? (x.add j) = some (V j)) :
    ∃ W1 W2, (Instr.makeSlice t (.int .i64 n) (.int .i64 n)).run P w = .ok (.slice (some ⟨w.heap.size, 0, none⟩) n n) W1 ∧
      (∀ ty, (Builtin.copy_ #[t, t] ty #[.slice (some ⟨w.heap.size, 0, none⟩) n n, .slice ao n cap]).run P W1 = .ok (.int .i64 n) W2) ∧
      W2.heap.size = w.heap.size + 1 ∧ W2.heap[w.heap.size]? = some (.cells ((List.range n).map V).toArray e (0, 0)) ∧ Below w.heap.size w W2 := by
  have hm := run_make_row' (P := P) t e z bytes ht hinfo hz1 .i64 .i64 n hb h63 w
  have hs1 : (P.info? e).map (·.size) = some 1 := by
    obtain ⟨i, hi, hzz⟩ := Option.map_eq_some_iff.1 hinfo
    simp only [Prod.mk.injEq] at hzz
    simp [hi, hzz.2.1]
  have hg := heap_alloc_new w (.cells (madeCells #[z] n) e)
  have hb1 : Below w.heap.size w (w.alloc (.cells (madeCells #[z] n) e)) := (Below.refl _ _).alloc (Nat.le_refl _) _
  by_cases h0 : n = 0
  · subst h0
    refine ⟨_, _, hm, fun ty => run_copy_none (P := P) _ t t ty e _ ao 0 0 0 cap ht hs1 (by simp), by simp, ?_, hb1⟩
    rw [hg]
    have : madeCells #[z] 0 = #[] := Array.eq_empty_of_size_eq_zero (size_madeCells _ _)
    rw [this]; rfl
  · obtain ⟨x, rfl, _⟩ := hsrc 0 (by omega)
    have hsz := size_madeCells #[z] n
    have hl : ((List.range n).map V).length = n := by simp
    have hsr : ∀ j v, ((List.range n).map V)[j]? = some v → (w.alloc (.cells (madeCells #[z] n) e)).cell? (x.add j) = some v := by
      intro j v hj
      have hjn : j < n := by
        rcases Nat.lt_or_ge j n with h | h
        · exact h
        · rw [List.getElem?_eq_none (by simp; omega)] at hj; cases hj
      obtain ⟨x', hx, hcell⟩ := hsrc j hjn
      cases hx
      rw [List.getElem?_map, List.getElem?_range hjn] at hj
      simp at hj
      rw [← hj]
      exact cell_later hb1 hcell
    have hr := fun ty => run_copy_row (P := P) (w.alloc (.cells (madeCells #[z] n) e)) t t ty e w.heap.size 0 n n x n cap (madeCells #[z] n) e ((List.range n).map V) ht hs1 hg (by simp) hsr (by simp [hsz]) (by
      intro v hv
      rw [List.mem_map] at hv
      obtain ⟨j, _, rfl⟩ := hv
      exact hV j)
    have hcells : ((madeCells #[z] n).toList.take 0 ++ (List.range n).map V ++ (madeCells #[z] n).toList.drop (0 + ((List.range n).map V).length)).toArray = ((List.range n).map V).toArray := by
      rw [List.drop_of_length_le (by simp [hsz])]
      simp
    rw [hl] at hr
    simp only [hl] at hcells
    rw [hcells] at hr
    exact ⟨_, _, hm, hr, by simp [World.setRow], setRow_heap _ _ _ _ _ _ hg, below_setRow hb1 (Nat.le_refl _) _⟩

theorem info9 : (Yba.prog.info? 9).map (fun i => (i.zero, i.size, i.bytes)) = some (some (.string ByteArray.empty), 1, 16) := by kernel_rfl

set_option maxHeartbeats 400000 in
theorem refusal_zero (name : ByteArray) (x : Option Addr) (c : Nat) (y : Value) (w : World) :
    Calls Yba.prog 6 #[.agg #[.string name, .slice x 0 c, y]] w fun e w' => e = .returned (.agg #[.string name, .string ByteArray.empty]) ∧ Below w.heap.size w w' := by
  go_enter Yba.func6, Yba.ntmps6
  go_wp2_with fail
  exact bodyPost_ret (v := .agg #[.string name, .string ByteArray.empty]) (by simp [results, Yba.results6, go_sem]; rfl) rfl
    ⟨rfl, (((Below.refl _ _).alloc (Nat.le_refl _) _).alloc (by simp) _).alloc (by simp; omega) _⟩

set_option maxHeartbeats 400000 in
theorem refusal_some (name last : ByteArray) (g n c : Nat) (y : Value) (w : World) (hn : 0 < n) (hn2 : n ≤ 1024) (hc : w.cell? ⟨g, n - 1, none⟩ = some (.string last)) :
    Calls Yba.prog 6 #[.agg #[.string name, .slice (some ⟨g, 0, none⟩) n c, y]] w fun e w' => e = .returned (.agg #[.string name, .string last]) ∧ Below w.heap.size w w' := by
  have hlt : g < w.heap.size := World.block_lt_of_cell? _ _ hc
  have e1 : ((n : Int) - 1).toNat = n - 1 := by omega
  have h3 : ∀ o1 o2 o3, (((w.alloc o1).alloc o2).alloc o3).cell? ⟨g, n - 1, none⟩ = some (.string last) := fun o1 o2 o3 => by
    refine cell_later ?_ hc
    exact (((Below.refl _ _).alloc (Nat.le_refl _) _).alloc (by simp) _).alloc (by simp; omega) _
  go_enter Yba.func6, Yba.ntmps6
  go_wp2_with fail
  exact bodyPost_ret (v := .agg #[.string name, .string last]) (by simp [results, Yba.results6, go_sem]) rfl
    ⟨rfl, (((Below.refl _ _).alloc (Nat.le_refl _) _).alloc (by simp) _).alloc (by simp; omega) _⟩


theorem str_cells (s : ByteArray) : (Value.string s).oneCell' = true := rfl

set_option maxHeartbeats 400000 in
theorem from_some (name : ByteArray) (ao : Option Addr) (n cap : Nat) (S : Nat → ByteArray) (hname : name.size ≤ 1048576) (hn : 0 < n) (hn2 : n ≤ 1024) (_hcap : n ≤ cap) (w : World)
    (hc : ∀ j, j < n → ∃ x, ao = some x ∧ w.cell? (x.add j) = some (.string (S j))) :
    Calls Yba.prog 4 #[.string name, .slice ao n cap] w fun e w' => e = .returned (.bool true) ∧ Below w.heap.size w w' := by
  obtain ⟨W1, W2, hmk, hcp, hs2, hr2, hb2⟩ := made_copied (P := Yba.prog) 26 9 (.string ByteArray.empty) 16 Yba.underlying26 info9 rfl w ao n cap (fun j => .string (S j)) (fun _ => rfl) (by omega) (by omega) hc
  obtain ⟨⟨pb, po, sp⟩, rfl, hfirst⟩ := hc 0 (by omega)
  have hspot : sp = none := by simpa [Addr.add] using World.cell?_spot hfirst
  subst hspot
  obtain ⟨_, hx, hlast⟩ := hc (n - 1) (by omega)
  cases hx
  rw [Go.WideShapes.add_plain] at hlast
  have hlast2 : W2.cell? ⟨w.heap.size, n - 1, none⟩ = some (.string (S (n - 1))) := by
    simp only [World.cell?, hr2]
    simp [show n - 1 < n from by omega]
  generalize S (n - 1) = last at hlast hlast2
  have HB2 := hid hb2
  clear hc hr2 hb2
  have e1 : ((n : Int) - 1).toNat = n - 1 := by omega
  go_enter Yba.func4, Yba.ntmps4
  go_wp2_with fail
  refine (refusal_some name last _ n n _ _ hn hn2 ?_).mono ?_
  · exact cell_later ((Below.refl _ _).alloc (Nat.le_refl _) _) hlast2
  rintro e w3 ⟨rfl, hb3⟩
  have b3 : Below w.heap.size w w3 := (HB2.out.alloc (by omega) _).trans (hb3.mono (by simp; omega))
  by_cases h0 : 0 < last.size
  · have hne := not_empty h0
    go_wp2_with fail
    refine (error_msg name last hne _).mono ?_
    rintro e w4 ⟨rfl, rfl⟩
    have k := cell_later (b3.alloc b3.size (.cells #[.string name, .string last] 23)) hlast
    go_wp2_with fail
    go_ret
    exact ⟨by simp, b3.alloc b3.size _⟩
  · obtain rfl := is_empty (s := last) (by omega)
    go_wp2_with fail
    refine (error_none name hname _).mono ?_
    rintro e w4 ⟨rfl, rfl⟩
    have k := cell_later (b3.alloc b3.size (.cells #[.string name, .string ByteArray.empty] 23)) hlast
    go_wp2_with fail
    go_ret
    exact ⟨by unfold pre; simp, b3.alloc b3.size _⟩

set_option maxHeartbeats 400000 in
theorem from_zero (name : ByteArray) (ao : Option Addr) (cap : Nat) (hname : name.size ≤ 1048576) (w : World) :
    Calls Yba.prog 4 #[.string name, .slice ao 0 cap] w fun e w' => e = .returned (.bool true) ∧ Below w.heap.size w w' := by
  obtain ⟨W1, W2, hmk, hcp, hs2, hr2, hb2⟩ := made_copied (P := Yba.prog) 26 9 (.string ByteArray.empty) 16 Yba.underlying26 info9 rfl w ao 0 cap (fun _ => .string ByteArray.empty) (fun _ => rfl) (by omega) (by omega) (fun j hj => absurd hj (Nat.not_lt_zero j))
  have HB2 := hid hb2
  clear hr2 hb2
  simp only [Int.natCast_zero] at hmk hcp
  go_enter Yba.func4, Yba.ntmps4
  go_wp2_with fail
  refine (refusal_zero name _ 0 _ _).mono ?_
  rintro e w3 ⟨rfl, hb3⟩
  have b3 : Below w.heap.size w w3 := (HB2.out.alloc (by omega) _).trans (hb3.mono (by simp; omega))
  go_wp2_with fail
  refine (error_none name hname _).mono ?_
  rintro e w4 ⟨rfl, rfl⟩
  go_wp2_with fail
  go_ret
  exact ⟨by unfold pre; simp, b3.alloc b3.size _⟩

theorem from_far (name : ByteArray) (ao : Option Addr) (n cap : Nat) (h : 1048576 < name.size ∨ 1024 < n) (w : World) :
    Calls Yba.prog 4 #[.string name, .slice ao n cap] w fun e w' => e = .returned (.bool true) ∧ Below w.heap.size w w' := by
  by_cases h0 : 1048576 < name.size
  · go_enter Yba.func4, Yba.ntmps4
    go_wp2_with fail
    go_ret
    exact ⟨rfl, Below.refl _ _⟩
  · have h1 : 1024 < n := by omega
    clear h
    go_enter Yba.func4, Yba.ntmps4
    go_wp2_with fail
    go_ret
    exact ⟨rfl, Below.refl _ _⟩

theorem law_from (name : ByteArray) (ao : Option Addr) (n cap : Nat) (S : Nat → ByteArray) (hcap : n ≤ cap) (w : World)
    (hc : ∀ j, j < n → ∃ x, ao = some x ∧ w.cell? (x.add j) = some (.string (S j))) :
    Calls Yba.prog 4 #[.string name, .slice ao n cap] w fun e w' => e = .returned (.bool true) ∧ Below w.heap.size w w' := by
  by_cases h : 1048576 < name.size ∨ 1024 < n
  · exact from_far name ao n cap h w
  · by_cases h0 : n = 0
    · subst h0
      exact from_zero name ao cap (by omega) w
    · exact from_some name ao n cap S (by omega) (by omega) (by omega) hcap w hc

end Go.Proofs.Ybulkayiy.Txt
