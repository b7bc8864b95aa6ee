/-
  zzs2482bexpect: the reply written out by hand.
-/
import Derived.Test.YbulkayjmRep
namespace Go.Proofs.Ybulkayjm.Rep
open Go.RowKit

theorem be8_snoc (s : Int) (k : Nat) (h : k < 8) : (be8 s).take k ++ [(be8 s).getD k (by8 0)] = (be8 s).take (k + 1) := by
  have hl : (be8 s).length = 8 := rfl
  rw [List.take_succ_eq_append_getElem (by omega)]
  simp [hl, h]

set_option maxHeartbeats 1000000 in
theorem expect_any (s : Int) (h0 : 0 ≤ s) (h1 : s < 18446744073709551616) (w : World) :
    Calls Yba.prog 7 #[.int .u64 s] w fun e w' => ∃ v', e = .returned v' ∧ w'.ownsRow w.heap.size 5 1 v' 37 (rep s) ∧ Below w.heap.size w w' := by
  obtain ⟨i, hi, hz0, hz1, hz2⟩ := info_parts info5
  go_enter Yba.func7, Yba.ntmps7
  go_wp2_with fail
  go_loopw [3, 4] (fun v i wr => ∃ k : Nat, k ≤ 8 ∧ i = .int .i64 (7 - (k : Int)) ∧ wr.ownsRow w.heap.size 5 1 v (14 + k) (bys head14 ++ (be8 s).take k) ∧ Below w.heap.size w wr) (fun _ i _ => (intOf i + 1).toNat)
  case atStart =>
    refine ⟨0, by omega, rfl, ?_, (Below.refl _ _).alloc (Nat.le_refl _) _⟩
    exact ⟨by simp [bys, head14], .inr ⟨_, _, _, rfl, Nat.le_refl _, heap_alloc_new w _, Nat.le_refl _, by unfold maxLen; omega, rfl, rfl⟩⟩
  case round =>
    obtain ⟨k, hk, rfl, hown, hb⟩ := hrel
    have hbs := hb.size
    have hrow := hid (fun k hk => (hown.lt k hk).1)
    have HO := hid hown
    clear hown
    by_cases hlt : k < 8
    · have hsn := hid (be8_snoc s k hlt)
      rcases (show k = 0 ∨ k = 1 ∨ k = 2 ∨ k = 3 ∨ k = 4 ∨ k = 5 ∨ k = 6 ∨ k = 7 from by omega) with rfl | rfl | rfl | rfl | rfl | rfl | rfl | rfl
      · go_wp2_with (at_builtin; refine wpList_append_lies _ rfl _ _ _ rfl w.heap.size 5 i (.int .u8 0) 1 1 Yba.underlying22 hi hz0 hz1 hz2 rfl (by omega) u3 (14 + 0) _ rfl (HO.out.alloc _) ⟨wr.heap.size, 0, none⟩ 1 1 [(be8 s).getD 0 (by8 0)] rfl rfl (cell_one_new _ _ _) (by simp [be8, by8, Value.oneCell']) (by omega) (by unfold maxLen; omega) (by omega) (by simp; omega) (wr.heap.size + 1) (by simp) ?_; intro g4 cap4 w4 hown4 hgrow4 hat4 hlt4; have HO4 := hid hown4; have HG4 := hid hgrow4; clear hown4 hgrow4 hat4)
        have o4 := HO4.out
        rw [List.append_assoc, hsn.out] at o4
        exact ⟨⟨1, by omega, by simp, o4, (hb.alloc hbs _).grown HG4.out (by simp; omega) hrow.out⟩, by simp [intOf]⟩
      · go_wp2_with (at_builtin; refine wpList_append_lies _ rfl _ _ _ rfl w.heap.size 5 i (.int .u8 0) 1 1 Yba.underlying22 hi hz0 hz1 hz2 rfl (by omega) u3 (14 + 1) _ rfl (HO.out.alloc _) ⟨wr.heap.size, 0, none⟩ 1 1 [(be8 s).getD 1 (by8 0)] rfl rfl (cell_one_new _ _ _) (by simp [be8, by8, Value.oneCell']) (by omega) (by unfold maxLen; omega) (by omega) (by simp; omega) (wr.heap.size + 1) (by simp) ?_; intro g4 cap4 w4 hown4 hgrow4 hat4 hlt4; have HO4 := hid hown4; have HG4 := hid hgrow4; clear hown4 hgrow4 hat4)
        have o4 := HO4.out
        rw [List.append_assoc, hsn.out] at o4
        exact ⟨⟨2, by omega, by simp, o4, (hb.alloc hbs _).grown HG4.out (by simp; omega) hrow.out⟩, by simp [intOf]⟩
      · go_wp2_with (at_builtin; refine wpList_append_lies _ rfl _ _ _ rfl w.heap.size 5 i (.int .u8 0) 1 1 Yba.underlying22 hi hz0 hz1 hz2 rfl (by omega) u3 (14 + 2) _ rfl (HO.out.alloc _) ⟨wr.heap.size, 0, none⟩ 1 1 [(be8 s).getD 2 (by8 0)] rfl rfl (cell_one_new _ _ _) (by simp [be8, by8, Value.oneCell']) (by omega) (by unfold maxLen; omega) (by omega) (by simp; omega) (wr.heap.size + 1) (by simp) ?_; intro g4 cap4 w4 hown4 hgrow4 hat4 hlt4; have HO4 := hid hown4; have HG4 := hid hgrow4; clear hown4 hgrow4 hat4)
        have o4 := HO4.out
        rw [List.append_assoc, hsn.out] at o4
        exact ⟨⟨3, by omega, by simp, o4, (hb.alloc hbs _).grown HG4.out (by simp; omega) hrow.out⟩, by simp [intOf]⟩
      · go_wp2_with (at_builtin; refine wpList_append_lies _ rfl _ _ _ rfl w.heap.size 5 i (.int .u8 0) 1 1 Yba.underlying22 hi hz0 hz1 hz2 rfl (by omega) u3 (14 + 3) _ rfl (HO.out.alloc _) ⟨wr.heap.size, 0, none⟩ 1 1 [(be8 s).getD 3 (by8 0)] rfl rfl (cell_one_new _ _ _) (by simp [be8, by8, Value.oneCell']) (by omega) (by unfold maxLen; omega) (by omega) (by simp; omega) (wr.heap.size + 1) (by simp) ?_; intro g4 cap4 w4 hown4 hgrow4 hat4 hlt4; have HO4 := hid hown4; have HG4 := hid hgrow4; clear hown4 hgrow4 hat4)
        have o4 := HO4.out
        rw [List.append_assoc, hsn.out] at o4
        exact ⟨⟨4, by omega, by simp, o4, (hb.alloc hbs _).grown HG4.out (by simp; omega) hrow.out⟩, by simp [intOf]⟩
      · go_wp2_with (at_builtin; refine wpList_append_lies _ rfl _ _ _ rfl w.heap.size 5 i (.int .u8 0) 1 1 Yba.underlying22 hi hz0 hz1 hz2 rfl (by omega) u3 (14 + 4) _ rfl (HO.out.alloc _) ⟨wr.heap.size, 0, none⟩ 1 1 [(be8 s).getD 4 (by8 0)] rfl rfl (cell_one_new _ _ _) (by simp [be8, by8, Value.oneCell']) (by omega) (by unfold maxLen; omega) (by omega) (by simp; omega) (wr.heap.size + 1) (by simp) ?_; intro g4 cap4 w4 hown4 hgrow4 hat4 hlt4; have HO4 := hid hown4; have HG4 := hid hgrow4; clear hown4 hgrow4 hat4)
        have o4 := HO4.out
        rw [List.append_assoc, hsn.out] at o4
        exact ⟨⟨5, by omega, by simp, o4, (hb.alloc hbs _).grown HG4.out (by simp; omega) hrow.out⟩, by simp [intOf]⟩
      · go_wp2_with (at_builtin; refine wpList_append_lies _ rfl _ _ _ rfl w.heap.size 5 i (.int .u8 0) 1 1 Yba.underlying22 hi hz0 hz1 hz2 rfl (by omega) u3 (14 + 5) _ rfl (HO.out.alloc _) ⟨wr.heap.size, 0, none⟩ 1 1 [(be8 s).getD 5 (by8 0)] rfl rfl (cell_one_new _ _ _) (by simp [be8, by8, Value.oneCell']) (by omega) (by unfold maxLen; omega) (by omega) (by simp; omega) (wr.heap.size + 1) (by simp) ?_; intro g4 cap4 w4 hown4 hgrow4 hat4 hlt4; have HO4 := hid hown4; have HG4 := hid hgrow4; clear hown4 hgrow4 hat4)
        have o4 := HO4.out
        rw [List.append_assoc, hsn.out] at o4
        exact ⟨⟨6, by omega, by simp, o4, (hb.alloc hbs _).grown HG4.out (by simp; omega) hrow.out⟩, by simp [intOf]⟩
      · go_wp2_with (at_builtin; refine wpList_append_lies _ rfl _ _ _ rfl w.heap.size 5 i (.int .u8 0) 1 1 Yba.underlying22 hi hz0 hz1 hz2 rfl (by omega) u3 (14 + 6) _ rfl (HO.out.alloc _) ⟨wr.heap.size, 0, none⟩ 1 1 [(be8 s).getD 6 (by8 0)] rfl rfl (cell_one_new _ _ _) (by simp [be8, by8, Value.oneCell']) (by omega) (by unfold maxLen; omega) (by omega) (by simp; omega) (wr.heap.size + 1) (by simp) ?_; intro g4 cap4 w4 hown4 hgrow4 hat4 hlt4; have HO4 := hid hown4; have HG4 := hid hgrow4; clear hown4 hgrow4 hat4)
        have o4 := HO4.out
        rw [List.append_assoc, hsn.out] at o4
        exact ⟨⟨7, by omega, by simp, o4, (hb.alloc hbs _).grown HG4.out (by simp; omega) hrow.out⟩, by simp [intOf]⟩
      · go_wp2_with (at_builtin; refine wpList_append_lies _ rfl _ _ _ rfl w.heap.size 5 i (.int .u8 0) 1 1 Yba.underlying22 hi hz0 hz1 hz2 rfl (by omega) u3 (14 + 7) _ rfl (HO.out.alloc _) ⟨wr.heap.size, 0, none⟩ 1 1 [(be8 s).getD 7 (by8 0)] rfl rfl (cell_one_new _ _ _) (by simp [be8, by8, Value.oneCell']) (by omega) (by unfold maxLen; omega) (by omega) (by simp; omega) (wr.heap.size + 1) (by simp) ?_; intro g4 cap4 w4 hown4 hgrow4 hat4 hlt4; have HO4 := hid hown4; have HG4 := hid hgrow4; clear hown4 hgrow4 hat4)
        have o4 := HO4.out
        rw [List.append_assoc, hsn.out] at o4
        exact ⟨⟨8, by omega, by simp, o4, (hb.alloc hbs _).grown HG4.out (by simp; omega) hrow.out⟩, by simp [intOf]⟩
    · obtain rfl : k = 8 := by omega
      rw [List.take_of_length_le (by simp [be8])] at HO
      go_wp2_with (at_builtin; refine wpList_append_lies _ rfl _ _ _ rfl w.heap.size 5 i (.int .u8 0) 1 1 Yba.underlying22 hi hz0 hz1 hz2 rfl (by omega) u3 (14 + 8) _ rfl (HO.out.alloc _) ⟨wr.heap.size, 0, none⟩ 15 15 (bys (tail6 ++ tail9)) rfl rfl (World.news_of_block (heap_alloc_new wr _)) (one8_bys _) (by omega) (by unfold maxLen; omega) (by omega) (by simp; omega) (wr.heap.size + 1) (by simp) ?_; intro g4 cap4 w4 hown4 hgrow4 hat4 hlt4; have HO4 := hid hown4; have HG4 := hid hgrow4; clear hown4 hgrow4 hat4)
      go_ret
      exact ⟨_, rfl, HO4.out, (hb.alloc hbs _).grown HG4.out (by simp; omega) hrow.out⟩
end Go.Proofs.Ybulkayjm.Rep
