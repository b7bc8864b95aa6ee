/-
  Refusal.Error, and LawS2481CText's walk: it returns true and writes nothing that was there.
-/
import Derived.Test.YbulkayiyRows
import Derived.WalkKit
import Derived.WalkSpells
import Derived.WalkLawsBesides
import Derived.BigQuiet
import Derived.Deep.QuietTactic
import Derived.Deep.Light
namespace Go.Proofs.Ybulkayiy.Txt
open Go.RowKit

theorem hid {p : Prop} (h : p) : Hid p := h
/-- The fixed words. -/
def pre : ByteArray := ⟨#[116, 104, 101, 32, 112, 114, 111, 103, 114, 97, 109, 32, 97, 110, 115, 119, 101, 114, 101, 100, 32]⟩

theorem not_empty {s : ByteArray} (h : 0 < s.size) : s.toList.isEmpty = false := by
  rw [ByteArray.toList_eq]
  cases s with
  | mk d => 
    have h' : 0 < d.size := h
    simp only [List.isEmpty_eq_false_iff]
    intro e
    have := congrArg List.length e
    simp only [Array.length_toList, List.length_nil] at this
    omega
theorem is_empty {s : ByteArray} (h : s.size = 0) : s = ByteArray.empty := by
  cases s with
  | mk d =>
    have h' : d.size = 0 := h
    have : d = #[] := Array.eq_empty_of_size_eq_zero h'
    rw [this]; rfl

set_option maxHeartbeats 400000 in
theorem error_msg (reply msg : ByteArray) (hm : msg.toList.isEmpty = false) (w : World) :
    Calls Yba.prog 5 #[.agg #[.string reply, .string msg]] w fun e w' => e = .returned (.string msg) ∧ w' = w.alloc (.cells #[.string reply, .string msg] 23) := by
  go_enter Yba.func5, Yba.ntmps5
  go_wp2
  go_ret
  exact ⟨rfl, rfl⟩

set_option maxHeartbeats 400000 in
theorem error_none (reply : ByteArray) (hr : reply.size ≤ 1048576) (w : World) :
    Calls Yba.prog 5 #[.agg #[.string reply, .string ByteArray.empty]] w fun e w' => e = .returned (.string (pre ++ reply)) ∧ w' = w.alloc (.cells #[.string reply, .string ByteArray.empty] 23) := by
  go_enter Yba.func5, Yba.ntmps5
  go_wp2
  go_ret
  exact ⟨rfl, rfl⟩

theorem at_string (s : ByteArray) (k : Nat) (h : k < s.size) (w : World) : (Instr.index 9 (.string s) (.int .i64 k)).run Yba.prog w = .ok (.int .u8 s[k].toNat) w := by
  rw [run_index_string _ _ _ _ _ Yba.underlying9]
  simp [h]
theorem pre_at (reply : ByteArray) (k : Nat) (h : k < 21) (h' : k < (pre ++ reply).size) : (pre ++ reply)[k] = pre[k]'h := by
  exact ByteArray.getElem_append_left (show k < pre.size from h)
theorem reply_at (reply : ByteArray) (k : Nat) (h : k < reply.size) (h' : 21 + k < (pre ++ reply).size) : (pre ++ reply)[21 + k] = reply[k] := by
  rw [ByteArray.getElem_append_right (by show 21 ≤ 21 + k; omega)]
  simp [show pre.size = 21 from rfl]

set_option maxHeartbeats 400000 in
theorem law_none (reply : ByteArray) (hr : reply.size ≤ 1048576) (w : World) :
    Calls Yba.prog 3 #[.string reply, .string ByteArray.empty] w fun e w' => e = .returned (.bool true) ∧ Below w.heap.size w w' := by
  have ER := error_none reply hr w
  obtain ⟨G, hG⟩ : ∃ G, pre ++ reply = G := ⟨_, rfl⟩
  rw [hG] at ER
  have hs : G.size = 21 + reply.size := by rw [← hG, ByteArray.size_append]; rfl
  have HG := hid hG
  clear hG
  go_enter Yba.func3, Yba.ntmps3
  go_wp2_with fail
  refine ER.mono ?_
  rintro e w' ⟨rfl, rfl⟩
  clear ER
  go_wp2_with fail
  go_loopw [7] (fun i wr => ∃ k : Nat, k ≤ 21 ∧ i = .int .i64 k ∧ Below w.heap.size w wr) (fun i _ => 21 - (intOf i).toNat)
  case atStart => exact ⟨0, Nat.zero_le _, rfl, (Below.refl _ _).alloc (Nat.le_refl _) _⟩
  case round =>
    obtain ⟨k, hk, rfl, hb⟩ := hrel
    by_cases hlt : k < 21
    · have i0 : (0 : Int) ≤ (k : Int) := by omega
      have i1 : (k : Int) < 21 + (reply.size : Int) := by omega
      have i2 : (k : Int) < 21 := by omega
      have hkG : k < G.size := by rw [hs]; omega
      have hg : G[k] = (ByteArray.mk #[116, 104, 101, 32, 112, 114, 111, 103, 114, 97, 109, 32, 97, 110, 115, 119, 101, 114, 101, 100, 32])[k]'hlt := by
        have := pre_at reply k hlt (by rw [HG.out]; exact hkG)
        simp only [HG.out] at this
        exact this
      go_wp2_with fail
      go_quiet (fail)
      go_wp2_with fail
      go_roundw
      case rel => exact ⟨k + 1, by omega, by go_num, below_drewN hb _⟩
      case measure => simp [intOf]; omega
    · have hk21 : k = 21 := by omega
      subst hk21
      clear hk hlt
      go_wp2_with fail
      go_loopw [8] (fun i wr => ∃ k : Nat, k ≤ reply.size ∧ i = .int .i64 k ∧ Below w.heap.size w wr) (fun i _ => reply.size - (intOf i).toNat)
      case atStart => exact ⟨0, Nat.zero_le _, rfl, hb⟩
      case round =>
        clear hb
        obtain ⟨k, hk, rfl, hb⟩ := hrel
        by_cases hlt : k < reply.size
        · have i0 : (0 : Int) ≤ (k : Int) := by omega
          have i1 : (k : Int) < (reply.size : Int) := by omega
          have i3 : IntKind.i64.wrap (21 + (k : Int)) = 21 + (k : Int) := by rw [IntKind.wrap_i64]; omega
          have i4 : (0 : Int) ≤ 21 + (k : Int) := by omega
          have hkG : 21 + k < G.size := by rw [hs]; omega
          have hg : G[21 + k] = reply[k] := by
            have := reply_at reply k hlt (by rw [HG.out]; exact hkG)
            simp only [HG.out] at this
            exact this
          have e21 : ((21 : Int) + (k : Int)).toNat = 21 + k := by omega
          go_wp2_with fail
          go_quiet (fail)
          go_wp2_with fail
          go_roundw
          case rel => exact ⟨k + 1, by omega, by go_num, below_drewN hb _⟩
          case measure => simp [intOf]; omega
        · go_wp2_with fail
          go_ret
          exact ⟨rfl, hb⟩

set_option maxHeartbeats 400000 in
theorem law_msg (reply msg : ByteArray) (hr : reply.size ≤ 1048576) (hm : msg.size ≤ 1048576) (h0 : 0 < msg.size) (w : World) :
    Calls Yba.prog 3 #[.string reply, .string msg] w fun e w' => e = .returned (.bool true) ∧ Below w.heap.size w w' := by
  have ER := error_msg reply msg (not_empty h0) w
  go_enter Yba.func3, Yba.ntmps3
  go_wp2_with fail
  refine ER.mono ?_
  rintro e w' ⟨rfl, rfl⟩
  clear ER
  go_wp2_with fail
  go_ret
  exact ⟨by simp, (Below.refl _ _).alloc (Nat.le_refl _) _⟩

theorem law_far (reply msg : ByteArray) (h : 1048576 < reply.size ∨ 1048576 < msg.size) (w : World) :
    Calls Yba.prog 3 #[.string reply, .string msg] w fun e w' => e = .returned (.bool true) ∧ Below w.heap.size w w' := by
  by_cases h0 : 1048576 < reply.size
  · go_enter Yba.func3, Yba.ntmps3
    go_wp2_with fail
    go_ret
    exact ⟨rfl, Below.refl _ _⟩
  · have h1 : 1048576 < msg.size := by omega
    clear h
    go_enter Yba.func3, Yba.ntmps3
    go_wp2_with fail
    go_ret
    exact ⟨rfl, Below.refl _ _⟩

theorem law_text (reply msg : ByteArray) (w : World) :
    Calls Yba.prog 3 #[.string reply, .string msg] w fun e w' => e = .returned (.bool true) ∧ Below w.heap.size w w' := by
  by_cases h : 1048576 < reply.size ∨ 1048576 < msg.size
  · exact law_far reply msg h w
  · by_cases h0 : 0 < msg.size
    · exact law_msg reply msg (by omega) (by omega) h0 w
    · obtain rfl := is_empty (s := msg) (by omega)
      exact law_none reply (by omega) w

end Go.Proofs.Ybulkayiy.Txt
