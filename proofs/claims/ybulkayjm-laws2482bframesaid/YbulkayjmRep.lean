/-
  The repeating reply: AppendUint64, appendRepeatingReply, the copy of the argument.
-/
import Derived.Test.YbulkayjmRows
import Derived.WalkKit
import Derived.WalkSpells
import Derived.WalkLawsBesides
import Derived.BigQuiet
import Derived.Deep.QuietTactic
import Derived.Deep.AppendLies
import Derived.Deep.RegionHeld3
import Derived.Deep.OwnRows
import Derived.Laws.CopyOwn
import Derived.Deep.Light
namespace Go.Proofs.Ybulkayjm.Rep
open Go.RowKit

theorem hid {p : Prop} (h : p) : Hid p := h
theorem info5 : (Yba.prog.info? 5).map (fun i => (i.zero, i.size, i.bytes)) = some (some (.int .u8 0), 1, 1) := by kernel_rfl

/-- A byte. -/
def by8 (n : Int) : Value := .int .u8 n

/-- The eight bytes of a number, the greatest first. -/
def be8 (s : Int) : List Value := [by8 (s / 72057594037927936), by8 (s / 281474976710656 % 256), by8 (s / 1099511627776 % 256), by8 (s / 4294967296 % 256), by8 (s / 16777216 % 256), by8 (s / 65536 % 256), by8 (s / 256 % 256), by8 (s % 256)]

theorem two_new (w : World) (o1 : Obj) (cs : Array Value) (t : TypeId) : ((w.alloc o1).alloc (.cells cs t)).heap[w.heap.size + 1]? = some (.cells cs t) := by
  have := heap_alloc_new (w.alloc o1) (.cells cs t)
  rwa [show (w.alloc o1).heap.size = w.heap.size + 1 from by simp] at this

theorem one8_be8 (s : Int) : ∀ u ∈ be8 s, u.oneCell' = true := by simp [be8, by8, Value.oneCell']

set_option maxHeartbeats 400000 in
theorem app64_any (base n : Nat) (v : Value) (xs : List Value) (s : Int) (h0 : 0 ≤ s) (h1 : s < 18446744073709551616) (w : World) (hown : w.ownsRow base 5 1 v n xs) (hbase : base ≤ w.heap.size) (hn : n ≤ 10000) :
    Calls Yba.prog 9 #[.agg #[], v, .int .u64 s] w fun e w' => ∃ v', e = .returned v' ∧ w'.ownsRow base 5 1 v' (n + 8) (xs ++ be8 s) ∧ Below base w w' := by
  obtain ⟨i, hi, hz0, hz1, hz2⟩ := info_parts info5
  have hrow : ∀ k, v.ownBlock = some k → base ≤ k := fun k hk => (hown.lt k hk).1
  have HO := hid hown
  have HR := hid hrow
  clear hown hrow
  go_enter Yba.func9, Yba.ntmps9
  go_wp2_with (at_builtin; refine wpList_append_lies _ rfl _ _ _ rfl base 5 i (.int .u8 0) 1 1 Yba.underlying22 hi hz0 hz1 hz2 rfl (by omega) v n xs rfl ((HO.out.alloc _).alloc _) ⟨w.heap.size + 1, 0, none⟩ 8 8 (be8 s) rfl rfl (World.news_of_block (two_new w _ _ _)) (one8_be8 s) (by omega) (by unfold maxLen; omega) (by omega) (by simp; omega) (w.heap.size + 2) (by simp) ?_; intro g cap w2 hown2 hgrow hat hlt; have HO2 := hid hown2; have HG := hid hgrow; clear hown2 hgrow hat)
  go_ret
  refine ⟨_, rfl, HO2.out, ?_⟩
  exact (((Below.refl _ _).alloc hbase _).alloc (by simp; omega) _).grown HG.out (by simp; omega) HR.out

def bys (l : List Int) : List Value := l.map by8
def head14 : List Int := [206, 0, 0, 0, 32, 131, 0, 206, 0, 0, 0, 0, 1, 207]
def tail6 : List Int := [5, 206, 0, 0, 0, 104]
def tail9 : List Int := [129, 48, 221, 0, 0, 0, 1, 145, 6]
theorem one8_bys (l : List Int) : ∀ u ∈ bys l, u.oneCell' = true := by
  intro u hu
  simp only [bys, List.mem_map] at hu
  obtain ⟨n, _, rfl⟩ := hu
  rfl
/-- The reply. -/
def rep (s : Int) : List Value := bys head14 ++ be8 s ++ bys (tail6 ++ tail9)

set_option maxHeartbeats 400000 in
theorem rep_any (base n : Nat) (v : Value) (xs : List Value) (s : Int) (h0 : 0 ≤ s) (h1 : s < 18446744073709551616) (w : World) (hown : w.ownsRow base 5 1 v n xs) (hbase : base ≤ w.heap.size) (hn : n ≤ 5000) :
    Calls Yba.prog 5 #[v, .int .u64 s] w fun e w' => ∃ v', e = .returned v' ∧ w'.ownsRow base 5 1 v' (n + 37) (xs ++ rep s) ∧ Below base w w' := by
  obtain ⟨i, hi, hz0, hz1, hz2⟩ := info_parts info5
  have hrow : ∀ k, v.ownBlock = some k → base ≤ k := fun k hk => (hown.lt k hk).1
  have HO := hid hown
  have HR := hid hrow
  clear hown hrow
  go_enter Yba.func5, Yba.ntmps5
  go_wp2_with (at_builtin; refine wpList_append_lies _ rfl _ _ _ rfl base 5 i (.int .u8 0) 1 1 Yba.underlying22 hi hz0 hz1 hz2 rfl (by omega) v n xs rfl (HO.out.alloc _) ⟨w.heap.size, 0, none⟩ 14 14 (bys head14) rfl rfl (World.news_of_block (heap_alloc_new w _)) (one8_bys _) (by omega) (by unfold maxLen; omega) (by omega) (by simp; omega) (w.heap.size + 1) (by simp) ?_; intro g cap w2 hown2 hgrow hat hlt; have HO2 := hid hown2; have HG := hid hgrow; clear hown2 hgrow hat)
  have b2 : Below base w w2 := ((Below.refl _ _).alloc hbase _).grown HG.out (by simp; omega) HR.out
  have hs2 : base ≤ w2.heap.size := Nat.le_trans hbase b2.size
  refine (app64_any base (n + 14) _ _ s h0 h1 w2 HO2.out hs2 (by omega)).mono ?_
  rintro e w3 ⟨v3, rfl, hown3, b3⟩
  have hrow3 : ∀ k, v3.ownBlock = some k → base ≤ k := fun k hk => (hown3.lt k hk).1
  have hs3 : base ≤ w3.heap.size := Nat.le_trans hs2 b3.size
  have HO3 := hid hown3
  have HR3 := hid hrow3
  clear hown3 hrow3 HO HR HG HO2 hlt
  go_wp2_with (first
    | (at_builtin; refine wpList_append_lies _ rfl _ _ _ rfl base 5 i (.int .u8 0) 1 1 Yba.underlying22 hi hz0 hz1 hz2 rfl (by omega) v3 (n + 14 + 8) _ rfl (HO3.out.alloc _) ⟨w3.heap.size, 0, none⟩ 6 6 (bys tail6) rfl rfl (World.news_of_block (heap_alloc_new w3 _)) (one8_bys _) (by omega) (by unfold maxLen; omega) (by omega) (by simp; omega) (w3.heap.size + 1) (by simp) ?_; intro g4 cap4 w4 hown4 hgrow4 hat4 hlt4; have HO4 := hid hown4; have HG4 := hid hgrow4; have HR4 := hid (fun k (hk : (Value.slice (some ⟨g4, 0, none⟩) (n + 14 + 8 + 6) cap4).ownBlock = some k) => (hown4.lt k hk).1); clear hown4 hgrow4 hat4)
    | (at_builtin; refine wpList_append_lies _ rfl _ _ _ rfl base 5 i (.int .u8 0) 1 1 Yba.underlying22 hi hz0 hz1 hz2 rfl (by omega) (.slice (some ⟨g4, 0, none⟩) (n + 14 + 8 + 6) cap4) (n + 14 + 8 + 6) _ rfl (HO4.out.alloc _) ⟨w4.heap.size, 0, none⟩ 9 9 (bys tail9) rfl rfl (World.news_of_block (heap_alloc_new w4 _)) (one8_bys _) (by omega) (by unfold maxLen; omega) (by omega) (by have := HG4.out.size; simp at this ⊢; omega) (w4.heap.size + 1) (by simp) ?_; intro g5 cap5 w5 hown5 hgrow5 hat5 hlt5; have HO5 := hid hown5; have HG5 := hid hgrow5; clear hown5 hgrow5 hat5))
  go_ret
  have b4 : Below base w3 w4 := ((Below.refl _ _).alloc hs3 _).grown HG4.out (by simp; omega) HR3.out
  have hs4 : base ≤ w4.heap.size := Nat.le_trans hs3 b4.size
  have b5 : Below base w4 w5 := ((Below.refl _ _).alloc hs4 _).grown HG5.out (by simp; omega) HR4.out
  refine ⟨_, rfl, ?_, ((b2.trans b3).trans b4).trans b5⟩
  have := HO5.out
  simpa [rep, bys, List.append_assoc, Nat.add_assoc] using this

/-- 'c := make([]T, len(s)); copy(c, s)': a row of the call's own that holds what s holds. -/
theorem made_copied {P : Program} (t e : TypeId) (z : Value) (bytes : Nat) (ht : P.underlying t = some (.slice e)) (hinfo : (P.info? e).map (fun i => (i.zero, i.size, i.bytes)) = some (some z, 1, bytes)) (hz1 : z.cells = #[z])
    (w : World) (ao : Option Addr) (n cap : Nat) (V : Nat → Value) (hV : ∀ j, (V j).oneCell' = true) (hb : bytes * n ≤ 281474976710656) (h63 : n ≤ 9223372036854775807)
    (hsrc : ∀ j, j < n → ∃ x, ao = some x ∧ w.cell? (x.add j) = some (V j)) :
    ∃ W1 W2, (Instr.makeSlice t (.int .i64 n) (.int .i64 n)).run P w = .ok (.slice (some ⟨w.heap.size, 0, none⟩) n n) W1 ∧
      (∀ ty, (Builtin.copy_ #[t, t] ty #[.slice (some ⟨w.heap.size, 0, none⟩) n n, .slice ao n cap]).run P W1 = .ok (.int .i64 n) W2) ∧
      W2.heap.size = w.heap.size + 1 ∧ W2.heap[w.heap.size]? = some (.cells ((List.range n).map V).toArray e (0, 0)) ∧ Below w.heap.size w W2 := by
  have hm := run_make_row' (P := P) t e z bytes ht hinfo hz1 .i64 .i64 n hb h63 w
  have hs1 : (P.info? e).map (·.size) = some 1 := by
    obtain ⟨i, hi, hzz⟩ := Option.map_eq_some_iff.1 hinfo
    simp only [Prod.mk.injEq] at hzz
    simp [hi, hzz.2.1]
  have hg := heap_alloc_new w (.cells (madeCells #[z] n) e)
  have hb1 : Below w.heap.size w (w.alloc (.cells (madeCells #[z] n) e)) := (Below.refl _ _).alloc (Nat.le_refl _) _
  by_cases h0 : n = 0
  · subst h0
    refine ⟨_, _, hm, fun ty => run_copy_none (P := P) _ t t ty e _ ao 0 0 0 cap ht hs1 (by simp), by simp, ?_, hb1⟩
    rw [hg]
    have : madeCells #[z] 0 = #[] := Array.eq_empty_of_size_eq_zero (size_madeCells _ _)
    rw [this]; rfl
  · obtain ⟨x, rfl, _⟩ := hsrc 0 (by omega)
    have hsz := size_madeCells #[z] n
    have hl : ((List.range n).map V).length = n := by simp
    have hsr : ∀ j v, ((List.range n).map V)[j]? = some v → (w.alloc (.cells (madeCells #[z] n) e)).cell? (x.add j) = some v := by
      intro j v hj
      have hjn : j < n := by
        rcases Nat.lt_or_ge j n with h | h
        · exact h
        · rw [List.getElem?_eq_none (by simp; omega)] at hj; cases hj
      obtain ⟨x', hx, hcell⟩ := hsrc j hjn
      cases hx
      rw [List.getElem?_map, List.getElem?_range hjn] at hj
      simp at hj
      rw [← hj]
      exact cell_later hb1 hcell
    have hr := fun ty => run_copy_row (P := P) (w.alloc (.cells (madeCells #[z] n) e)) t t ty e w.heap.size 0 n n x n cap (madeCells #[z] n) e ((List.range n).map V) ht hs1 hg (by simp) hsr (by simp [hsz]) (by
      intro v hv
      rw [List.mem_map] at hv
      obtain ⟨j, _, rfl⟩ := hv
      exact hV j)
    have hcells : ((madeCells #[z] n).toList.take 0 ++ (List.range n).map V ++ (madeCells #[z] n).toList.drop (0 + ((List.range n).map V).length)).toArray = ((List.range n).map V).toArray := by
      rw [List.drop_of_length_le (by simp [hsz])]
      simp
    rw [hl] at hr
    simp only [hl] at hcells
    rw [hcells] at hr
    exact ⟨_, _, hm, hr, by simp [World.setRow], setRow_heap _ _ _ _ _ _ hg, below_setRow hb1 (Nat.le_refl _) _⟩

set_option maxHeartbeats 400000 in
theorem copy_any (ao : Option Addr) (n cap : Nat) (V : Nat → Value) (hV : ∀ j, (V j).oneCell' = true) (hn : n ≤ 4096) (hnil : ao = none → n = 0) (w : World) (hc : ∀ j, j < n → ∃ x, ao = some x ∧ w.cell? (x.add j) = some (V j)) :
    Calls Yba.prog 6 #[.slice ao n cap] w fun e w' => ∃ v, e = .returned v ∧ w'.ownsRow w.heap.size 5 1 v n ((List.range n).map V) ∧ Below w.heap.size w w' := by
  obtain ⟨W1, W2, hmk, hcp, hs2, hr2, hb2⟩ := made_copied (P := Yba.prog) 22 5 (.int .u8 0) 1 Yba.underlying22 info5 rfl w ao n cap V hV (by omega) (by omega) hc
  have HB2 := hid hb2
  have HR2 := hid hr2
  clear hr2 hb2 hc
  have heq := Lib.run_eql_slice_nil (P := Yba.prog) w 22 5 ao n cap 0 0 Yba.underlying22
  cases ao with
  | none =>
    obtain rfl := hnil rfl
    simp only [Option.isNone_none] at heq
    go_enter Yba.func6, Yba.ntmps6
    go_wp2_with fail
    go_ret
    exact ⟨_, rfl, World.ownsRow_nil _ _ _ _, Below.refl _ _⟩
  | some a =>
    simp only [Option.isNone_some] at heq
    go_enter Yba.func6, Yba.ntmps6
    go_wp2_with fail
    go_ret
    refine ⟨_, rfl, ⟨by simp, .inr ⟨_, _, _, rfl, Nat.le_refl _, HR2.out, Nat.le_refl _, by unfold maxLen; omega, by simp, ?_⟩⟩, HB2.out⟩
    simp [List.take_of_length_le]

end Go.Proofs.Ybulkayjm.Rep
