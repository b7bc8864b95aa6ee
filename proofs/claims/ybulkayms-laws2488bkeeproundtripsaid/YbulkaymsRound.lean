/-
  LawS2488BKeepRoundTrip: the walk.
-/
import Derived.Test.YbulkaymsSets
namespace Go.Proofs.Ybulkayms.Cnt
open Go.RowKit
open Go.Lib (uvarint byteCells_length uvarint_length64 uvarint_pos)

theorem rt_far (a0 : Option Addr) (n0 c0 : Nat) (a1 : Option Addr) (n1 c1 : Nat) (w : World) (h : 1024 < n0 ∨ 1024 < n1) :
    Calls Yba.prog 6 #[.slice a0 n0 c0, .slice a1 n1 c1] w fun e w' => e = .returned (.bool true) ∧ Below w.heap.size w w' := by
  by_cases h0 : 1024 < n0
  · clear h
    go_enter Yba.func6, Yba.ntmps6
    go_wp2_with fail
    go_ret
    exact ⟨rfl, Below.refl _ _⟩
  · have h1 : 1024 < n1 := by omega
    clear h
    go_enter Yba.func6, Yba.ntmps6
    go_wp2_with fail
    go_ret
    exact ⟨rfl, Below.refl _ _⟩

theorem SetsAt.drew {W wx : World} {lb sb l0 l1 : Nat} {m1 m2 : Value} (h : SetsAt W wx lb sb m1 m2 l0 l1) : SetsAt W wx.drew lb sb m1 m2 l0 l1 :=
  ⟨h.log, h.sets, h.new, h.lt, h.stays.os, h.stays.tape, h.stays.output, h.stays.size, h.stays.block⟩

theorem Laid.alloc {w : World} {lb bb g bc : Nat} {m1 m2 s : Value} {bs : List UInt8} (h : Laid w lb bb g bc m1 m2 s bs) (o : Obj) : Laid (w.alloc o) lb bb g bc m1 m2 s bs := by
  obtain ⟨_, _, _, l1, l2, _⟩ := h.apart
  obtain ⟨cur, hr, hc⟩ := h.row
  exact ⟨(Below.heap_alloc _ _ _ l1).trans h.log, ⟨cur, (Below.heap_alloc _ _ _ l2).trans hr, hc⟩, h.own.alloc _⟩

theorem hold_nil (w : World) (V : Nat → Int) : Hold w none 0 V := fun j hj => absurd hj (Nat.not_lt_zero j)
theorem hold_out {w : World} {a : Option Addr} {xs : List Nat} (h : Hold w a xs.length (fun j => ((xs.getD j 0 : Nat) : Int))) : Hold w a xs.length (fun j => outU 0 (fun _ => 0) xs (0 + j)) := fun j hj => by
  obtain ⟨b, o, e, c⟩ := h j hj
  refine ⟨b, o, e, ?_⟩
  rw [c]
  simp [outU]

theorem info3b : (Yba.prog.info? 3).map (fun i => (i.zero, i.size, i.bytes)) = some (some (.int .i64 0), 1, 8) := by kernel_rfl

set_option maxRecDepth 10000 in
set_option maxHeartbeats 2000000 in
theorem rt_near (a0 : Option Addr) (c0 : Nat) (a1 : Option Addr) (c1 : Nat) (xs ys : List Nat) (w : World)
    (hx : Hold w a0 xs.length (fun j => ((xs.getD j 0 : Nat) : Int))) (hy : Hold w a1 ys.length (fun j => ((ys.getD j 0 : Nat) : Int))) (hx64 : ∀ x ∈ xs, x < 18446744073709551616) (hy64 : ∀ x ∈ ys, x < 18446744073709551616)
    (h0 : ¬ 1024 < xs.length) (h1 : ¬ 1024 < ys.length) :
    Calls Yba.prog 6 #[.slice a0 xs.length c0, .slice a1 ys.length c1] w fun e w' => e = .returned (.bool true) ∧ Below w.heap.size w w' := by
  have HX := hid hx
  have HY := hid hy
  have hex := encs_len xs hx64
  have hey := encs_len ys hy64
  have hox : offs xs xs.length = (encs xs).length := by simp [offs]
  have hoy : offs ys ys.length = (encs ys).length := by simp [offs]
  have HOX := hid hox
  have HOY := hid hoy
  clear hx hy hox hoy
  go_enter Yba.func6, Yba.ntmps6
  go_wp2_with fail
  go_loopw [5, 7] (fun u t wr => ∃ i : Nat, t = .int .i64 i ∧ i ≤ xs.length ∧ wr.ownsRow w.heap.size 5 1 u (offs xs i) (Go.Lib.byteCells (encs (xs.take i))) ∧ Below w.heap.size w wr) (fun _ t _ => xs.length - (intOf t).toNat)
  case atStart =>
    exact ⟨0, rfl, Nat.zero_le _, by simpa [offs, encs, Go.Lib.byteCells] using World.ownsRow_nil w w.heap.size 5 1, Below.refl _ _⟩
  case round =>
    obtain ⟨k, rfl, hk, hou, hbu⟩ := hrel
    have hou := hid hou
    have hbu := hid hbu
    by_cases hlt : k < xs.length
    · obtain ⟨b1, o1, rfl, e1⟩ := HX.out k hlt
      have hgd : xs.getD k 0 = xs[k] := by simp [hlt]
      simp only [hgd] at e1
      have e2 := cell_later hbu.out e1
      have hx := hx64 _ (List.getElem_mem hlt)
      have hoff := offs_succ xs k hlt
      have hsn := encs_snoc xs k hlt
      have hle := offs_le xs k hlt
      go_wp2_with fail
      refine (benc_any w.heap.size (offs xs k) u5 (encs (xs.take k)) xs[k] hx _ hou.out hbu.out.size (by omega)).mono ?_
      rintro e wn ⟨vn, rfl, hon, hbn⟩
      have hon := hid hon
      have hbn := hid (hbu.out.trans hbn)
      go_wp2_with fail
      refine ⟨⟨k + 1, by simp, hlt, ?_, hbn.out⟩, by simp [intOf]; omega⟩
      rw [hoff, hsn]
      exact hon.out
    · obtain rfl : k = xs.length := by omega
      go_wp2_with fail
      obtain ⟨w1, rfl⟩ : ∃ w1, w1 = wr := ⟨_, rfl⟩
      go_loopw [6, 8] (fun u t wr2 => ∃ i : Nat, t = .int .i64 i ∧ i ≤ ys.length ∧ wr2.ownsRow w1.heap.size 5 1 u (offs ys i) (Go.Lib.byteCells (encs (ys.take i))) ∧ Below w1.heap.size w1 wr2) (fun _ t _ => ys.length - (intOf t).toNat)
      case atStart =>
        exact ⟨0, rfl, Nat.zero_le _, by simpa [offs, encs, Go.Lib.byteCells] using World.ownsRow_nil w1 w1.heap.size 5 1, Below.refl _ _⟩
      case round =>
        obtain ⟨k, rfl, hk, hou2, hbu2⟩ := hrel
        have hou2 := hid hou2
        have hbu2 := hid hbu2
        by_cases hlt2 : k < ys.length
        · obtain ⟨b1, o1, rfl, e1⟩ := HY.out k hlt2
          have hgd : ys.getD k 0 = ys[k] := by simp [hlt2]
          simp only [hgd] at e1
          have e2 := cell_later hbu2.out (cell_later hbu.out e1)
          have hx := hy64 _ (List.getElem_mem hlt2)
          have hoff := offs_succ ys k hlt2
          have hsn := encs_snoc ys k hlt2
          have hle := offs_le ys k hlt2
          go_wp2_with fail
          refine (benc_any w1.heap.size (offs ys k) u6 (encs (ys.take k)) ys[k] hx _ hou2.out hbu2.out.size (by omega)).mono ?_
          rintro e wn ⟨vn, rfl, hon, hbn⟩
          have hon := hid hon
          have hbn := hid (hbu2.out.trans hbn)
          go_wp2_with fail
          refine ⟨⟨k + 1, by simp, hlt2, ?_, hbn.out⟩, by simp [intOf]; omega⟩
          rw [hoff, hsn]
          exact hon.out
        · obtain rfl : k = ys.length := by omega
          have hox := hou.out
          have hoy := hou2.out
          rw [List.take_length] at hox hoy
          obtain ⟨ax, cx, rfl, hxn, hx8, hxb⟩ := own_hold hox
          obtain ⟨ay, cy, rfl, hyn, hy8, hyb⟩ := own_hold hoy
          have bw := hid (hbu.out.trans (hbu2.out.mono hbu.out.size))
          have s1 := hbu2.out.size
          have HX8 := hid (hx8.later hbu2.out)
          have HXB : Hid (∀ b o, ax = some ⟨b, o, none⟩ → b < wr.heap.size) := fun b o e => by have := hxb b o e; omega
          have HY8 := hid hy8
          have HYB := hid hyb
          have HXN := hid hxn
          have HYN := hid hyn
          clear hox hoy hx8 hy8 hxb hyb hxn hyn hou hou2
          go_wp2_with fail
          refine (newLog_any wr).mono ?_
          rintro e wl ⟨lb, m1, m2, rfl, hlb, hlog, hbl⟩
          have c3 : wl.cell? ⟨lb, 3, none⟩ = some (.slice none 0 0) := cell_of hlog rfl
          have f3 : wl.frozen? ⟨lb, 3, none⟩ = false := free_of hlog
          have hlbl := lt_of hlog
          have HLOG := hid hlog
          have HBL := hid hbl
          have hmA := run_make_row' (P := Yba.prog) 30 3 (.int .i64 0) 8 Yba.underlying30 info3b rfl .i64 .i64 xs.length (by omega) (by omega)
          have hmB := run_make_row' (P := Yba.prog) 30 3 (.int .i64 0) 8 Yba.underlying30 info3b rfl .i64 .i64 ys.length (by omega) (by omega)
          have old3 : ∀ o1 o2 o3 : Obj, (((wl.alloc o1).alloc o2).alloc o3).heap[lb]? = some (.cells (logCells m1 m2 (.slice none 0 0) (.slice none 0 0)) 43 (0, 0)) := fun o1 o2 o3 => by
            rw [Below.heap_alloc _ _ _ (by simp; omega), Below.heap_alloc _ _ _ (by simp; omega), Below.heap_alloc _ _ _ hlbl]
            exact hlog
          have c3a : ∀ o1 o2 o3 : Obj, (((wl.alloc o1).alloc o2).alloc o3).cell? ⟨lb, 3, none⟩ = some (.slice none 0 0) := fun o1 o2 o3 => cell_of (old3 o1 o2 o3) rfl
          have f3a : ∀ o1 o2 o3 : Obj, (((wl.alloc o1).alloc o2).alloc o3).frozen? ⟨lb, 3, none⟩ = false := fun o1 o2 o3 => free_of (old3 o1 o2 o3)
          clear hlog hbl old3
          go_wp2_with fail
          go_cut [9] from 51 to 63 (fun u9 wx => u9 = .pointer (some ⟨lb, 0, none⟩) ∧ ∃ sb, Hid (SetsAt wl wx lb sb m1 m2 xs.length ys.length))
          case first =>
            go_region
            all_goals (go_wp2_with fail; go_meet)
            all_goals exact ⟨rfl, _, hid (sets_laid wl lb m1 m2 xs.length ys.length HLOG.out _ _ _ _ _ _).drew⟩
          case rest =>
            obtain ⟨rfl, sb, HSA⟩ := hcut
            have hnew := HSA.out.new
            have hsbl := HSA.out.lt
            have hwcs := HSA.out.stays.size
            have hsl := HBL.out.size
            have HX8c := hid ((HX8.out.later HBL.out).stays HSA.out.stays (fun b o e => by have := HXB.out b o e; omega))
            have HY8c := hid ((HY8.out.later HBL.out).stays HSA.out.stays (fun b o e => by have := HYB.out b o e; omega))
            have bwc := hid ((bw.out.trans (HBL.out.mono bw.out.size)).trans (HSA.out.stays.below (by have := bw.out.size; omega) (by have := bw.out.size; omega) (by have := bw.out.size; omega)))
            clear c3a f3a hmA hmB c3 f3
            go_wp2_with fail
            refine (keep_first lb m1 m2 (.slice (some ⟨sb, 0, none⟩) 2 2) ax cx (encs xs) wc HSA.out.log HX8c.out HXN.out (by omega) (fun b o e => by have := HXB.out b o e; omega)).mono ?_
            rintro e w6 ⟨rfl, ⟨bb, g, bc, hbb, hgg, hL6⟩, hS6⟩
            have HL6 := hid hL6
            have HS6 := hid hS6
            have hs6 := hS6.size
            clear hL6 hS6
            have HY86 := hid (HY8c.out.stays HS6.out (fun b o e => by have := HYB.out b o e; omega))
            go_wp2_with fail
            refine (keep_more lb bb g bc m1 m2 (.slice (some ⟨sb, 0, none⟩) 2 2) (encs xs) ay cy (encs ys) w6 HL6.out HY86.out HYN.out (by omega) (by omega)).mono ?_
            rintro e w7 ⟨rfl, hL7, hS7⟩
            have bw7 := hid ((bwc.out.trans (HS6.out.below (by have := bwc.out.size; omega) (by have := bw.out.size; omega) (by have := bw.out.size; omega))).trans (hS7.below (by have := bwc.out.size; omega) (by have := bwc.out.size; omega) (by have := bwc.out.size; omega)))
            have hsets7 : ∃ n1 n2 s1 s2, w7.heap[sb]? = some (.cells #[.slice n1 xs.length xs.length, s1, .slice n2 ys.length ys.length, s2] 32 (0, 0)) := by
              obtain ⟨n1, n2, s1, s2, hs⟩ := HSA.out.sets
              exact ⟨n1, n2, s1, s2, (hS7.block sb (by omega) (by omega) (by omega)).trans ((HS6.out.block sb hsbl (by omega) (by omega)).trans hs)⟩
            have hlt7 : sb < w7.heap.size := by have := hS7.size; omega
            have hL9 := (hL7.alloc (.cells #[.int .i64 0, .int .i64 0, .int .i64 0, .int .u64 0, .int .u64 0, .int .i32 0, .int .i32 0] 46)).alloc (.cells #[.int .i64 0, .int .i64 0, .int .i64 1, .int .u64 0, .int .u64 0, .int .i32 0, .int .i32 ((encs xs).length : Int)] 46)
            obtain ⟨w9, hw9⟩ : ∃ w9, w9 = (w7.alloc (.cells #[.int .i64 0, .int .i64 0, .int .i64 0, .int .u64 0, .int .u64 0, .int .i32 0, .int .i32 0] 46)).alloc (.cells #[.int .i64 0, .int .i64 0, .int .i64 1, .int .u64 0, .int .u64 0, .int .i32 0, .int .i32 ((encs xs).length : Int)] 46) := ⟨_, rfl⟩
            have hb9 : Below w.heap.size w w9 := by
              rw [hw9]
              exact (bw7.out.alloc bw7.out.size _).alloc (by have := bw7.out.size; simp; omega) _
            rw [← hw9] at hL9
            have hsets9 : ∃ n1 n2 s1 s2, w9.heap[sb]? = some (.cells #[.slice n1 xs.length xs.length, s1, .slice n2 ys.length ys.length, s2] 32 (0, 0)) := by
              obtain ⟨n1, n2, s1, s2, hs⟩ := hsets7
              refine ⟨n1, n2, s1, s2, ?_⟩
              rw [hw9, Below.heap_alloc _ _ _ (by simp; omega), Below.heap_alloc _ _ _ hlt7]
              exact hs
            have heA : w9.heap[w7.heap.size]? = some (.cells #[.int .i64 0, .int .i64 0, .int .i64 0, .int .u64 0, .int .u64 0, .int .i32 0, .int .i32 0] 46 (0, 0)) := by
              rw [hw9, Below.heap_alloc _ _ _ (by simp)]
              exact heap_alloc_new _ _
            have heB : w9.heap[w7.heap.size + 1]? = some (.cells #[.int .i64 0, .int .i64 0, .int .i64 1, .int .u64 0, .int .u64 0, .int .i32 0, .int .i32 ((encs xs).length : Int)] 46 (0, 0)) := by
              have e := heap_alloc_new (w7.alloc (.cells #[.int .i64 0, .int .i64 0, .int .i64 0, .int .u64 0, .int .u64 0, .int .i32 0, .int .i32 0] 46)) (.cells #[.int .i64 0, .int .i64 0, .int .i64 1, .int .u64 0, .int .u64 0, .int .i32 0, .int .i32 ((encs xs).length : Int)] 46)
              rw [show (w7.alloc (.cells #[.int .i64 0, .int .i64 0, .int .i64 0, .int .u64 0, .int .u64 0, .int .i32 0, .int .i32 0] 46)).heap.size = w7.heap.size + 1 from by simp] at e
              rw [hw9]
              exact e
            have hLA := (logAt_of hL9 hsets9 _ _ _ _).1 heA
            have hLB := (logAt_of hL9 hsets9 _ _ _ _).2 heB
            have K1 := counts_any lb w7.heap.size 0 0 0 g _ 1048576 0 (encs xs ++ encs ys) (encs ys) xs none (fun _ => 0) w9 hLA rfl hx64 (hold_nil _ _) (fun _ => rfl) (by omega) (by omega) (by simp; omega) (by omega) (by omega)
            rw [Nat.zero_add] at K1
            have HK1 := hid K1
            have HLB := hid hLB
            have HB9 := hid hb9
            have hw9' := hid hw9
            clear K1 hLA hLB heA heB hsets9 hsets7 hL9 hL7 hS7 hb9 hw9
            go_wp2_with fail
            rw [← hw9'.out]
            refine HK1.out.mono ?_
            rintro e w10 ⟨a10, C10, rfl, hn10, h10, hb10⟩
            have K2 := counts_any lb (w7.heap.size + 1) 1 0 (encs xs).length g _ 1048576 0 (encs ys) [] ys none (fun _ => 0) w10 (HLB.out.later hb10) (by simp) hy64 (hold_nil _ _) (fun _ => rfl) (by omega) (by omega) (by simp; omega) (by omega) (by omega)
            rw [Nat.zero_add] at K2
            have HK2 := hid K2
            have H10 := hid h10
            have HB10 := hid (HB9.out.trans (hb10.mono HB9.out.size))
            clear K2 h10 hb10 hn10
            go_wp2_with fail
            refine HK2.out.mono ?_
            rintro e w11 ⟨a11, C11, rfl, hn11, h11, hb11⟩
            have HB11 := hid (HB10.out.trans (hb11.mono HB10.out.size))
            have K3 := beq_any a10 none a0 0 xs.length C10 0 c0 (outU 0 (fun _ => 0) xs) (by omega) (by omega) w11 (by rw [Nat.zero_add]; exact H10.out.later hb11) (hold_nil _ _) (hold_out (HX.out.later HB11.out))
            rw [Nat.zero_add] at K3
            have HK3 := hid K3
            have H11 := hid h11
            clear K3 h11 hb11 hn11
            go_wp2_with fail
            refine HK3.out.mono ?_
            rintro e w12 ⟨rfl, q, rfl⟩
            have HB12 := hid (below_drewN HB11.out q)
            have K4 := beq_any a11 none a1 0 ys.length C11 0 c1 (outU 0 (fun _ => 0) ys) (by omega) (by omega) (w11.drewN q) (by rw [Nat.zero_add]; exact H11.out.later (below_drewN (Below.refl _ _) q)) (hold_nil _ _) (hold_out (HY.out.later HB12.out))
            rw [Nat.zero_add] at K4
            have HK4 := hid K4
            clear K4
            go_wp2_with fail
            refine HK4.out.mono ?_
            rintro e w13 ⟨rfl, q2, rfl⟩
            go_wp2_with fail
            go_ret
            exact ⟨rfl, below_drewN HB11.out _⟩

theorem rt_law (a0 : Option Addr) (len0 cap0 : Nat) (z0 : List Int) (a1 : Option Addr) (len1 cap1 : Nat) (z1 : List Int) (w : World) (w0 : IsRow .u64 w a0 len0 cap0 z0) (w1 : IsRow .u64 w a1 len1 cap1 z1) :
    Calls Yba.prog 6 #[.slice a0 len0 cap0, .slice a1 len1 cap1] w fun e w' => e = .returned (.bool true) ∧ Below w.heap.size w w' := by
  by_cases h : 1024 < len0 ∨ 1024 < len1
  · exact rt_far a0 len0 cap0 a1 len1 cap1 w h
  · obtain ⟨xs, rfl, hx64, _, hx⟩ := w0.nums
    obtain ⟨ys, rfl, hy64, _, hy⟩ := w1.nums
    exact rt_near a0 cap0 a1 cap1 xs ys w hx hy hx64 hy64 (fun h0 => h (.inl h0)) (fun h1 => h (.inr h1))
end Go.Proofs.Ybulkayms.Cnt
