/-
  LawS2488BDecodes: the walk.
-/
import Derived.Test.YbulkaymsLog
namespace Go.Proofs.Ybulkayms.Cnt
open Go.RowKit
open Go.Lib (uvarint byteCells_length uvarint_length64 uvarint_pos)

theorem dec_far (a0 : Option Addr) (n0 c0 : Nat) (a1 : Option Addr) (n1 c1 : Nat) (a2 : Option Addr) (n2 c2 : Nat) (w : World) (h : 1024 < n0 ∨ 1024 < n1 ∨ 1024 < n2) :
    Calls Yba.prog 5 #[.slice a0 n0 c0, .slice a1 n1 c1, .slice a2 n2 c2] w fun e w' => e = .returned (.bool true) ∧ Below w.heap.size w w' := by
  by_cases h0 : 1024 < n0
  · clear h
    go_enter Yba.func5, Yba.ntmps5
    go_wp2_with fail
    go_ret
    exact ⟨rfl, Below.refl _ _⟩
  · by_cases h1 : 1024 < n1
    · clear h
      go_enter Yba.func5, Yba.ntmps5
      go_wp2_with fail
      go_ret
      exact ⟨rfl, Below.refl _ _⟩
    · have h2 : 1024 < n2 := by omega
      clear h
      go_enter Yba.func5, Yba.ntmps5
      go_wp2_with fail
      go_ret
      exact ⟨rfl, Below.refl _ _⟩

theorem info3 : (Yba.prog.info? 3).map (fun i => (i.zero, i.size, i.bytes)) = some (some (.int .i64 0), 1, 8) := by kernel_rfl

set_option maxRecDepth 10000 in
set_option maxHeartbeats 1000000 in
theorem dec_near (a0 : Option Addr) (c0 : Nat) (a1 : Option Addr) (c1 : Nat) (a2 : Option Addr) (c2 : Nat) (ps cs : List Nat) (jb : List UInt8) (w : World)
    (hp : Hold w a0 ps.length (fun j => ((ps.getD j 0 : Nat) : Int))) (hc : Hold w a1 cs.length (fun j => ((cs.getD j 0 : Nat) : Int))) (hc64 : ∀ x ∈ cs, x < 18446744073709551616)
    (hj0 : a2 = none → jb.length = 0 ∧ c2 = 0) (hj : Hold8 w a2 jb) (h0 : ¬ 1024 < ps.length) (h1 : ¬ 1024 < cs.length) (h2 : ¬ 1024 < jb.length) :
    Calls Yba.prog 5 #[.slice a0 ps.length c0, .slice a1 cs.length c1, .slice a2 jb.length c2] w fun e w' => e = .returned (.bool true) ∧ Below w.heap.size w w' := by
  obtain ⟨i5, hi5, hz50, hz51, hz52⟩ := info_parts info5
  obtain ⟨wa, hmk, hoa, hga⟩ := run_make_own (P := Yba.prog) w w.heap.size 26 5 i5 (.int .u8 0) 1 Yba.underlying26 hi5 hz50 hz51 .i64 .i64 (2 * jb.length + 10 * cs.length) (by rw [hz52]; omega) (by unfold maxLen; omega) (Nat.le_refl _)
  have hba : Below w.heap.size w wa := (Below.refl _ _).grown hga (Nat.le_refl _) (fun k hk => by cases hk)
  have hsa := hba.size
  obtain ⟨vb, wb, hap, hob, hbb, hnb⟩ := app_src hoa a2 c2 jb (hj.later hba) hj0 hsa (by omega)
  have hnb' := hnb (by simp)
  have hb1 := hba.trans hbb
  have HAP := hid hap
  have HA := hid hob
  have HB := hid hb1
  have HH := hid hp
  have HC := hid hc
  have HJ := hid hj
  clear hoa hga hba hsa hob hbb hnb hb1 hp hc hj hap
  rw [show ((2 * jb.length + 10 * cs.length : Nat) : Int) = 2 * (jb.length : Int) + 10 * (cs.length : Int) from by omega] at hmk
  have hmul3 : IntKind.i64.wrap (2 * (jb.length : Int) + 10 * (cs.length : Int)) = 2 * (jb.length : Int) + 10 * (cs.length : Int) := by rw [IntKind.wrap_i64]; omega
  have hmul1 : IntKind.i64.wrap (2 * (jb.length : Int)) = 2 * (jb.length : Int) := by rw [IntKind.wrap_i64]; omega
  have hmul2 : IntKind.i64.wrap (10 * (cs.length : Int)) = 10 * (cs.length : Int) := by rw [IntKind.wrap_i64]; omega
  go_enter Yba.func5, Yba.ntmps5
  go_wp2_with (at_builtin; refine Lib.wpList_append_run _ rfl _ _ _ _ rfl _ _ rfl rfl _ _ HAP.out ?_)
  go_loopw [7, 8] (fun u t wr => ∃ i : Nat, t = .int .i64 i ∧ i ≤ cs.length ∧ u ≠ .slice none 0 0 ∧ wr.ownsRow w.heap.size 5 1 u (jb.length + offs cs i) (Go.Lib.byteCells (jb ++ encs (cs.take i))) ∧ Below w.heap.size w wr) (fun _ t _ => cs.length - (intOf t).toNat)
  case atStart =>
    exact ⟨0, rfl, Nat.zero_le _, hnb', by simpa [offs, encs] using HA.out, HB.out⟩
  case round =>
    obtain ⟨k, rfl, hk, hune, hou, hbu⟩ := hrel
    have hne := hid hune
    have hou := hid hou
    have hbu := hid hbu
    clear hune
    by_cases hlt : k < cs.length
    · obtain ⟨b1, o1, rfl, c1⟩ := HC.out k hlt
      have hgd : cs.getD k 0 = cs[k] := by simp [hlt]
      simp only [hgd] at c1
      have c2 := cell_later hbu.out c1
      have hx := hc64 _ (List.getElem_mem hlt)
      have hoff := offs_succ cs k hlt
      have hsn := encs_snoc cs k hlt
      have hle := offs_le cs k hlt
      have hel := encs_len cs hc64
      go_wp2_with fail
      refine (benc_any w.heap.size (jb.length + offs cs k) u7 (jb ++ encs (cs.take k)) cs[k] hx _ hou.out hbu.out.size (by omega)).mono ?_
      rintro e wn ⟨vn, rfl, hon, hbn⟩
      have hon := hid hon
      have hbn := hid (hbu.out.trans hbn)
      go_wp2_with fail
      refine ⟨⟨k + 1, by simp, hlt, ?_, ?_, hbn.out⟩, by simp [intOf]; omega⟩
      · intro hv
        have := uvarint_pos cs[k]
        have hh := hon.out.2
        rw [hv] at hh
        rcases hh with h | ⟨_, _, _, h, _⟩
        · omega
        · cases h
      · rw [hoff, hsn, ← Nat.add_assoc, ← List.append_assoc]
        exact hon.out
    · obtain rfl : k = cs.length := by omega
      have hel := encs_len cs hc64
      have hofl : offs cs cs.length = (encs cs).length := by simp [offs]
      obtain ⟨vd, wd, hap2, hod, hbd, hnd⟩ := app_src hou.out a2 c2 jb (HJ.out.later hbu.out) hj0 hbu.out.size (by omega)
      have HAP2 := hid hap2
      have hnd := hnd hne.out
      have hbd' := hid (hbu.out.trans hbd)
      rw [List.take_length, hofl, show ∀ a b, Go.Lib.byteCells a ++ Go.Lib.byteCells b = Go.Lib.byteCells (a ++ b) from fun a b => by simp [Go.Lib.byteCells]] at hod
      obtain ⟨L, hL⟩ : ∃ L, L = jb.length + (encs cs).length + jb.length := ⟨_, rfl⟩
      rw [← hL] at hod
      obtain ⟨g, C, rfl, hgC, hgb, hgl, hgc⟩ := own_cells hod hnd
      have hlog := logW_at wd cs.length g L C jb.length (encs cs ++ jb) (by simp; omega) hgC (fun j hj => by
        rw [hgc (jb.length + j) (by simp at hj ⊢; omega)]
        simp only [List.append_assoc]
        rw [List.getElem_append_right (by omega)]
        simp)
      have hb5 := logW_below wd cs.length g L C jb.length wd.heap.size (Nat.le_refl _)
      have hwb : Below w.heap.size w (logW wd cs.length g L C jb.length) := hbd'.out.trans (hb5.mono hbd'.out.size)
      obtain ⟨W1, W2, hmk3, hcp, hs2, hr2, hb2⟩ := made_copied (P := Yba.prog) 25 28 (.int .u64 0) 8 Yba.underlying25 info28 rfl (logW wd cs.length g L C jb.length) a0 ps.length c0 (fun j => .int .u64 ((ps.getD j 0 : Nat) : Int)) (fun _ => rfl) (by omega) (by omega) (fun j hj => by
        obtain ⟨b, o, e, c⟩ := (HH.out.later hwb) j hj
        exact ⟨_, e, by rw [Go.WideShapes.add_plain]; exact c⟩)
      have hlog2 := hid (hlog.later hb2)
      have hw2 := hid (hwb.trans (hb2.mono hwb.size))
      have hdst : Hold W2 (some ⟨wd.heap.size + 1 + 1 + 1 + 1 + 1, 0, none⟩) ps.length (fun j => ((ps.getD j 0 : Nat) : Int)) := by
        intro j hj
        refine ⟨_, _, rfl, ?_⟩
        rw [logW_size] at hr2
        simp only [World.cell?, hr2]
        simp [hj]
      have HD := hid hdst
      rw [logW_size] at hmk3 hcp
      unfold logW at hmk3
      have HL := hid hL
      have HGL := hid hgl
      clear hL hgl
      clear hap2 hod hbd hnd hlog hb5 hwb hs2 hr2 hb2 hdst hgc
      have hmk2 := run_make_row' (P := Yba.prog) 30 3 (.int .i64 0) 8 Yba.underlying30 info3 rfl .i64 .i64 cs.length (by omega) (by omega) wd
      go_wp2_with (at_builtin; refine Lib.wpList_append_run _ rfl _ _ _ _ rfl _ _ rfl rfl _ _ HAP2.out ?_)
      refine (counts_any _ _ 0 0 jb.length g L C ps.length (encs cs ++ jb) jb cs _ _ W2 hlog2.out rfl hc64 HD.out (fun h => by cases h) (by omega) (by omega) (by have := HL.out; omega) (by omega) (by omega)).mono ?_
      rintro e W3 ⟨a3, C3, rfl, hn3, h3, hb3⟩
      have h3 := hid h3
      have hw3 := hid (hw2.out.trans (hb3.mono hw2.out.size))
      clear hb3
      go_wp2_with fail
      refine (beq_any a3 a0 a1 ps.length cs.length C3 c0 c1 (outU ps.length (fun j => ((ps.getD j 0 : Nat) : Int)) cs) (by omega) (by omega) W3 h3.out (fun j hj => by
        obtain ⟨b, o, e, c⟩ := (HH.out.later hw3.out) j hj
        exact ⟨b, o, e, by rw [c, outU, if_pos hj]⟩) (fun j hj => by
        obtain ⟨b, o, e, c⟩ := (HC.out.later hw3.out) j hj
        exact ⟨b, o, e, by rw [c]; simp [outU]; intro h; omega⟩)).mono ?_
      rintro e W4 ⟨rfl, q, rfl⟩
      go_wp2_with fail
      go_ret
      exact ⟨rfl, below_drewN hw3.out _⟩

theorem dec_law (a0 : Option Addr) (len0 cap0 : Nat) (z0 : List Int) (a1 : Option Addr) (len1 cap1 : Nat) (z1 : List Int) (a2 : Option Addr) (len2 cap2 : Nat) (z2 : List Int) (w : World) (w0 : IsRow .u64 w a0 len0 cap0 z0) (w1 : IsRow .u64 w a1 len1 cap1 z1) (w2 : IsRow .u8 w a2 len2 cap2 z2) :
    Calls Yba.prog 5 #[.slice a0 len0 cap0, .slice a1 len1 cap1, .slice a2 len2 cap2] w fun e w' => e = .returned (.bool true) ∧ Below w.heap.size w w' := by
  by_cases h : 1024 < len0 ∨ 1024 < len1 ∨ 1024 < len2
  · exact dec_far a0 len0 cap0 a1 len1 cap1 a2 len2 cap2 w h
  · obtain ⟨ps, rfl, _, _, hp⟩ := w0.nums
    obtain ⟨cs, rfl, hc64, _, hc⟩ := w1.nums
    obtain ⟨jb, rfl, hj0, hj⟩ := w2.bytes
    exact dec_near a0 cap0 a1 cap1 a2 cap2 ps cs jb w hp hc hc64 hj0 hj (fun h0 => h (.inl h0)) (fun h1 => h (.inr (.inl h1))) (fun h2 => h (.inr (.inr h2)))
end Go.Proofs.Ybulkayms.Cnt
