/-
  (*Log).appendCounts: the counts of an event, where it has any.
-/
import Derived.Test.YbulkaymsEnc
import Derived.Lib.AppendZerosOnto
namespace Go.Proofs.Ybulkayms.Cnt
open Go.RowKit
open Go.Lib (uvarint byteCells uvarint_length64 uvarint_pos uvarint_small uvarint_big uvarintDec)

theorem info28 : (Yba.prog.info? 28).map (fun i => (i.zero, i.size, i.bytes)) = some (some (.int .u64 0), 1, 8) := by kernel_rfl

/-- 'append(dst, make([]uint64, m)...)', dst full. -/
theorem app_zeros (w : World) (bo : Option Addr) (np m : Nat) (V : Nat → Int) (hv : Hold w bo np V) (hnil : bo = none → np = 0) (hm : 0 < m) (hm2 : m ≤ 1024) (hnp : np ≤ 1024) :
    ∃ C w1, (∀ ty, (Builtin.append_ #[25, 3] ty #[.slice bo np np, .int .i64 m]).run Yba.prog w = .ok (.slice (some ⟨w.heap.size, 0, none⟩) (np + m) C) w1) ∧ np + m ≤ C ∧
      w1.rowIs w.heap.size 28 C (fun j => .int .u64 (if j < np then V j else 0)) ∧ Below w.heap.size w w1 ∧ w1.heap.size = w.heap.size + 1 := by
  obtain ⟨i, hi, hz0, hz1, hz2⟩ := info_parts info28
  have hold : (Builtin.firstCells i.size np (.slice bo np np)).run Yba.prog w.drew = .ok ((List.range np).map fun j => Value.int .u64 (V j)).toArray w.drew := by
    cases bo with
    | none =>
      obtain rfl := hnil rfl
      exact run_firstCells_none _ _ _ _ _
    | some a =>
      refine run_firstCells_some _ _ _ _ _ _ _ (by simp [hz1]) ?_
      intro j v hj
      have hjn : j < np := by
        rcases Nat.lt_or_ge j np with h | h
        · exact h
        · rw [List.getElem?_eq_none (by simp; omega)] at hj; cases hj
      rw [List.getElem?_map, List.getElem?_range hjn] at hj
      simp at hj
      obtain ⟨b, o, e, c⟩ := hv j hjn
      cases e
      rw [Go.WideShapes.add_plain, ← hj]
      exact c
  have hr := fun ty => Lib.run_append_grow_zeros (P := Yba.prog) w 25 3 ty 28 i (.int .u64 0) .i64 .i64 Yba.underlying25 Yba.underlying3 hi hz0 bo np np _ hold m hm (by omega) (by omega) (by omega) (by rw [hz2]; omega) (growslice_fits (by omega) (by rw [hz2]; omega))
  refine ⟨_, _, hr, grownCap_ge _ _ _ _, ?_, ?_, by simp⟩
  · have hge := grownCap_ge w (np + m) np 28
    refine ⟨_, heap_alloc_new w.drew _, ?_, ?_⟩
    · simp [size_zeroCells, Value.cells]
      omega
    · intro j hj
      have hzc : ∀ n k : Nat, k < n → (Builtin.zeroCells #[Value.int .u64 0] n)[k]? = some (Value.int .u64 0) := by
        intro n k hk
        simp [Builtin.zeroCells, hk, Nat.mod_one]
      have hsz : ∀ n : Nat, (Builtin.zeroCells #[Value.int .u64 0] n).size = n := by intro n; simp [size_zeroCells]
      rw [show (Value.int IntKind.u64 0).cells = #[Value.int .u64 0] from rfl]
      by_cases h1 : j < np
      · rw [Array.getElem?_append_left (by simp [hsz]; omega), Array.getElem?_append_left (by simp; omega)]
        simp [h1]
      · by_cases h2 : j < np + m
        · rw [Array.getElem?_append_left (by simp [hsz]; omega), Array.getElem?_append_right (by simp; omega), hzc _ _ (by simp; omega)]
          simp [h1]
        · rw [Array.getElem?_append_right (by simp [hsz]; omega), hzc _ _ (by simp [hsz]; omega)]
          simp [h1]
  · exact (Below.alloc (Below.refl _ _).drew (by simp) _)

/-- An append whose run is known, as one step of a region that draws its order. -/
theorem step_append_run {P : Program} {ops : Array Oper} {o : Oper} {a : Act} {w : World} {K : Act → World → Prop} {Q : Exit → Act → World → Prop} {E : Prop} (hgd : o.guard = none) (s x : Operand) (t tn : TypeId)
    (ho : o.op = .call { callee := .builtin .append, args := #[s, x], argTypes := #[t, tn] }) (vs vx : Value) (hs : a.eval s = vs) (hx : a.eval x = vx)
    (v' : Value) (w' : World) (hr : (Builtin.append_ #[t, tn] o.type #[vs, vx]).run P w = .ok v' w') (h : K (a.put o.dst v') w') :
    if Region.wanted o (yielded ops a.tmps) = true then Oper.wp P o a w K Q else E := by
  rw [if_pos (by simp [Region.wanted, hgd])]
  exact Lib.wp_append_run w s x t tn ho vs vx hs hx v' w' hr h

/-- The log, the event: what appendCounts reads. -/
structure LogAt (w : World) (lb eb st bk start m g L C : Nat) (B : List UInt8) : Prop where
  sets : ∃ sb ns sc an mc, w.cell? ⟨lb, 3, none⟩ = some (.slice (some ⟨sb, 0, none⟩) ns sc) ∧ st < ns ∧ w.cell? ⟨sb, st * 2, none⟩ = some (.slice an m mc)
  blocks : ∃ bb nb bc, w.cell? ⟨lb, 7, none⟩ = some (.slice (some ⟨bb, 0, none⟩) nb bc) ∧ bk < nb ∧ w.cell? ⟨bb, bk, none⟩ = some (.slice (some ⟨g, 0, none⟩) L C)
  set_ : w.cell? ⟨eb, 2, none⟩ = some (.int .i64 st)
  block_ : w.cell? ⟨eb, 5, none⟩ = some (.int .i32 bk)
  from_ : w.cell? ⟨eb, 6, none⟩ = some (.int .i32 start)
  len : start + B.length = L
  le : L ≤ C
  bytes : ∀ j (hj : j < B.length), w.cell? ⟨g, start + j, none⟩ = some (.int .u8 (B[j]).toNat)

/-- What the new row holds after i counts. -/
def rowF (np : Nat) (V : Nat → Int) (cs : List Nat) (i j : Nat) : Value := .int .u64 (if j < np then V j else if j < np + i then ((cs.getD (j - np) 0 : Nat) : Int) else 0)

theorem rowF_zero (np : Nat) (V : Nat → Int) (cs : List Nat) (j : Nat) : rowF np V cs 0 j = .int .u64 (if j < np then V j else 0) := by
  unfold rowF
  by_cases h : j < np
  · simp [h]
  · simp [h]

theorem row_next {wr : World} {H Cd np i x : Nat} {V : Nat → Int} {cs : List Nat} (h : wr.rowIs H 28 Cd (rowF np V cs i)) (hi : i < cs.length) (hx : cs[i] = x) : (wr.setCell ⟨H, np + i, none⟩ (.int .u64 (x : Int))).rowIs H 28 Cd (rowF np V cs (i + 1)) := by
  refine (h.set (np + i) (.int .u64 (x : Int))).congr fun j _ => ?_
  unfold rowF
  by_cases h1 : j = np + i
  · subst h1
    simp [hi, hx, show ¬ np + i < np from by omega]
  · by_cases h2 : j < np
    · simp [h1, h2]
    · by_cases h3 : j < np + i
      · simp [h1, h2, h3, show j < np + (i + 1) from by omega]
      · simp [h1, h2, h3, show ¬ j < np + (i + 1) from by omega]

theorem at_count {B rest : List UInt8} {cs : List Nat} (hB : B = encs cs ++ rest) {i : Nat} (hi : i < cs.length) : B.drop (offs cs i) = uvarint cs[i] ++ (encs (cs.drop (i + 1)) ++ rest) := by
  have hle := offs_le cs i hi
  have hp := uvarint_pos cs[i]
  rw [hB, List.drop_append_of_le_length (by omega), encs_drop cs i hi, List.append_assoc]

theorem byte_at {B r : List UInt8} {f t : Nat} {b : UInt8} {u : List UInt8} (hd : B.drop f = u ++ r) (hu : u[t]? = some b) : ∃ h : f + t < B.length, B[f + t] = b := by
  have h1 : (B.drop f)[t]? = some b := by
    rw [hd, List.getElem?_append_left]
    · exact hu
    · exact (List.getElem?_eq_some_iff.1 hu).1
  rw [List.getElem?_drop] at h1
  exact List.getElem?_eq_some_iff.1 h1

theorem val_eq {a b : Int} (h : a = b) : Value.int .i64 a = .int .i64 b := by rw [h]

set_option maxRecDepth 10000 in
set_option maxHeartbeats 2000000 in
theorem counts_some (lb eb st bk start m g bl C2 np : Nat) (B rest : List UInt8) (cs : List Nat) (bo : Option Addr) (V : Nat → Int) (w : World) (hL : LogAt w lb eb st bk start m g (start + bl) (start + C2) B) (hB : B = encs cs ++ rest)
    (hcs : cs.length = m) (hc64 : ∀ x ∈ cs, x < 18446744073709551616) (hv : Hold w bo np V) (hnil : bo = none → np = 0) (hm : 0 < m) (hm2 : m ≤ 1024) (hnp : np ≤ 1024) (hL2 : start + bl ≤ 1000000) (hst : st ≤ 10) (hbk : bk ≤ 10) :
    Calls Yba.prog 11 #[.pointer (some ⟨lb, 0, none⟩), .slice bo np np, .pointer (some ⟨eb, 0, none⟩)] w fun e w' => ∃ a' C', e = .returned (.slice a' (np + m) C') ∧ (a' = none → np + m = 0) ∧
      Hold w' a' (np + m) (fun j => if j < np then V j else ((cs.getD (j - np) 0 : Nat) : Int)) ∧ Below w.heap.size w w' := by
  obtain ⟨sb, ns, sc, an, mc, s1, s2, s3⟩ := hL.sets
  obtain ⟨bb, nb, bc, t1, t2, t3⟩ := hL.blocks
  have e2 := hL.set_
  have e5 := hL.block_
  have e6 := hL.from_
  obtain ⟨Cd, w1, hrun, hCd, hrow, hb1, hs1⟩ := app_zeros w.drew bo np m V hv hnil hm hm2 hnp
  have hrun' : Hid ((Builtin.append_ #[25, 3] 25 #[.slice bo np np, .int .i64 m]).run Yba.prog w.drew = .ok (.slice (some ⟨w.heap.size, 0, none⟩) (np + m) Cd) w1) := hrun 25
  have HR : Hid (w1.rowIs w.heap.size 28 Cd (rowF np V cs 0)) := World.rowIs.congr hrow (fun j _ => (rowF_zero np V cs j).symm)
  have HB1 : Hid (Below w.heap.size w w1) := (Below.refl _ _).drew.trans hb1
  have i0 : (0 : Int) ≤ (st : Int) := by omega
  have i1 : (st : Int) < (ns : Int) := by omega
  have lat : ∀ a v, w.cell? a = some v → w1.cell? a = some v := fun a v h => cell_later hb1 h
  have q1 := lat _ _ s1
  have q2 := lat _ _ s3
  have q3 := lat _ _ e2
  have q4 := lat _ _ t1
  have q5 := lat _ _ t3
  have q6 := lat _ _ e5
  have q7 := lat _ _ e6
  have hbl : B.length = bl := by have := hL.len; omega
  have HBy : Hid (∀ j b, (h : j < B.length) → B[j] = b → w.cell? ⟨g, start + j, none⟩ = some (.int .u8 b.toNat)) := fun j b hj e => by rw [← e]; exact hL.bytes j hj
  have hle := hL.le
  have hfirst := offs_le cs 0 (by omega)
  have hpos := uvarint_pos (cs[0]'(by omega))
  have hBl : 1 ≤ bl := by
    have := congrArg List.length hB
    rw [List.length_append] at this
    omega
  have HDrop : Hid (∀ i (hi : i < cs.length), B.drop (offs cs i) = uvarint cs[i] ++ (encs (cs.drop (i + 1)) ++ rest)) := fun i hi => at_count hB hi
  have HOff : Hid (∀ i (hi : i < cs.length), offs cs (i + 1) = offs cs i + (uvarint cs[i]).length) := fun i hi => offs_succ cs i hi
  have H64 : Hid (∀ i (hi : i < cs.length), cs[i] < 18446744073709551616) := fun i hi => hc64 _ (List.getElem_mem hi)
  have HBL := hid hbl
  clear hrun hrow hb1 lat hL hv hbl hfirst hpos hB hc64
  go_enter Yba.func11, Yba.ntmps11
  go_wp2_with fail
  go_region_held3 (fun w' => w'.cell? ⟨lb, 3, none⟩ = some (.slice (some ⟨sb, 0, none⟩) ns sc) ∧ w'.cell? ⟨sb, st * 2, none⟩ = some (.slice an m mc) ∧ w'.cell? ⟨eb, 2, none⟩ = some (.int .i64 st)) (go_keep) ((refine step_append_run rfl _ _ _ _ rfl _ _ rfl rfl _ _ hrun'.out ?_))
  clear s1 s3 e2 t1 t3 e5 e6 i0 i1 q1 q2 q3 hrun'
  have j0 : (0 : Int) ≤ (np : Int) := by omega
  have j1 : (np : Int) ≤ (np : Int) + (m : Int) := by omega
  have j2 : (np : Int) + (m : Int) ≤ (Cd : Int) := by omega
  have j3 : ¬ Cd = np := by omega
  have j4 : (0 : Int) ≤ (bk : Int) := by omega
  have j5 : (bk : Int) < (nb : Int) := by omega
  have j6 : (0 : Int) ≤ (start : Int) := by omega
  have j7 : (start : Int) ≤ (start : Int) + (bl : Int) := by omega
  have j8 : ¬ C2 = 0 := by omega
  have j9 : (start : Int) + (bl : Int) ≤ (start : Int) + (C2 : Int) := by omega
  go_wp2_with fail
  go_quiet (fail)
  clear q4 q5 q6 q7
  go_wp2_with fail
  go_loopw [10, 53] (fun k t wr => ∃ i : Nat, i ≤ m ∧ t = .int .i64 i ∧ k = .int .i64 (offs cs i) ∧ wr.rowIs w.heap.size 28 Cd (rowF np V cs i) ∧ Below w.heap.size w wr) (fun _ t _ => m - (intOf t).toNat)
  case atStart => exact ⟨0, Nat.zero_le _, rfl, rfl, HR.out, below_drewN HB1.out _⟩
  case round =>
    obtain ⟨i, him, rfl, rfl, hrow, hb⟩ := hrel
    by_cases hlt : i < m
    · have hi : i < cs.length := by omega
      have hd := HDrop.out i hi
      have hof := HOff.out i hi
      have h64 := H64.out i hi
      obtain ⟨x, hx⟩ : ∃ x, cs[i] = x := ⟨_, rfl⟩
      obtain ⟨f, hf⟩ : ∃ f, offs cs i = f := ⟨_, rfl⟩
      have hnext := hid (row_next hrow hi hx)
      have st0 := hrow.cell (i := np + i) (by omega)
      have fz0 := hrow.frozen (np + i)
      obtain ⟨y0, hy0⟩ : ∃ y, rowF np V cs i (np + i) = y := ⟨_, rfl⟩
      rw [hy0] at st0
      rw [hx, hf] at hof hd
      rw [hx] at h64
      have HX := hid hx
      have HF := hid hf
      have HOF := hid hof
      rw [hf]
      clear hy0 hx hf hof hrow
      by_cases hx1 : x < 128
      · rw [uvarint_small hx1] at hd
        obtain ⟨hlt0, hb0⟩ := byte_at (t := 0) (b := x.toUInt8) hd rfl
        have c0 := cell_later hb (HBy.out _ _ hlt0 hb0)
        rw [byte_of (by omega), Nat.add_zero] at c0
        have k0 : (f : Int) < (bl : Int) := by have := HBL.out; omega
        clear hd hb0
        go_wp2_with fail
        exact ⟨⟨i + 1, by omega, by go_num, val_eq (by rw [HOF.out, uvarint_small hx1]; simp), hnext.out, hb.setCell (Nat.le_refl _) _⟩, by simp [intOf]; omega⟩
      · by_cases hx2 : x < 16384
        · rw [enc_two (by omega) hx2] at hd
          obtain ⟨hlt0, hb0⟩ := byte_at (t := 0) (b := (x % 128 + 128).toUInt8) hd rfl
          obtain ⟨hlt1, hb1⟩ := byte_at (t := 1) (b := (x / 128).toUInt8) hd rfl
          have c0 := cell_later hb (HBy.out _ _ hlt0 hb0)
          have c1 := cell_later hb (HBy.out _ _ hlt1 hb1)
          rw [byte_of (by omega), Nat.add_zero] at c0
          rw [byte_of (by omega)] at c1
          obtain ⟨z0, hz0⟩ : ∃ z, x % 128 + 128 = z := ⟨_, rfl⟩
          obtain ⟨z1, hz1⟩ : ∃ z, x / 128 = z := ⟨_, rfl⟩
          rw [hz0] at c0
          rw [hz1] at c1
          have hand : bits BinOp.and IntKind.u8 (z0 : Int) 127 = ((z0 - 128 : Nat) : Int) := by
            rw [u8_and127 (z0 : Int) (by omega) (by omega)]
            omega
          obtain ⟨a, ha⟩ : ∃ a, z0 - 128 = a := ⟨_, rfl⟩
          rw [ha] at hand
          have hor : bits BinOp.or IntKind.u64 (a : Int) ((z1 : Int) * 128) = (x : Int) := by
            rw [u64_orv7 (a : Int) ((z1 : Int) * 128) (by omega) (by omega) (by omega) (by omega) (by omega)]
            omega
          have hz0' : 128 ≤ z0 := by omega
          have hz0'' : z0 < 256 := by omega
          have hz1' : z1 < 128 := by omega
          have ha' : a < 128 := by omega
          have k0 : (f : Int) < (bl : Int) := by have := HBL.out; omega
          have k1 : (f : Int) + 1 < (bl : Int) := by have := HBL.out; omega
          have k2 : ((f : Int) + 1).toNat = f + 1 := by omega
          clear hd hb0 hb1 hz0 hz1 ha
          go_wp2_with fail
          exact ⟨⟨i + 1, by omega, by go_num, val_eq (by rw [HOF.out, enc_two (by omega) hx2]; simp), hnext.out, hb.setCell (Nat.le_refl _) _⟩, by simp [intOf]; omega⟩
        · obtain ⟨r, hr⟩ := enc_more (x := x) (by omega)
          have hd2 := hd
          rw [hr] at hd2
          obtain ⟨hlt0, hb0⟩ := byte_at (t := 0) (b := (x % 128 + 128).toUInt8) hd2 rfl
          obtain ⟨hlt1, hb1⟩ := byte_at (t := 1) (b := (x / 128 % 128 + 128).toUInt8) hd2 rfl
          have c0 := cell_later hb (HBy.out _ _ hlt0 hb0)
          have c1 := cell_later hb (HBy.out _ _ hlt1 hb1)
          rw [byte_of (by omega), Nat.add_zero] at c0
          rw [byte_of (by omega)] at c1
          obtain ⟨z0, hz0⟩ : ∃ z, x % 128 + 128 = z := ⟨_, rfl⟩
          obtain ⟨z1, hz1⟩ : ∃ z, x / 128 % 128 + 128 = z := ⟨_, rfl⟩
          rw [hz0] at c0
          rw [hz1] at c1
          have hz0' : 128 ≤ z0 := by omega
          have hz0'' : z0 < 256 := by omega
          have hz1' : 128 ≤ z1 := by omega
          have hz1'' : z1 < 256 := by omega
          have k0 : (f : Int) < (bl : Int) := by have := HBL.out; omega
          have k1 : (f : Int) + 1 < (bl : Int) := by have := HBL.out; omega
          have k2 : ((f : Int) + 1).toNat = f + 1 := by omega
          have k3 : ¬ C2 = f := by have := HBL.out; omega
          have k4 : (f : Int) ≤ (bl : Int) := by omega
          have k5 : (bl : Int) ≤ (C2 : Int) := by omega
          have hlen10 := uvarint_length64 h64
          have hdec : Hid (uvarintDec (B.drop f) = (x, ((uvarint x).length : Int))) := by rw [hd]; exact dec_enc x h64 _
          have UV : Hid (Calls Yba.prog 22 #[.slice (some ⟨g, start + f, none⟩) (bl - f) (C2 - f)] wr fun e w' => e = .returned (.tuple #[.int .u64 (x : Int), .int .i64 ((uvarint x).length : Int)]) ∧ wr = w') := by
            have := Yba.uvarint g (start + f) (bl - f) (C2 - f) (B.drop f) wr (by rw [List.length_drop, HBL.out]) (by
              intro j hj
              rw [List.length_drop] at hj
              have := cell_later hb (HBy.out (f + j) _ (by omega) rfl)
              rw [List.getElem_drop, Nat.add_assoc]
              exact this)
            rw [hdec.out] at this
            exact this.mono fun e w' h => ⟨h.1, h.2.symm⟩
          clear hd hd2 hb0 hb1 hz0 hz1 hr hdec
          go_wp2_with fail
          refine UV.out.mono ?_
          rintro e w5 ⟨rfl, rfl⟩
          go_wp2_with fail
          go_roundw
          case rel => exact ⟨i + 1, by omega, by go_num, val_eq (by rw [HOF.out]; simp), hnext.out, hb.setCell (Nat.le_refl _) _⟩
          case measure => simp [intOf]; omega
    · obtain rfl : i = m := by omega
      go_wp2_with fail
      go_ret
      refine ⟨_, _, rfl, fun h => (by cases h), ?_, hb⟩
      intro j hj
      refine ⟨_, _, rfl, ?_⟩
      have := hrow.cell (i := j) (by omega)
      rw [Nat.zero_add, this]
      unfold rowF
      by_cases h2 : j < np
      · simp [h2]
      · simp [h2, hj]
end Go.Proofs.Ybulkayms.Cnt
