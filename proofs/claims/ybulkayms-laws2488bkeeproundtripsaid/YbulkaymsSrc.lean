/-
  The slices that came in; append of a slice; make and copy.
-/
import Derived.Test.YbulkaymsCountsAll
import Derived.OpenShut
namespace Go.Proofs.Ybulkayms.Cnt
open Go.RowKit
open Go.Lib (uvarint byteCells_length uvarint_length64 uvarint_pos)

def IsRow (k : IntKind) (w : World) (a : Option Addr) (len cap : Nat) (zs : List Int) : Prop :=
  (a = none ∧ len = 0 ∧ cap = 0 ∧ zs = []) ∨
  ∃ x, a = some x ∧ len ≤ cap ∧ cap ≤ maxLen ∧ zs.length = cap ∧ (∀ i, i < zs.length → w.cell? (x.add i) = some (.int k (zs.getD i 0))) ∧ ∀ n ∈ zs, (Lit.int k n).wf = true

theorem IsRow.src {k : IntKind} {w : World} {a : Option Addr} {len cap : Nat} {zs : List Int} (h : IsRow k w a len cap zs) :
    (a = none → len = 0 ∧ cap = 0) ∧ ∀ j, j < len → (Lit.int k (zs.getD j 0)).wf = true ∧ ∃ b o, a = some ⟨b, o, none⟩ ∧ w.cell? ⟨b, o + j, none⟩ = some (.int k (zs.getD j 0)) := by
  rcases h with ⟨rfl, rfl, rfl, rfl⟩ | ⟨x, rfl, hl, hm, hz, hcell, hwf⟩
  · exact ⟨fun _ => ⟨rfl, rfl⟩, fun j hj => absurd hj (Nat.not_lt_zero j)⟩
  · refine ⟨fun h => (by cases h), fun j hj => ?_⟩
    obtain ⟨b, o, sp⟩ := x
    have c0 := hcell 0 (by omega)
    have hspot : sp = none := by simpa [Addr.add] using World.cell?_spot c0
    subst hspot
    have := hcell j (by omega)
    rw [Go.WideShapes.add_plain] at this
    refine ⟨hwf _ ?_, b, o, rfl, this⟩
    have hjz : j < zs.length := by omega
    rw [List.getD_eq_getElem?_getD, List.getElem?_eq_getElem hjz]
    exact List.getElem_mem hjz

/-- A slice of uint64, as the list of its numbers. -/
theorem IsRow.nums {w : World} {a : Option Addr} {len cap : Nat} {zs : List Int} (h : IsRow .u64 w a len cap zs) :
    ∃ cs : List Nat, cs.length = len ∧ (∀ x ∈ cs, x < 18446744073709551616) ∧ (a = none → len = 0) ∧ Hold w a len (fun j => ((cs.getD j 0 : Nat) : Int)) := by
  obtain ⟨hn, hs⟩ := h.src
  refine ⟨(List.range len).map fun j => (zs.getD j 0).toNat, by simp, ?_, fun e => (hn e).1, ?_⟩
  · intro x hx
    simp only [List.mem_map, List.mem_range] at hx
    obtain ⟨j, hj, rfl⟩ := hx
    have := bounds_u64 (hs j hj).1
    omega
  · intro j hj
    obtain ⟨hw, b, o, e, c⟩ := hs j hj
    have := bounds_u64 hw
    refine ⟨b, o, e, ?_⟩
    rw [c]
    have e1 : (((List.range len).map fun j => (zs.getD j 0).toNat).getD j 0) = (zs.getD j 0).toNat := by
      rw [List.getD_eq_getElem?_getD, List.getElem?_eq_getElem (by simpa using hj)]
      simp
    show _ = some (Value.int IntKind.u64 (((((List.range len).map fun j => (zs.getD j 0).toNat).getD j 0) : Nat) : Int))
    rw [e1]
    congr 2
    omega

/-- A slice of bytes that holds jb. -/
def Hold8 (w : World) (ao : Option Addr) (jb : List UInt8) : Prop := ∀ j (hj : j < jb.length), ∃ b o, ao = some ⟨b, o, none⟩ ∧ w.cell? ⟨b, o + j, none⟩ = some (.int .u8 (jb[j]).toNat)
theorem Hold8.later {w w' : World} {ao : Option Addr} {jb : List UInt8} (h : Hold8 w ao jb) (hb : Below w.heap.size w w') : Hold8 w' ao jb := fun j hj => by
  obtain ⟨b, o, e, c⟩ := h j hj
  exact ⟨b, o, e, cell_later hb c⟩

theorem IsRow.bytes {w : World} {a : Option Addr} {len cap : Nat} {zs : List Int} (h : IsRow .u8 w a len cap zs) :
    ∃ jb : List UInt8, jb.length = len ∧ (a = none → len = 0 ∧ cap = 0) ∧ Hold8 w a jb := by
  obtain ⟨hn, hs⟩ := h.src
  refine ⟨(List.range len).map fun j => ((zs.getD j 0).toNat).toUInt8, by simp, hn, ?_⟩
  intro j hj
  have hj' : j < len := by simpa using hj
  obtain ⟨hw, b, o, e, c⟩ := hs j hj'
  have := bounds_u8 hw
  refine ⟨b, o, e, ?_⟩
  rw [c]
  have e1 : (((List.range len).map fun j => ((zs.getD j 0).toNat).toUInt8)[j]).toNat = (zs.getD j 0).toNat := by
    simp only [List.getElem_map, List.getElem_range]
    rw [byte_of (by omega)]
  rw [e1]
  congr 2
  omega

/-- 'append(block, junk...)', whatever junk is. -/
theorem app_src {w : World} {base n : Nat} {v : Value} {xs : List Value} (hown : w.ownsRow base 5 1 v n xs) (ao : Option Addr) (c : Nat) (jb : List UInt8) (hs : Hold8 w ao jb) (hnil : ao = none → jb.length = 0 ∧ c = 0) (hbase : base ≤ w.heap.size) (hn : n + jb.length ≤ 100000) :
    ∃ v' w', (Builtin.append_ #[26, 26] 26 #[v, .slice ao jb.length c]).run Yba.prog w = .ok v' w' ∧ w'.ownsRow base 5 1 v' (n + jb.length) (xs ++ Go.Lib.byteCells jb) ∧ Below base w w' ∧ (v ≠ .slice none 0 0 → v' ≠ .slice none 0 0) := by
  obtain ⟨i, hi, hz0, hz1, hz2⟩ := info_parts info5
  have hr : ∀ k, v.ownBlock = some k → base ≤ k := fun k hk => (hown.lt k hk).1
  cases ao with
  | none =>
    obtain ⟨h0, rfl⟩ := hnil rfl
    obtain rfl : jb = [] := List.eq_nil_of_length_eq_zero h0
    exact ⟨v, w, run_append_owned_none (P := Yba.prog) w base 26 26 5 i 1 Yba.underlying26 hi v n xs hown, by simpa [Go.Lib.byteCells] using hown, Below.refl _ _, id⟩
  | some a =>
    obtain ⟨v', w', hrun, h1, h2, h3⟩ := run_append_own (P := Yba.prog) w base 26 26 5 i (.int .u8 0) 1 1 Yba.underlying26 hi hz0 hz1 hz2 rfl (by omega) v n xs hown a jb.length c (Go.Lib.byteCells jb) (by simp [Go.Lib.byteCells]) (by
      intro j u hu
      have hj : j < jb.length := by
        have := (List.getElem?_eq_some_iff.1 hu).1
        simpa [Go.Lib.byteCells] using this
      obtain ⟨b, o, e, cc⟩ := hs j hj
      cases e
      rw [Go.WideShapes.add_plain, cc]
      simp [Go.Lib.byteCells, hj] at hu
      rw [← hu]) (by
      intro u hu
      simp only [Go.Lib.byteCells, List.mem_map] at hu
      obtain ⟨b, _, rfl⟩ := hu
      rfl) (by unfold maxLen; omega) (by omega) hbase
    exact ⟨v', w', hrun, h1, (Below.refl _ _).grown h2 hbase hr, fun hne hv' => hne (h3.1 hv').1⟩

/-- 'c := make([]T, len(s)); copy(c, s)': a row of the call's own that holds what s holds. -/
theorem made_copied {P : Program} (t e : TypeId) (z : Value) (bytes : Nat) (ht : P.underlying t = some (.slice e)) (hinfo : (P.info? e).map (fun i => (i.zero, i.size, i.bytes)) = some (some z, 1, bytes)) (hz1 : z.cells = #[z])
    (w : World) (ao : Option Addr) (n cap : Nat) (V : Nat → Value) (hV : ∀ j, (V j).oneCell' = true) (hb : bytes * n ≤ 281474976710656) (h63 : n ≤ 9223372036854775807)
    (hsrc : ∀ j, j < n → ∃ x, ao = some x ∧ w.cell? (x.add j) = some (V j)) :
    ∃ W1 W2, (Instr.makeSlice t (.int .i64 n) (.int .i64 n)).run P w = .ok (.slice (some ⟨w.heap.size, 0, none⟩) n n) W1 ∧
      (∀ ty, (Builtin.copy_ #[t, t] ty #[.slice (some ⟨w.heap.size, 0, none⟩) n n, .slice ao n cap]).run P W1 = .ok (.int .i64 n) W2) ∧
      W2.heap.size = w.heap.size + 1 ∧ W2.heap[w.heap.size]? = some (.cells ((List.range n).map V).toArray e (0, 0)) ∧ Below w.heap.size w W2 := by
  have hm := run_make_row' (P := P) t e z bytes ht hinfo hz1 .i64 .i64 n hb h63 w
  have hs1 : (P.info? e).map (·.size) = some 1 := by
    obtain ⟨i, hi, hzz⟩ := Option.map_eq_some_iff.1 hinfo
    simp only [Prod.mk.injEq] at hzz
    simp [hi, hzz.2.1]
  have hg := heap_alloc_new w (.cells (madeCells #[z] n) e)
  have hb1 : Below w.heap.size w (w.alloc (.cells (madeCells #[z] n) e)) := (Below.refl _ _).alloc (Nat.le_refl _) _
  by_cases h0 : n = 0
  · subst h0
    refine ⟨_, _, hm, fun ty => run_copy_none (P := P) _ t t ty e _ ao 0 0 0 cap ht hs1 (by simp), by simp, ?_, hb1⟩
    rw [hg]
    have : madeCells #[z] 0 = #[] := Array.eq_empty_of_size_eq_zero (size_madeCells _ _)
    rw [this]; rfl
  · obtain ⟨x, rfl, _⟩ := hsrc 0 (by omega)
    have hsz := size_madeCells #[z] n
    have hl : ((List.range n).map V).length = n := by simp
    have hsr : ∀ j v, ((List.range n).map V)[j]? = some v → (w.alloc (.cells (madeCells #[z] n) e)).cell? (x.add j) = some v := by
      intro j v hj
      have hjn : j < n := by
        rcases Nat.lt_or_ge j n with h | h
        · exact h
        · rw [List.getElem?_eq_none (by simp; omega)] at hj; cases hj
      obtain ⟨x', hx, hcell⟩ := hsrc j hjn
      cases hx
      rw [List.getElem?_map, List.getElem?_range hjn] at hj
      simp at hj
      rw [← hj]
      exact cell_later hb1 hcell
    have hr := fun ty => run_copy_row (P := P) (w.alloc (.cells (madeCells #[z] n) e)) t t ty e w.heap.size 0 n n x n cap (madeCells #[z] n) e ((List.range n).map V) ht hs1 hg (by simp) hsr (by simp [hsz]) (by
      intro v hv
      rw [List.mem_map] at hv
      obtain ⟨j, _, rfl⟩ := hv
      exact hV j)
    have hcells : ((madeCells #[z] n).toList.take 0 ++ (List.range n).map V ++ (madeCells #[z] n).toList.drop (0 + ((List.range n).map V).length)).toArray = ((List.range n).map V).toArray := by
      rw [List.drop_of_length_le (by simp [hsz])]
      simp
    rw [hl] at hr
    simp only [hl] at hcells
    rw [hcells] at hr
    exact ⟨_, _, hm, hr, by simp [World.setRow], setRow_heap _ _ _ _ _ _ hg, below_setRow hb1 (Nat.le_refl _) _⟩

/-- An owned row of bytes that is not nil, read. -/
theorem own_cells {w : World} {base n : Nat} {v : Value} {xs : List UInt8} (h : w.ownsRow base 5 1 v n (Go.Lib.byteCells xs)) (hne : v ≠ .slice none 0 0) :
    ∃ g C, v = .slice (some ⟨g, 0, none⟩) n C ∧ n ≤ C ∧ base ≤ g ∧ n = xs.length ∧ ∀ j (hj : j < xs.length), w.cell? ⟨g, j, none⟩ = some (.int .u8 (xs[j]).toNat) := by
  obtain ⟨hl, hn | ⟨g, cap, cur, hv, hb, hg, hnc, _, hcur, htake⟩⟩ := h
  · exact absurd hn.1 hne
  · have hlen : n = xs.length := by simp [Go.Lib.byteCells] at hl; omega
    refine ⟨g, cap, hv, hnc, hb, hlen, fun j hj => ?_⟩
    have e1 : (cur.toList.take (n * 1))[j]? = some (.int .u8 (xs[j]).toNat) := by
      rw [htake]
      simp [Go.Lib.byteCells, hj]
    rw [List.getElem?_take, if_pos (by omega)] at e1
    simp only [World.cell?, hg]
    simpa using e1

end Go.Proofs.Ybulkayms.Cnt
