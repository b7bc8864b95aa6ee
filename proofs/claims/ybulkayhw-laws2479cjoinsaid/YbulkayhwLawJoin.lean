/-
  LawS2479CJoin's walk: it returns true and writes nothing that was there.
-/
import Derived.Test.YbulkayhwTwalk
import Derived.Deep.RegionHeld3
import Derived.Lib.Builder
namespace Go.Proofs.Ybulkayhw.Tree
open Go.RowKit Go.Deep Go.WideShapes

def IsRow (k : IntKind) (w : World) (a : Option Addr) (len cap : Nat) (zs : List Int) : Prop :=
  (a = none ∧ len = 0 ∧ cap = 0 ∧ zs = []) ∨
  ∃ x, a = some x ∧ len ≤ cap ∧ cap ≤ maxLen ∧ zs.length = cap ∧ (∀ i, i < zs.length → w.cell? (x.add i) = some (.int k (zs.getD i 0))) ∧ ∀ n ∈ zs, (Lit.int k n).wf = true

theorem build_row {w : World} {a : Option Addr} {len cap : Nat} {zs : List Int} (h : IsRow .u64 w a len cap zs) (hlen : len ≤ 300) (off : Nat) (hoff : off ≤ 1000) (w' : World) (hb : Below w.heap.size w w') :
    Calls Yba.prog 8 #[.slice a len cap, .int .i64 0, .int .i64 len, .int .i64 off] w' fun e w'' => ∃ u t, e = .returned (.pointer u) ∧ Built (fun j => zs.getD j 0) 0 len off w' u t w'' := by
  rcases h with ⟨rfl, rfl, rfl, rfl⟩ | ⟨x, rfl, hl, hm, hz, hcell, hwf⟩
  · exact build_none _ none 0 0 off w'
  · by_cases h0 : len = 0
    · subst h0
      exact build_none _ _ 0 cap off w'
    · obtain ⟨b, o, sp⟩ := x
      have c0 := hcell 0 (by omega)
      have hspot : sp = none := by simpa [Addr.add] using World.cell?_spot c0
      subst hspot
      refine build_any b o len cap (fun j => zs.getD j 0) hlen hl off hoff len 0 len w' (by omega) (by omega) (Nat.le_refl _) ?_
      intro j hj
      have := hcell j (by omega)
      rw [add_plain] at this
      exact cell_later hb this

theorem built_len {Z : Nat → Int} {len off : Nat} {w w' : World} {u : Option Addr} {t : T} (h : Built Z 0 len off w u t w') : (io t).length = len := by
  have := congrArg List.length h.row
  simpa using this

set_option maxHeartbeats 1000000 in
theorem law_far (a0 : Option Addr) (len0 cap0 : Nat) (a1 : Option Addr) (len1 cap1 : Nat) (w : World) (h : 300 < len0 ∨ 300 < len1) :
    Calls Yba.prog 5 #[.slice a0 len0 cap0, .slice a1 len1 cap1] w fun e w' => e = .returned (.bool true) ∧ Below w.heap.size w w' := by
  by_cases h0 : 300 < len0
  · go_enter Yba.func5, Yba.ntmps5
    go_wp2_with fail
    go_ret
    exact ⟨rfl, Below.refl _ _⟩
  · have h1 : 300 < len1 := by omega
    clear h
    go_enter Yba.func5, Yba.ntmps5
    go_wp2_with fail
    go_ret
    exact ⟨rfl, Below.refl _ _⟩

/-! ### Between the calls -/
theorem row_form {w : World} {base : Nat} {v : Value} {n : Nat} {xs : List Value} (h : w.ownsRow base 30 1 v n xs) :
    ∃ a c, v = .slice a n c ∧ n ≤ c ∧ (0 < n → ∃ g, a = some ⟨g, 0, none⟩ ∧ ∀ j, j < n → w.cell? ⟨g, j, none⟩ = xs[j]?) := by
  rcases h.2 with ⟨rfl, rfl⟩ | ⟨g, cap, cur, rfl, hb, hg, hc, _⟩
  · exact ⟨none, 0, rfl, Nat.le_refl _, fun h => absurd h (Nat.lt_irrefl _)⟩
  · exact ⟨_, cap, rfl, hc, fun _ => ⟨g, rfl, fun j hj => h.cellAt j (by omega)⟩⟩

/-- A row that the call owns, in a world where its block is as it was. -/
theorem owns_kept {w w' : World} {base e size n : Nat} {v : Value} {xs : List Value} (h : w.ownsRow base e size v n xs) (hs : ∀ k, base ≤ k → k < w.heap.size → w'.heap[k]? = w.heap[k]?) : w'.ownsRow base e size v n xs := by
  refine ⟨h.1, ?_⟩
  rcases h.2 with h2 | ⟨g, cap, cur, hv, hb, hg, r⟩
  · exact .inl h2
  · exact .inr ⟨g, cap, cur, hv, hb, by rw [hs g hb (lt_of_block hg)]; exact hg, r⟩

/-- What the two builds leave. -/
structure Two (w : World) (z0 z1 : List Int) (len0 len1 : Nat) (ua ub : Option Addr) (ta tb : T) (wb : World) : Prop where
  pa : ta.ptr = .pointer ua
  pb : tb.ptr = .pointer ub
  inA : InT wb ta
  inB : InT wb tb
  hpA : Hp ta
  hpB : Hp tb
  la : (io ta).length = len0
  lb : (io tb).length = len1
  nd : (bl ta ++ bl tb).Nodup
  lo : ∀ x ∈ io ta ++ io tb, w.heap.size ≤ x.1 ∧ x.1 < wb.heap.size
  idx : (io ta ++ io tb).map (·.2.1) = List.range (len0 + len1)
  below : Below w.heap.size w wb

theorem two {w wa wb : World} {z0 z1 : List Int} {len0 len1 : Nat} {ua ub : Option Addr} {ta tb : T}
    (hta : Built (fun j => z0.getD j 0) 0 len0 0 w ua ta wa) (htb : Built (fun j => z1.getD j 0) 0 len1 len0 wa ub tb wb) : Two w z0 z1 len0 len1 ua ub ta tb wb := by
  have hA : InT wb ta := hta.inT.congr fun x hx => htb.below.block _ (hta.inT.lt x hx)
  refine ⟨hta.ptr, htb.ptr, hA, htb.inT, hta.hp, htb.hp, built_len hta, built_len htb, ?_, ?_, ?_, hta.below.trans (htb.below.mono hta.below.size)⟩
  · rw [List.nodup_append]
    refine ⟨hta.nodup, htb.nodup, ?_⟩
    intro x hx y hy e
    simp only [bl, List.mem_map] at hx hy
    obtain ⟨p, hp, rfl⟩ := hx
    obtain ⟨q, hq, rfl⟩ := hy
    have h1 := hta.inT.lt p hp
    have h2 := htb.new q hq
    omega
  · intro x hx
    rw [List.mem_append] at hx
    rcases hx with hx | hx
    · exact ⟨hta.new x hx, hA.lt x hx⟩
    · have h1 := htb.new x hx
      have h2 := hta.below.size
      exact ⟨by omega, htb.inT.lt x hx⟩
  · have e1 : (io ta).map (·.2.1) = List.range len0 := by
      have := congrArg (List.map (·.1)) hta.row
      simpa [List.map_map, Function.comp_def, List.range_eq_range'] using this
    have e2 : (io tb).map (·.2.1) = (List.range len1).map (len0 + ·) := by
      have := congrArg (List.map (·.1)) htb.row
      simpa [List.map_map, Function.comp_def, List.range_eq_range'] using this
    rw [List.map_append, e1, e2, List.range_add]

/-- The list of pointers. -/
def ptrs (l : List (Nat × Nat × Int)) : List Value := l.map fun x => pt x.1

/-- What stands ahead of the last loop. -/
structure Ready (w : World) (n : Nat) (L : List (Nat × Nat × Int)) (bw bg : Nat) (vw vg : Value) (w4 : World) : Prop where
  len : L.length = n
  idx : L.map (·.2.1) = List.range n
  node : ∀ x ∈ L, ∃ l r, w4.heap[x.1]? = some (nodeObj x.2 l r)
  cw : w4.heap[bw]? = some (.cells #[vw] 32 (0, 0))
  cg : w4.heap[bg]? = some (.cells #[vg] 32 (0, 0))
  ow : ∃ base, w4.ownsRow base 30 1 vw n (ptrs L)
  og : ∃ base, w4.ownsRow base 30 1 vg n (ptrs L)
  below : Below w.heap.size w w4

section
variable {w : World} {z0 z1 : List Int} {len0 len1 : Nat} {ua ub : Option Addr} {ta tb : T} {wb : World}

/-- After the two walks: want. -/
def Wanted (ta tb : T) (wb w2 : World) : Prop :=
  ∃ v, w2.heap[wb.heap.size]? = some (.cells #[v] 32 (0, 0)) ∧ w2.ownsRow (wb.heap.size + 1) 30 1 v ((io ta).length + (io tb).length) (ptrs (io ta ++ io tb)) ∧ Sv (fun k => wb.heap.size ≤ k) wb w2

theorem call1 (h : Two w z0 z1 len0 len1 ua ub ta tb wb) (h0 : len0 ≤ 300) (h1 : len1 ≤ 300) :
    Calls Yba.prog 9 #[.pointer ua, .int .i64 0, .int .i64 ((len0 : Int) + len1 + 1), .pointer (some ⟨wb.heap.size, 0, none⟩)] (wb.alloc (.cells #[.slice none 0 0] 32))
      fun e w' => e = .returned (.bool true) ∧ Walked ta (wb.heap.size + 1) wb.heap.size 0 [] (wb.alloc (.cells #[.slice none 0 0] 32)) w' := by
  have hh := ht_le ta
  have hla := h.la
  have := walk_any ta (wb.alloc (.cells #[.slice none 0 0] 32)) 0 (len0 + len1 + 1) wb.heap.size (wb.heap.size + 1) 0 (.slice none 0 0) []
    (h.inA.congr fun x hx => Below.heap_alloc _ _ _ (h.inA.lt x hx)) h.hpA (by omega) (by omega) (fun x hx => by have := h.inA.lt x hx; omega) (by omega) (by simp) (heap_alloc_new _ _) (World.ownsRow_nil _ _ _ _) (by omega)
  rw [h.pa, show ((len0 + len1 + 1 : Nat) : Int) = (len0 : Int) + len1 + 1 from by omega] at this
  exact this

theorem call2 (h : Two w z0 z1 len0 len1 ua ub ta tb wb) (h0 : len0 ≤ 300) (h1 : len1 ≤ 300) {w1 : World} (hw : Walked ta (wb.heap.size + 1) wb.heap.size 0 [] (wb.alloc (.cells #[.slice none 0 0] 32)) w1) :
    Calls Yba.prog 9 #[.pointer ub, .int .i64 0, .int .i64 ((len0 : Int) + len1 + 1), .pointer (some ⟨wb.heap.size, 0, none⟩)] w1
      fun e w' => e = .returned (.bool true) ∧ Wanted ta tb wb w' := by
  have hh := ht_le tb
  have hla := h.la
  have hlb := h.lb
  obtain ⟨v, hv, ho, sv⟩ := hw
  have s0 : Sv (fun k => wb.heap.size ≤ k) wb w1 := (Sv.alloc (Sv.refl _ _) _).trans (sv.mono fun k _ hk => by omega)
  have := walk_any tb w1 0 (len0 + len1 + 1) wb.heap.size (wb.heap.size + 1) (io ta).length v (ptrs (io ta))
    (s0.inT h.inB fun x hx => by have := h.inB.lt x hx; omega) h.hpB (by omega) (by omega) (fun x hx => by have := h.inB.lt x hx; omega) (by omega) (by have := sv.size; simp at this; omega) hv (by simpa [ptrs] using ho) (by omega)
  rw [h.pb, show ((len0 + len1 + 1 : Nat) : Int) = (len0 : Int) + len1 + 1 from by omega] at this
  refine this.mono ?_
  rintro e w2 ⟨rfl, v2, hv2, ho2, sv2⟩
  exact ⟨rfl, v2, hv2, by simpa [ptrs] using ho2, s0.trans (sv2.mono fun k _ hk => by omega)⟩

/-- After join: want is as it was. -/
def Wanted3 (ta tb : T) (w wb w3 : World) : Prop :=
  ∃ v, w3.heap[wb.heap.size]? = some (.cells #[v] 32 (0, 0)) ∧ w3.ownsRow (wb.heap.size + 1) 30 1 v ((io ta).length + (io tb).length) (ptrs (io ta ++ io tb)) ∧ Below w.heap.size w w3

theorem call3 (h : Two w z0 z1 len0 len1 ua ub ta tb wb) {w2 : World} (hw : Wanted ta tb wb w2) :
    Calls Yba.prog 10 #[.pointer ua, .pointer ub] w2 fun e w' => ∃ u t, e = .returned (.pointer u) ∧ Joined ta tb w2 u t w' ∧ Wanted3 ta tb w wb w' := by
  obtain ⟨v, hv, ho, sv⟩ := hw
  have := join_any _ ta tb w2 (Nat.le_refl _) (sv.inT h.inA fun x hx => by have := h.inA.lt x hx; omega) (sv.inT h.inB fun x hx => by have := h.inB.lt x hx; omega) h.hpA h.hpB h.nd
  rw [h.pa, h.pb] at this
  refine this.mono ?_
  rintro e w3 ⟨u, t, rfl, hj⟩
  have old : ∀ k, wb.heap.size ≤ k → k < w2.heap.size → w3.heap[k]? = w2.heap[k]? := by
    intro k hk hlt
    refine hj.sv.block k hlt ?_
    simp only [bl, ← List.map_append, List.mem_map]
    rintro ⟨x, hx, rfl⟩
    have := (h.lo x hx).2
    omega
  refine ⟨u, t, rfl, hj, v, by rw [old _ (Nat.le_refl _) (lt_of_block hv)]; exact hv, owns_kept ho fun k hk hlt => old k (by omega) hlt, ?_⟩
  refine (h.below.trans ((sv.below (Nat.le_refl _)).mono h.below.size)).trans ?_
  have hB : w.heap.size ≤ w2.heap.size := Nat.le_trans h.below.size sv.size
  refine Sv.below (hj.sv.mono fun k _ hk => ?_) hB
  simp only [bl, ← List.map_append, List.mem_map] at hk
  obtain ⟨x, hx, rfl⟩ := hk
  exact (h.lo x hx).1

theorem call4 (h : Two w z0 z1 len0 len1 ua ub ta tb wb) (h0 : len0 ≤ 300) (h1 : len1 ≤ 300) {w2 w3 : World} {u : Option Addr} {t : T} (hj : Joined ta tb w2 u t w3) (hw : Wanted3 ta tb w wb w3) :
    Calls Yba.prog 9 #[.pointer u, .int .i64 0, .int .i64 ((len0 : Int) + len1 + 1), .pointer (some ⟨w3.heap.size, 0, none⟩)] (w3.alloc (.cells #[.slice none 0 0] 32))
      fun e w' => e = .returned (.bool true) ∧ ∃ vw vg, Ready w (len0 + len1) (io ta ++ io tb) wb.heap.size w3.heap.size vw vg w' := by
  have hh := ht_le t
  have hla := h.la
  have hlb := h.lb
  have hlt : (io t).length = len0 + len1 := by rw [hj.row, List.length_append, hla, hlb]
  obtain ⟨v, hv, ho, hb⟩ := hw
  have := walk_any t (w3.alloc (.cells #[.slice none 0 0] 32)) 0 (len0 + len1 + 1) w3.heap.size (w3.heap.size + 1) 0 (.slice none 0 0) []
    (hj.inT.congr fun x hx => Below.heap_alloc _ _ _ (hj.inT.lt x hx)) hj.hp (by omega) (by omega) (fun x hx => by have := hj.inT.lt x hx; omega) (by omega) (by simp) (heap_alloc_new _ _) (World.ownsRow_nil _ _ _ _) (by omega)
  rw [hj.ptr, show ((len0 + len1 + 1 : Nat) : Int) = (len0 : Int) + len1 + 1 from by omega] at this
  refine this.mono ?_
  rintro e w4 ⟨rfl, vg, hvg, hog, sv⟩
  have s0 : Sv (fun k => w3.heap.size ≤ k) w3 w4 := (Sv.alloc (Sv.refl _ _) _).trans (sv.mono fun k _ hk => by omega)
  have old : ∀ k, k < w3.heap.size → w4.heap[k]? = w3.heap[k]? := fun k hk => s0.block k hk (by omega)
  refine ⟨rfl, v, vg, ?_, h.idx, ?_, by rw [old _ (lt_of_block hv)]; exact hv, hvg, ⟨wb.heap.size + 1, ?_⟩, ⟨w3.heap.size + 1, ?_⟩, hb.trans ((s0.below (Nat.le_refl _)).mono hb.size)⟩
  · rw [List.length_append, hla, hlb]
  · intro x hx
    rw [← hj.row] at hx
    obtain ⟨l, r, e⟩ := hj.inT.at x hx
    exact ⟨l, r, by rw [old _ (hj.inT.lt x hx)]; exact e⟩
  · have := owns_kept ho fun k _ hlt => old k hlt
    rwa [hla, hlb] at this
  · rw [hlt, hj.row, Nat.zero_add, List.nil_append] at hog
    exact hog

end

/-- What the last loop reads in round k. -/
theorem Ready.round {w w4 : World} {n : Nat} {L : List (Nat × Nat × Int)} {bw bg : Nat} {vw vg : Value} (h : Ready w n L bw bg vw vg w4) :
    ∃ aw cw ag cg, vw = .slice aw n cw ∧ vg = .slice ag n cg ∧ n ≤ cw ∧ n ≤ cg ∧ w4.cell? ⟨bw, 0, none⟩ = some (.slice aw n cw) ∧ w4.cell? ⟨bg, 0, none⟩ = some (.slice ag n cg) ∧
      ∀ k, k < n → ∃ gw gg b, aw = some ⟨gw, 0, none⟩ ∧ ag = some ⟨gg, 0, none⟩ ∧ w4.cell? ⟨gw, k, none⟩ = some (.pointer (some ⟨b, 0, none⟩)) ∧ w4.cell? ⟨gg, k, none⟩ = some (.pointer (some ⟨b, 0, none⟩)) ∧
        w4.cell? ⟨b, 1, none⟩ = some (.int .i64 k) ∧ w4.cell? ⟨b, 0, none⟩ = some (.string (keyOf k)) := by
  obtain ⟨base1, ow⟩ := h.ow
  obtain ⟨base2, og⟩ := h.og
  obtain ⟨aw, cw, rfl, hcw, fw⟩ := row_form ow
  obtain ⟨ag, cg, rfl, hcg, fg⟩ := row_form og
  refine ⟨aw, cw, ag, cg, rfl, rfl, hcw, hcg, cell_of_one h.cw, cell_of_one h.cg, ?_⟩
  intro k hk
  obtain ⟨gw, rfl, fw2⟩ := fw (by omega)
  obtain ⟨gg, rfl, fg2⟩ := fg (by omega)
  have hkL : k < L.length := by rw [h.len]; exact hk
  obtain ⟨l, r, e⟩ := h.node L[k] (List.getElem_mem hkL)
  have hi : L[k].2.1 = k := by
    have := congrArg (fun l => l[k]?) h.idx
    simp [hkL, hk] at this
    exact this
  obtain ⟨c0, c1, _⟩ := node_cells e
  rw [hi] at c0 c1
  refine ⟨gw, gg, L[k].1, rfl, rfl, ?_, ?_, c1, c0⟩
  · rw [fw2 k hk]; simp [ptrs, hkL, pt]
  · rw [fg2 k hk]; simp [ptrs, hkL, pt]

theorem info38 : ∃ j, Yba.prog.info? 38 = some j := by
  have h : (Yba.prog.info? 38).isSome = true := by kernel_rfl
  exact Option.isSome_iff_exists.1 h
theorem neq_same (a : Addr) (w : World) : (binOp .neq 30 (.pointer (some a)) (.pointer (some a))).run Yba.prog w = .ok (.bool false) w := by
  obtain ⟨j, hj⟩ := info38
  exact Lib.run_neq_ptr_same w a Yba.underlying30 hj

set_option maxHeartbeats 1000000 in
theorem law_near (a0 : Option Addr) (len0 cap0 : Nat) (z0 : List Int) (a1 : Option Addr) (len1 cap1 : Nat) (z1 : List Int) (w : World) (w0 : IsRow .u64 w a0 len0 cap0 z0) (w1 : IsRow .u64 w a1 len1 cap1 z1) (h0 : len0 ≤ 300) (h1 : len1 ≤ 300) :
    Calls Yba.prog 5 #[.slice a0 len0 cap0, .slice a1 len1 cap1] w fun e w' => e = .returned (.bool true) ∧ Below w.heap.size w w' := by
  have BA := build_row w0 h0 0 (by omega) w (Below.refl _ _)
  have BB : Hid (∀ w', Below w.heap.size w w' → Calls Yba.prog 8 #[.slice a1 len1 cap1, .int .i64 0, .int .i64 len1, .int .i64 len0] w' fun e w'' => ∃ u t, e = .returned (.pointer u) ∧ Built (fun j => z1.getD j 0) 0 len1 len0 w' u t w'') :=
    fun w' hb => build_row w1 h1 len0 (by omega) w' hb
  clear w0 w1
  go_enter Yba.func5, Yba.ntmps5
  go_wp2_with fail
  refine BA.mono ?_
  rintro e wa ⟨ua, ta, rfl, hta⟩
  clear BA
  go_wp2_with fail
  refine (BB.out wa hta.below).mono ?_
  rintro e wb ⟨ub, tb, rfl, htb⟩
  clear BB
  have h2 := two hta htb
  clear hta htb
  go_wp2_with fail
  refine (call1 h2 h0 h1).mono ?_
  rintro e w1 ⟨rfl, hw1⟩
  go_wp2_with fail
  refine (call2 h2 h0 h1 hw1).mono ?_
  rintro e w2 ⟨rfl, hw2⟩
  clear hw1
  go_wp2_with fail
  refine (call3 h2 hw2).mono ?_
  rintro e w3 ⟨u, t, rfl, hj, hw3⟩
  clear hw2
  go_wp2_with fail
  refine (call4 h2 h0 h1 hj hw3).mono ?_
  rintro e w4 ⟨rfl, vw, vg, hR⟩
  have HB : Hid (Below w.heap.size w w4) := hR.below
  obtain ⟨aw, cw, ag, cg, rfl, rfl, hcw, hcg, kw, kg, hk⟩ := hR.round
  have HK := hid hk
  clear hj hw3 hR hk h2
  have hnp := neq_same
  go_wp2_with fail
  go_loopw [13] (fun i wr => ∃ k : Nat, k ≤ len0 + len1 ∧ i = .int .i64 k ∧ Below w4.heap.size w4 wr) (fun i _ => (len0 + len1) - (intOf i).toNat)
  case atStart => exact ⟨0, Nat.zero_le _, rfl, Below.refl _ _⟩
  case round =>
    obtain ⟨k, hkn, rfl, hb⟩ := hrel
    have kg' := cell_later hb kg
    have kw' := cell_later hb kw
    by_cases hlt : k < len0 + len1
    · obtain ⟨gw, gg, b, rfl, rfl, e1, e2, e3, e4⟩ := HK.out k hlt
      have e1' := cell_later hb e1
      have e2' := cell_later hb e2
      have e3' := cell_later hb e3
      have e4' := cell_later hb e4
      have i0 : (0 : Int) ≤ (k : Int) := by omega
      have i1 : (k : Int) < ((len0 + len1 : Nat) : Int) := by omega
      have i2 : (k : Int) < (len0 : Int) + len1 := by omega
      clear kg kw e1 e2 e3 e4 HK
      go_wp2_with fail
      go_region_held3 (fun w' => w'.cell? ⟨w3.heap.size, 0, none⟩ = some (.slice (some ⟨gg, 0, none⟩) (len0 + len1) cg) ∧ w'.cell? ⟨wb.heap.size, 0, none⟩ = some (.slice (some ⟨gw, 0, none⟩) (len0 + len1) cw) ∧ w'.cell? ⟨gg, k, none⟩ = some (.pointer (some ⟨b, 0, none⟩)) ∧ w'.cell? ⟨gw, k, none⟩ = some (.pointer (some ⟨b, 0, none⟩)) ∧ w'.cell? ⟨b, 1, none⟩ = some (.int .i64 k) ∧ w'.cell? ⟨b, 0, none⟩ = some (.string (keyOf k))) (go_keep) ((go_at_call 11; refine (key_at _ k rfl (by omega) _).mono ?_; rintro e w' ⟨rfl, rfl⟩))
      go_wp2_with fail
      go_roundw
      case rel => exact ⟨k + 1, by omega, by go_num, (hb.alloc hb.size _).drew⟩
      case measure => simp [intOf]; omega
    · go_wp2_with fail
      go_ret
      exact ⟨rfl, HB.out.trans (hb.mono HB.out.size)⟩
end Go.Proofs.Ybulkayhw.Tree
