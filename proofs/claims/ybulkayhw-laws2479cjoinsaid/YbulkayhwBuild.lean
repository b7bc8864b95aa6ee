/-
  zzs2479cbuild: the treap over the indices lo .. hi - 1.
-/
import Derived.Test.YbulkayhwKey
import Derived.BigQuiet
import Derived.Deep.QuietTactic
import Derived.Deep.RegionHeld3
import Derived.Deep.Light
namespace Go.Proofs.Ybulkayhw.Tree
open Go.RowKit Go.Deep

theorem ptr_pointer : ∀ t : T, ∃ u, t.ptr = .pointer u
  | .nil => ⟨none, rfl⟩
  | .node b o _ _ _ => ⟨some ⟨b, o, none⟩, rfl⟩

/-- What the call of zzs2479cbuild leaves. -/
structure Built (Z : Nat → Int) (lo hi off : Nat) (w : World) (u : Option Addr) (t : T) (w' : World) : Prop where
  ptr : t.ptr = .pointer u
  inT : InT w' t
  hp : Hp t
  row : (io t).map (·.2) = (List.range' lo (hi - lo)).map (fun i => (off + i, Z i))
  new : ∀ x ∈ io t, w.heap.size ≤ x.1
  nodup : ((io t).map (·.1)).Nodup
  below : Below w.heap.size w w'

theorem Built.le {Z : Nat → Int} {lo hi off : Nat} {w w' : World} {u : Option Addr} {t : T} (h : Built Z lo hi off w u t w') {c : Int} (hc : ∀ j, lo ≤ j → j < hi → Z j ≤ c) : ∀ x ∈ io t, x.2.2 ≤ c := by
  intro x hx
  have : x.2 ∈ (io t).map (·.2) := List.mem_map_of_mem hx
  rw [h.row, List.mem_map] at this
  obtain ⟨i, hi', e⟩ := this
  rw [List.mem_range'_1] at hi'
  rw [← e]
  exact hc i (by omega) (by omega)

/-- The two subtrees under a new node. -/
theorem built_node {Z : Nat → Int} {lo hi off mm : Nat} {w W1 w1 w3 : World} {u1 u2 : Option Addr} {t1 t2 : T} (h1 : lo ≤ mm) (h2 : mm < hi) (hZ : ∀ j, lo ≤ j → j < hi → Z j ≤ Z mm)
    (hs : W1.heap.size = w.heap.size + 2) (hn : W1.heap[w.heap.size + 1]? = some (nodeObj (off + mm, Z mm) (.pointer none) (.pointer none))) (hb : Below w.heap.size w W1)
    (hl : Built Z lo mm off W1 u1 t1 w1)
    (hr : Built Z (mm + 1) hi off (w1.setCell ⟨w.heap.size + 1, 3, none⟩ (.pointer u1)) u2 t2 w3) :
    Built Z lo hi off w (some ⟨w.heap.size + 1, 0, none⟩) (.node (w.heap.size + 1) 0 (off + mm, Z mm) t1 t2) (w3.setCell ⟨w.heap.size + 1, 4, none⟩ (.pointer u2)) := by
  have hn1 : w1.heap[w.heap.size + 1]? = some (nodeObj (off + mm, Z mm) (.pointer none) (.pointer none)) := by
    rw [hl.below.block _ (by omega)]; exact hn
  have hsz1 : W1.heap.size ≤ w1.heap.size := hl.below.size
  have hsz2 : (w1.setCell ⟨w.heap.size + 1, 3, none⟩ (.pointer u1)).heap.size = w1.heap.size := by simp [World.setCell]
  have hn2 := node_setLeft (u := .pointer u1) hn1
  have hn3 : w3.heap[w.heap.size + 1]? = some (nodeObj (off + mm, Z mm) (.pointer u1) (.pointer none)) := by
    rw [hr.below.block _ (by omega)]; exact hn2
  have hn4 := node_setRight (u := .pointer u2) hn3
  have old : ∀ x ∈ io t1, x.1 < w1.heap.size := hl.inT.lt
  refine ⟨rfl, ⟨rfl, ?_, ?_, ?_⟩, ⟨?_, ?_, hl.hp, hr.hp⟩, ?_, ?_, ?_, ?_⟩
  · rw [hl.ptr, hr.ptr]; exact hn4
  · refine hl.inT.congr fun x hx => ?_
    have hx1 := hl.new x hx
    have hx2 := old x hx
    rw [Below.heap_setCell _ _ _ _ (by simp; omega), hr.below.block _ (by omega), Below.heap_setCell _ _ _ _ (by simp; omega)]
  · refine hr.inT.congr fun x hx => ?_
    have hx1 := hr.new x hx
    rw [Below.heap_setCell _ _ _ _ (by simp; omega)]
  · exact hl.le fun j h3 h4 => hZ j h3 (by omega)
  · exact hr.le fun j h3 h4 => hZ j (by omega) h4
  · simp only [io, List.map_append, List.map_cons, hl.row, hr.row]
    rw [show hi - lo = (mm - lo) + (1 + (hi - (mm + 1))) from by omega, ← List.range'_append_1, List.map_append, ← List.range'_append_1]
    rw [show lo + (mm - lo) = mm from by omega]
    simp [List.range'_one]
  · intro x hx
    simp only [io, List.mem_append, List.mem_cons] at hx
    rcases hx with hx | rfl | hx
    · have := hl.new x hx; omega
    · simp
    · have := hr.new x hx; omega
  · simp only [io, List.map_append, List.map_cons, List.nodup_append, List.nodup_cons, List.mem_cons, List.mem_map]
    refine ⟨hl.nodup, ⟨?_, hr.nodup⟩, ?_⟩
    · rintro ⟨x, hx, e⟩
      have := hr.new x hx; omega
    · rintro a ⟨x, hx, rfl⟩ b (rfl | ⟨y, hy, rfl⟩)
      · have := hl.new x hx; omega
      · have h3 := old x hx; have h4 := hr.new y hy; omega
  · refine Below.setCell ?_ (by simp) _
    refine (hb.trans (hl.below.mono (by omega))).trans ?_
    exact (Below.setCell (Below.refl _ _) (by simp) _).trans (hr.below.mono (by omega))

theorem made_node (w : World) (nq : Nat) (ko : Obj) (off mm : Nat) (z : Int) (W1 : World)
    (h : ((w.drewN nq).alloc ko).alloc (.cells #[.string (keyOf (off + mm)), .int .i64 ((off : Int) + mm), .int .u64 z, .pointer none, .pointer none] 38) = W1) :
    W1.heap.size = w.heap.size + 2 ∧ W1.heap[w.heap.size + 1]? = some (nodeObj (off + mm, z) (.pointer none) (.pointer none)) ∧ Below w.heap.size w W1 := by
  subst h
  refine ⟨by simp, ?_, ?_⟩
  · have := heap_alloc_new ((w.drewN nq).alloc ko) (.cells #[.string (keyOf (off + mm)), .int .i64 ((off : Int) + mm), .int .u64 z, .pointer none, .pointer none] 38)
    rw [show ((w.drewN nq).alloc ko).heap.size = w.heap.size + 1 from by simp] at this
    rw [this]
    simp [nodeObj]
  · exact Below.alloc (Below.alloc (below_drewN (Below.refl _ _) nq) (by simp) _) (by simp) _

set_option maxHeartbeats 1000000 in
theorem build_any (pb po len cap : Nat) (Z : Nat → Int) (hlen : len ≤ 300) (_hcap : len ≤ cap) (off : Nat) (hoff : off ≤ 1000) (n : Nat) : ∀ (lo hi : Nat) (w : World), hi - lo ≤ n → lo ≤ hi → hi ≤ len → 
   (∀ j, j < len → w.cell? ⟨pb, po + j, none⟩ = some (.int .u64 (Z j))) →
    Calls Yba.prog 8 #[.slice (some ⟨pb, po, none⟩) len cap, .int .i64 lo, .int .i64 hi, .int .i64 off] w fun e w' => ∃ u t, e = .returned (.pointer u) ∧ Built Z lo hi off w u t w' := by
  induction n with
  | zero =>
    intro lo hi w hn hlt hhi hc
    have h1 : (hi : Int) ≤ lo := by omega
    go_enter Yba.func8, Yba.ntmps8
    go_wp2_with fail
    go_ret
    exact ⟨none, .nil, rfl, rfl, trivial, trivial, by rw [show hi - lo = 0 from by omega]; rfl, by simp [io], by simp [io], Below.refl _ _⟩
  | succ n ih =>
  intro lo hi w hn hlt hhi hc
  by_cases hll : lo = hi
  · have h1 : (hi : Int) ≤ lo := by omega
    clear ih
    go_enter Yba.func8, Yba.ntmps8
    go_wp2_with fail
    go_ret
    exact ⟨none, .nil, rfl, rfl, trivial, trivial, by rw [show hi - lo = 0 from by omega]; rfl, by simp [io], by simp [io], Below.refl _ _⟩
  have h1 : ¬ (hi : Int) ≤ lo := by omega
  go_enter Yba.func8, Yba.ntmps8
  go_wp2_with fail
  go_loopw [9, 10] (fun m i wr => ∃ mm k nq : Nat, wr = w.drewN nq ∧ lo ≤ mm ∧ mm < k ∧ k ≤ hi ∧ m = .int .i64 mm ∧ i = .int .i64 k ∧ ∀ j, lo ≤ j → j < k → Z j ≤ Z mm) (fun _ i _ => hi - (intOf i).toNat)
  case atStart => 
    exact ⟨lo, lo + 1, 0, rfl, Nat.le_refl _, by omega, by omega, rfl, by go_num, fun j h1 h2 => by rw [show j = lo from by omega]; exact Int.le_refl _⟩
  case round =>
    obtain ⟨mm, k, nq, rfl, h2, h3, h4, rfl, rfl, hZ⟩ := hrel
    have HZ : Hid (∀ j, lo ≤ j → j < k → Z j ≤ Z mm) := hZ
    clear hZ
    by_cases hk : k < hi
    · have ck := hc k (by omega)
      have cm := hc mm (by omega)
      clear hc
      go_wp2_with fail
      go_quiet (fail)
      go_wp2_with fail
      · exact ⟨⟨k, k + 1, _, rfl, by omega, by omega, by omega, rfl, by go_num, fun j h1 h2 => by
          by_cases e : j = k
          · rw [e]; exact Int.le_refl _
          · have := HZ.out j h1 (by omega); omega⟩, by simp [intOf]; omega⟩
      · exact ⟨⟨mm, k + 1, _, rfl, by omega, by omega, by omega, rfl, by go_num, fun j h1 h2 => by
          by_cases e : j = k
          · rw [e]; omega
          · exact HZ.out j h1 (by omega)⟩, by simp [intOf]; omega⟩
    · have cm := hc mm (by omega)
      have i0 : (0 : Int) ≤ (mm : Int) := by omega
      have i1 : (mm : Int) < (len : Int) := by omega
      have i2 : IntKind.i64.wrap ((off : Int) + mm) = (off : Int) + mm := by rw [IntKind.wrap_i64]; omega
      have HC : Hid (∀ j, j < len → w.cell? ⟨pb, po + j, none⟩ = some (.int .u64 (Z j))) := hc
      have IH := ih
      clear ih hc
      go_wp2_with fail
      go_region_held3 (fun w' => w'.cell? ⟨pb, po + mm, none⟩ = some (.int .u64 (Z mm))) (go_keep) ((go_at_call 11; refine (key_at _ (off + mm) (by omega) (by omega) _).mono ?_; rintro e w' ⟨rfl, rfl⟩))
      go_wp2_with fail
      clear cm i0 i1 i2
      obtain ⟨W1, hW1⟩ : ∃ W1, ((w.drewN (nq + 1)).alloc (keyBytes (off + mm))).alloc (.cells #[.string (keyOf (off + mm)), .int .i64 ((off : Int) + mm), .int .u64 (Z mm), .pointer none, .pointer none] 38) = W1 := ⟨_, rfl⟩
      rw [hW1]
      obtain ⟨s1, n1, b1⟩ := made_node w _ _ off mm (Z mm) W1 hW1
      clear hW1
      have C1 : Hid (∀ j, j < len → W1.cell? ⟨pb, po + j, none⟩ = some (.int .u64 (Z j))) := fun j hj => cell_later b1 (HC.out j hj)
      refine (IH lo mm W1 (by omega) h2 (by omega) C1.out).mono ?_
      rintro e w1 ⟨u1, t1, rfl, hb1⟩
      have hn1 : w1.heap[w.heap.size + 1]? = some (nodeObj (off + mm, Z mm) (.pointer none) (.pointer none)) := by
        rw [hb1.below.block _ (by omega)]; exact n1
      obtain ⟨_, _, _, c3, _⟩ := node_cells hn1
      have f3 := node_free hn1 3
      have HB1 := hb1
      clear hb1 
      have N1 : Hid (W1.heap[w.heap.size + 1]? = some (nodeObj (off + mm, Z mm) (.pointer none) (.pointer none))) := n1
      have S1 : Hid (W1.heap.size = w.heap.size + 2) := s1
      have H1 : Hid (w1.heap[w.heap.size + 1]? = some (nodeObj (off + mm, Z mm) (.pointer none) (.pointer none))) := hn1
      clear hn1 n1 s1
      go_wp2_with fail
      rw [show ((mm : Int) + 1) = ((mm + 1 : Nat) : Int) from by omega]
      obtain ⟨w2, hw2⟩ : ∃ w2, w1.setCell ⟨w.heap.size + 1, 3, none⟩ (.pointer u1) = w2 := ⟨_, rfl⟩
      rw [hw2]
      have HW2 : Hid (w1.setCell ⟨w.heap.size + 1, 3, none⟩ (.pointer u1) = w2) := hw2
      have b2 : Below w.heap.size w w2 := by
        rw [← hw2]
        exact Below.setCell (b1.trans (HB1.below.mono b1.size)) (by simp) _
      have n2 : w2.heap[w.heap.size + 1]? = some (nodeObj (off + mm, Z mm) (.pointer u1) (.pointer none)) := by
        rw [← hw2]; exact node_setLeft H1.out
      have C2 : ∀ j, j < len → w2.cell? ⟨pb, po + j, none⟩ = some (.int .u64 (Z j)) := fun j hj => cell_later b2 (HC.out j hj)
      clear hw2 c3 f3
      refine (IH (mm + 1) hi w2 (by omega) (by omega) (by omega) C2).mono ?_
      rintro e w3 ⟨u2, t2, rfl, HB2⟩
      have hn3 : w3.heap[w.heap.size + 1]? = some (nodeObj (off + mm, Z mm) (.pointer u1) (.pointer none)) := by
        rw [HB2.below.block _ (lt_of_block n2)]; exact n2
      obtain ⟨_, _, _, _, c4⟩ := node_cells hn3
      have f4 := node_free hn3 4
      clear hn3 C2 n2 C1
      go_wp2_with fail
      go_ret
      rw [← HW2.out] at HB2
      exact ⟨_, _, rfl, built_node h2 (by omega) (fun j h5 h6 => HZ.out j h5 (by omega)) S1.out N1.out b1 HB1 HB2⟩

/-- No index: nil, whatever the slice. -/
theorem build_none (Z : Nat → Int) (ao : Option Addr) (len cap off : Nat) (w : World) :
    Calls Yba.prog 8 #[.slice ao len cap, .int .i64 0, .int .i64 0, .int .i64 off] w fun e w' => ∃ u t, e = .returned (.pointer u) ∧ Built Z 0 0 off w u t w' := by
  go_enter Yba.func8, Yba.ntmps8
  go_wp2_with fail
  go_ret
  exact ⟨none, .nil, rfl, rfl, trivial, trivial, rfl, by simp [io], by simp [io], Below.refl _ _⟩

end Go.Proofs.Ybulkayhw.Tree
