/-
  join[int]: two treaps joined.
-/
import Derived.Test.YbulkayhwBuild
namespace Go.Proofs.Ybulkayhw.Tree
open Go.RowKit Go.Deep

/-- The blocks of a tree. -/
def bl (t : T) : List Nat := (io t).map (·.1)

/-- What the call of join leaves. -/
structure Joined (ta tb : T) (w : World) (u : Option Addr) (t : T) (w' : World) : Prop where
  ptr : t.ptr = .pointer u
  inT : InT w' t
  hp : Hp t
  row : io t = io ta ++ io tb
  sv : Sv (fun k => k ∈ bl ta ++ bl tb) w w'

theorem bl_node (b o : Nat) (a : Nat × Int) (l r : T) : bl (.node b o a l r) = bl l ++ b :: bl r := by simp [bl, io]
theorem mem_bl {t : T} {x : Nat × Nat × Int} (h : x ∈ io t) : x.1 ∈ bl t := List.mem_map_of_mem h

theorem InT.node_at {w : World} {b o : Nat} {a : Nat × Int} {l r : T} (h : InT w (.node b o a l r)) : w.heap[b]? = some (nodeObj a l.ptr r.ptr) := h.2.1

theorem Hp.le {b o : Nat} {a : Nat × Int} {l r : T} (h : Hp (.node b o a l r)) : ∀ x ∈ io (.node b o a l r), x.2.2 ≤ a.2 := by
  intro x hx
  simp only [io, List.mem_append, List.mem_cons] at hx
  rcases hx with hx | rfl | hx
  · exact h.1 x hx
  · exact Int.le_refl _
  · exact h.2.1 x hx

theorem joined_left {b1 : Nat} {a1 : Nat × Int} {l1 r1 tb t : T} {u : Option Addr} {w w1 : World}
    (ha : InT w (.node b1 0 a1 l1 r1)) (hpa : Hp (.node b1 0 a1 l1 r1)) (hle : ∀ x ∈ io tb, x.2.2 ≤ a1.2) (hnd : (bl (.node b1 0 a1 l1 r1) ++ bl tb).Nodup)
    (hj : Joined r1 tb w u t w1) : Joined (.node b1 0 a1 l1 r1) tb w (some ⟨b1, 0, none⟩) (.node b1 0 a1 l1 t) (w1.setCell ⟨b1, 4, none⟩ (.pointer u)) := by
  obtain ⟨_, hn, hl, hr⟩ := ha
  rw [bl_node, List.append_assoc, List.nodup_append] at hnd
  obtain ⟨n1, n2, n3⟩ := hnd
  rw [List.cons_append, List.nodup_cons] at n2
  obtain ⟨n4, n5⟩ := n2
  have hn1 : w1.heap[b1]? = some (nodeObj a1 l1.ptr r1.ptr) := by rw [hj.sv.block b1 (lt_of_block hn) n4]; exact hn
  refine ⟨rfl, ⟨rfl, ?_, ?_, ?_⟩, ⟨hpa.1, ?_, hpa.2.2.1, hj.hp⟩, ?_, ?_⟩
  · rw [hj.ptr]; exact node_setRight hn1
  · refine hl.congr fun x hx => ?_
    have h1 : x.1 ≠ b1 := n3 _ (mem_bl hx) _ (by simp)
    rw [Below.heap_setCell _ _ _ _ h1, hj.sv.block _ (hl.lt x hx)]
    intro hm
    exact n3 _ (mem_bl hx) _ (List.mem_cons_of_mem _ hm) rfl
  · refine hj.inT.congr fun x hx => ?_
    have h1 : x.1 ≠ b1 := by
      intro e
      apply n4
      have := mem_bl hx
      rw [e] at this
      simpa [bl, hj.row] using this
    rw [Below.heap_setCell _ _ _ _ h1]
  · intro x hx
    rw [hj.row, List.mem_append] at hx
    rcases hx with hx | hx
    · exact hpa.2.1 x hx
    · exact hle x hx
  · simp [io, hj.row]
  · refine Sv.setCell (hj.sv.mono fun k _ hk => ?_) (by simp [bl_node]) _
    rw [bl_node]
    simp only [List.mem_append, List.mem_cons] at hk ⊢
    rcases hk with hk | hk
    · exact .inl (.inr (.inr hk))
    · exact .inr hk

theorem joined_right {b2 : Nat} {a2 : Nat × Int} {l2 r2 ta t : T} {u : Option Addr} {w w1 : World}
    (hb : InT w (.node b2 0 a2 l2 r2)) (hpb : Hp (.node b2 0 a2 l2 r2)) (hle : ∀ x ∈ io ta, x.2.2 ≤ a2.2) (hnd : (bl ta ++ bl (.node b2 0 a2 l2 r2)).Nodup)
    (hj : Joined ta l2 w u t w1) : Joined ta (.node b2 0 a2 l2 r2) w (some ⟨b2, 0, none⟩) (.node b2 0 a2 t r2) (w1.setCell ⟨b2, 3, none⟩ (.pointer u)) := by
  obtain ⟨_, hn, hl, hr⟩ := hb
  rw [bl_node, ← List.append_assoc, List.nodup_append] at hnd
  obtain ⟨n1, n2, n3⟩ := hnd
  rw [List.nodup_cons] at n2
  obtain ⟨n4, n5⟩ := n2
  have n6 : b2 ∉ bl ta ++ bl l2 := fun h => n3 _ h b2 (by simp) rfl
  have hn1 : w1.heap[b2]? = some (nodeObj a2 l2.ptr r2.ptr) := by rw [hj.sv.block b2 (lt_of_block hn) n6]; exact hn
  refine ⟨rfl, ⟨rfl, ?_, ?_, ?_⟩, ⟨?_, hpb.2.1, hj.hp, hpb.2.2.2⟩, ?_, ?_⟩
  · rw [hj.ptr]; exact node_setLeft hn1
  · refine hj.inT.congr fun x hx => ?_
    have h1 : x.1 ≠ b2 := by
      intro e
      apply n6
      have := mem_bl hx
      rw [e] at this
      simpa [bl, hj.row] using this
    rw [Below.heap_setCell _ _ _ _ h1]
  · refine hr.congr fun x hx => ?_
    have h1 : x.1 ≠ b2 := fun e => n4 (e ▸ mem_bl hx)
    rw [Below.heap_setCell _ _ _ _ h1, hj.sv.block _ (hr.lt x hx)]
    intro hm
    exact n3 _ hm _ (List.mem_cons_of_mem _ (mem_bl hx)) rfl
  · intro x hx
    rw [hj.row, List.mem_append] at hx
    rcases hx with hx | hx
    · exact hle x hx
    · exact hpb.1 x hx
  · simp [io, hj.row]
  · refine Sv.setCell (hj.sv.mono fun k _ hk => ?_) (by simp [bl_node]) _
    rw [bl_node]
    simp only [List.mem_append, List.mem_cons] at hk ⊢
    rcases hk with hk | hk
    · exact .inl hk
    · exact .inr (.inl hk)

theorem joined_nil_left (tb : T) (w : World) (u : Option Addr) (hu : tb.ptr = .pointer u) (h : InT w tb) (hp : Hp tb) : Joined .nil tb w u tb w :=
  ⟨hu, h, hp, by simp [io], Sv.refl _ _⟩
theorem joined_nil_right (ta : T) (w : World) (u : Option Addr) (hu : ta.ptr = .pointer u) (h : InT w ta) (hp : Hp ta) : Joined ta .nil w u ta w :=
  ⟨hu, h, hp, by simp [io], Sv.refl _ _⟩

theorem Joined.draws {ta tb t : T} {w w' : World} {u : Option Addr} {n : Nat} (h : Joined ta tb (w.drewN n) u t w') : Joined ta tb w u t w' :=
  ⟨h.ptr, h.inT, h.hp, h.row, ⟨h.sv.os, h.sv.tape, h.sv.output, h.sv.size, h.sv.block⟩⟩
theorem InT.draws {t : T} {w : World} (h : InT w t) (n : Nat) : InT (w.drewN n) t := h.congr fun _ _ => rfl

set_option maxHeartbeats 1000000 in
theorem join_any (n : Nat) : ∀ (ta tb : T) (w : World), (io ta).length + (io tb).length ≤ n → InT w ta → InT w tb → Hp ta → Hp tb → (bl ta ++ bl tb).Nodup →
    Calls Yba.prog 10 #[ta.ptr, tb.ptr] w fun e w' => ∃ u t, e = .returned (.pointer u) ∧ Joined ta tb w u t w' := by
  induction n with
  | zero =>
    intro ta tb w hn ha hb hpa hpb hnd
    match ta, tb, hn with
    | .nil, .nil, _ =>
      rw [show (BT.nil : T).ptr = Value.pointer none from rfl]
      go_enter Yba.func10, Yba.ntmps10
      go_wp2_with fail
      go_ret
      exact ⟨none, .nil, rfl, joined_nil_left _ _ _ rfl ha hpa⟩
    | .nil, .node _ _ _ _ _, hn => simp [io] at hn
    | .node _ _ _ _ _, _, hn => simp [io] at hn
  | succ n ih =>
  intro ta tb w hn ha hb hpa hpb hnd
  match ta, tb, hn, ha, hb, hpa, hpb, hnd with
  | .nil, tb, hn, ha, hb, hpa, hpb, hnd =>
    obtain ⟨u, hu⟩ := ptr_pointer tb
    have F := joined_nil_left tb w u hu hb hpb
    rw [hu, show (BT.nil : T).ptr = Value.pointer none from rfl]
    clear ih ha hb hpa hpb hnd hn hu
    go_enter Yba.func10, Yba.ntmps10
    go_wp2_with fail
    go_ret
    exact ⟨u, tb, rfl, F⟩
  | .node b1 o1 a1 l1 r1, .nil, hn, ha, hb, hpa, hpb, hnd =>
    obtain rfl := ha.1
    have F := joined_nil_right _ w (some ⟨b1, 0, none⟩) rfl ha hpa
    rw [show (BT.nil : T).ptr = Value.pointer none from rfl, show (BT.node b1 0 a1 l1 r1).ptr = Value.pointer (some ⟨b1, 0, none⟩) from rfl]
    clear ih ha hb hpa hpb hnd hn
    go_enter Yba.func10, Yba.ntmps10
    go_wp2_with fail
    go_ret
    exact ⟨_, _, rfl, F⟩
  | .node b1 o1 a1 l1 r1, .node b2 o2 a2 l2 r2, hn, ha, hb, hpa, hpb, hnd =>
    obtain rfl := ha.1
    obtain rfl := hb.1
    obtain ⟨_, _, ca2, ca3, ca4⟩ := node_cells ha.node_at
    obtain ⟨_, _, cb2, cb3, cb4⟩ := node_cells hb.node_at
    have fa := node_free ha.node_at 4
    have fb := node_free hb.node_at 3
    by_cases hgt : a2.2 < a1.2
    · have HA : Hid (∀ w1 u t, Joined r1 (.node b2 0 a2 l2 r2) w u t w1 → Joined (.node b1 0 a1 l1 r1) (.node b2 0 a2 l2 r2) w (some ⟨b1, 0, none⟩) (.node b1 0 a1 l1 t) (w1.setCell ⟨b1, 4, none⟩ (.pointer u))) :=
        fun w1 u t hj => joined_left ha hpa (fun x hx => by have := hpb.le x hx; omega) hnd hj
      have IH : ∀ q, Calls Yba.prog 10 #[r1.ptr, (BT.node b2 0 a2 l2 r2 : T).ptr] (w.drewN q) fun e w' => ∃ u t, e = .returned (.pointer u) ∧ Joined r1 (.node b2 0 a2 l2 r2) (w.drewN q) u t w' := by
        intro q
        refine ih _ _ _ ?_ (ha.2.2.2.draws q) (hb.draws q) hpa.2.2.2 hpb (hnd.sublist ?_)
        · simp only [io, List.length_append, List.length_cons] at hn ⊢; omega
        · rw [bl_node b1]
          exact List.Sublist.append (List.sublist_append_of_sublist_right (List.sublist_cons_self _ _)) (List.Sublist.refl _)
      have N1 : Hid (∀ w1 u t, Joined r1 (.node b2 0 a2 l2 r2) w u t w1 → w1.cell? ⟨b1, 4, none⟩ = some r1.ptr ∧ w1.frozen? ⟨b1, 4, none⟩ = false) := by
        intro w1 u t hj
        have h4 : b1 ∉ bl r1 ++ bl (.node b2 0 a2 l2 r2) := by
          rw [bl_node b1, List.append_assoc, List.nodup_append] at hnd
          exact (List.nodup_cons.1 hnd.2.1).1
        have hn1 : w1.heap[b1]? = some (nodeObj a1 l1.ptr r1.ptr) := by rw [hj.sv.block b1 (lt_of_block ha.node_at) h4]; exact ha.node_at
        exact ⟨(node_cells hn1).2.2.2.2, node_free hn1 4⟩
      rw [show (BT.node b1 0 a1 l1 r1).ptr = Value.pointer (some ⟨b1, 0, none⟩) from rfl]
      rw [show (BT.node b2 0 a2 l2 r2).ptr = Value.pointer (some ⟨b2, 0, none⟩) from rfl] at IH ⊢
      clear ih hnd hn cb3 cb4 ca3 fa fb ha hb hpa hpb
      go_enter Yba.func10, Yba.ntmps10
      go_wp2_with fail
      go_quiet (fail)
      go_wp2_with fail
      refine (IH _).mono ?_
      rintro e w1 ⟨u, t, rfl, hj⟩
      obtain ⟨c4, f4⟩ := N1.out _ _ _ hj.draws
      go_wp2_with fail
      go_ret
      exact ⟨_, _, rfl, HA.out _ _ _ hj.draws⟩
    · have HA : Hid (∀ w1 u t, Joined (.node b1 0 a1 l1 r1) l2 w u t w1 → Joined (.node b1 0 a1 l1 r1) (.node b2 0 a2 l2 r2) w (some ⟨b2, 0, none⟩) (.node b2 0 a2 t r2) (w1.setCell ⟨b2, 3, none⟩ (.pointer u))) :=
        fun w1 u t hj => joined_right hb hpb (fun x hx => by have := hpa.le x hx; omega) hnd hj
      have IH : ∀ q, Calls Yba.prog 10 #[(BT.node b1 0 a1 l1 r1 : T).ptr, l2.ptr] (w.drewN q) fun e w' => ∃ u t, e = .returned (.pointer u) ∧ Joined (.node b1 0 a1 l1 r1) l2 (w.drewN q) u t w' := by
        intro q
        refine ih _ _ _ ?_ (ha.draws q) (hb.2.2.1.draws q) hpa hpb.2.2.1 (hnd.sublist ?_)
        · simp only [io, List.length_append, List.length_cons] at hn ⊢; omega
        · rw [bl_node b2]
          exact List.Sublist.append (List.Sublist.refl _) (List.sublist_append_left _ _)
      have N1 : Hid (∀ w1 u t, Joined (.node b1 0 a1 l1 r1) l2 w u t w1 → w1.cell? ⟨b2, 3, none⟩ = some l2.ptr ∧ w1.frozen? ⟨b2, 3, none⟩ = false) := by
        intro w1 u t hj
        have h4 : b2 ∉ bl (.node b1 0 a1 l1 r1) ++ bl l2 := by
          rw [bl_node b2, ← List.append_assoc, List.nodup_append] at hnd
          exact fun h => hnd.2.2 _ h b2 (by simp) rfl
        have hn1 : w1.heap[b2]? = some (nodeObj a2 l2.ptr r2.ptr) := by rw [hj.sv.block b2 (lt_of_block hb.node_at) h4]; exact hb.node_at
        exact ⟨(node_cells hn1).2.2.2.1, node_free hn1 3⟩
      rw [show (BT.node b2 0 a2 l2 r2).ptr = Value.pointer (some ⟨b2, 0, none⟩) from rfl]
      rw [show (BT.node b1 0 a1 l1 r1).ptr = Value.pointer (some ⟨b1, 0, none⟩) from rfl] at IH ⊢
      clear ih hnd hn ca3 cb4 ca4 fa fb ha hb hpa hpb
      go_enter Yba.func10, Yba.ntmps10
      go_wp2_with fail
      go_quiet (fail)
      go_wp2_with fail
      refine (IH _).mono ?_
      rintro e w1 ⟨u, t, rfl, hj⟩
      obtain ⟨c4, f4⟩ := N1.out _ _ _ hj.draws
      go_wp2_with fail
      go_ret
      exact ⟨_, _, rfl, HA.out _ _ _ hj.draws⟩
end Go.Proofs.Ybulkayhw.Tree
