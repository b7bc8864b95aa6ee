/-
  zzs2479cwalk: the nodes of a treap, in order, appended to what out points to.
-/
import Derived.Test.YbulkayhwJoin
namespace Go.Proofs.Ybulkayhw.Tree
open Go.RowKit Go.Deep

/-- What the call of zzs2479cwalk leaves. -/
def Walked (t : T) (base bo n : Nat) (xs : List Value) (w w' : World) : Prop :=
  ∃ v', w'.heap[bo]? = some (.cells #[v'] 32 (0, 0)) ∧ w'.ownsRow base 30 1 v' (n + (io t).length) (xs ++ (io t).map (fun x => pt x.1)) ∧ Sv (fun k => k = bo ∨ base ≤ k) w w'

theorem info30 : (Yba.prog.info? 30).map (fun i => (i.zero, i.size, i.bytes)) = some (some (.pointer none), 1, 8) := by kernel_rfl
theorem neq_none (w : World) : (binOp .neq 30 (.pointer none) (.pointer none)).run Yba.prog w = .ok (.bool false) w := run_neq_pointer_nil w 30 none (by kernel_rfl)
theorem neq_some (a : Addr) (w : World) : (binOp .neq 30 (.pointer (some a)) (.pointer none)).run Yba.prog w = .ok (.bool true) w := run_neq_pointer_nil w 30 (some a) (by kernel_rfl)

/-- A child: nil, or a node of no greater priority. -/
theorem side {w : World} {p : Int} {l : T} (hin : InT w l) (hl : ∀ x ∈ io l, x.2.2 ≤ p) :
    l.ptr = .pointer none ∨ ∃ b1 p1, l.ptr = .pointer (some ⟨b1, 0, none⟩) ∧ w.cell? ⟨b1, 2, none⟩ = some (.int .u64 p1) ∧ ¬ p < p1 := by
  match l, hin, hl with
  | .nil, _, _ => exact .inl rfl
  | .node b1 o1 a1 l1 r1, hin, hl =>
    obtain rfl := hin.1
    refine .inr ⟨b1, a1.2, rfl, (node_cells hin.node_at).2.2.1, ?_⟩
    have := hl (b1, a1) (by simp [io])
    simp at this
    omega

/-- One node appended to what out points to. -/
theorem mid {w1 w2 : World} {bo base b n g cap : Nat} {v1 : Value} {xs : List Value} (hv1 : w1.heap[bo]? = some (.cells #[v1] 32 (0, 0))) (ho1 : w1.ownsRow base 30 1 v1 n xs) (hbo : bo < base)
    (hown : w2.ownsRow base 30 1 (.slice (some ⟨g, 0, none⟩) (n + 1) cap) (n + 1) (xs ++ [pt b])) (hgrow : (w1.alloc (.cells #[pt b] 30)).grownBy w2 v1.ownBlock) :
    w2.cell? ⟨bo, 0, none⟩ = some v1 ∧ w2.frozen? ⟨bo, 0, none⟩ = false ∧
    (w2.setCell ⟨bo, 0, none⟩ (.slice (some ⟨g, 0, none⟩) (n + 1) cap)).heap[bo]? = some (.cells #[.slice (some ⟨g, 0, none⟩) (n + 1) cap] 32 (0, 0)) ∧
    (w2.setCell ⟨bo, 0, none⟩ (.slice (some ⟨g, 0, none⟩) (n + 1) cap)).ownsRow base 30 1 (.slice (some ⟨g, 0, none⟩) (n + 1) cap) (n + 1) (xs ++ [pt b]) ∧
    Sv (fun k => k = bo ∨ base ≤ k) w1 (w2.setCell ⟨bo, 0, none⟩ (.slice (some ⟨g, 0, none⟩) (n + 1) cap)) := by
  have hlt := lt_of_block hv1
  have hb2 : w2.heap[bo]? = some (.cells #[v1] 32 (0, 0)) := by
    rw [hgrow.block bo (by simp; omega) (fun e => by have := (ho1.lt bo e.symm).1; omega), Below.heap_alloc _ _ _ hlt]
    exact hv1
  refine ⟨cell_of_one hb2, free_of_one hb2, one_setCell hb2, ownsRow_setCell_below hown hbo _, ?_⟩
  refine Sv.setCell (Sv.grown (Sv.alloc (Sv.refl _ _) _) hgrow fun k hk => ?_) (.inl rfl) _
  exact .inr (ho1.lt k hk).1

theorem Walked.draws {t : T} {base bo n q : Nat} {xs : List Value} {w w' : World} (h : Walked t base bo n xs (w.drewN q) w') : Walked t base bo n xs w w' := by
  obtain ⟨v, h1, h2, h3⟩ := h
  exact ⟨v, h1, h2, ⟨h3.os, h3.tape, h3.output, h3.size, h3.block⟩⟩

theorem hid {p : Prop} (h : p) : Hid p := h

set_option maxHeartbeats 1000000 in
theorem walk_any (t : T) : ∀ (w : World) (d lim bo base n : Nat) (v : Value) (xs : List Value), InT w t → Hp t → d + ht t ≤ lim + 1 → lim ≤ 1000 →
    (∀ x ∈ io t, x.1 < base ∧ x.1 ≠ bo) → bo < base → base ≤ w.heap.size → w.heap[bo]? = some (.cells #[v] 32 (0, 0)) → w.ownsRow base 30 1 v n xs → n + (io t).length ≤ 1000 →
    Calls Yba.prog 9 #[t.ptr, .int .i64 d, .int .i64 lim, .pointer (some ⟨bo, 0, none⟩)] w fun e w' => e = .returned (.bool true) ∧ Walked t base bo n xs w w' := by
  induction t with
  | nil =>
    intro w d lim bo base n v xs _ _ _ _ _ _ _ hv ho _
    have F : Walked .nil base bo n xs w w := ⟨v, hv, by simpa [io] using ho, Sv.refl _ _⟩
    rw [show (BT.nil : T).ptr = Value.pointer none from rfl]
    clear hv ho
    go_enter Yba.func9, Yba.ntmps9
    go_wp2_with fail
    go_ret
    exact ⟨rfl, F⟩
  | node b o a l r ihl ihr =>
    intro w d lim bo base n v xs hin hp hd hlim hbl hbo hbase hv ho hn
    obtain ⟨rfl, hnode, hinl, hinr⟩ := hin
    obtain ⟨hl, hr, hpl, hpr⟩ := hp
    obtain ⟨i, hi, hz0, hz1, hz2⟩ := info_parts info30
    obtain ⟨_, _, c2, c3, c4⟩ := node_cells hnode
    rw [show (BT.node b 0 a l r).ptr = Value.pointer (some ⟨b, 0, none⟩) from rfl]
    have q3 := neq_none
    have q4 := neq_some
    simp only [ht, io, List.length_append, List.length_cons] at hd hn
    have hd' : ¬ (lim : Int) < d := by omega
    have IHL : ∀ q, Calls Yba.prog 9 #[l.ptr, .int .i64 ((d : Int) + 1), .int .i64 lim, .pointer (some ⟨bo, 0, none⟩)] (w.drewN q) fun e w' => e = .returned (.bool true) ∧ Walked l base bo n xs (w.drewN q) w' := by
      intro q
      have := ihl (w.drewN q) (d + 1) lim bo base n v xs (hinl.draws q) hpl (by omega) hlim (fun x hx => hbl x (by simp only [io, List.mem_append]; exact .inl hx)) hbo hbase hv ho (by omega)
      rwa [show ((d + 1 : Nat) : Int) = (d : Int) + 1 from by omega] at this
    have IHR : Hid (∀ w2 v2 n2 xs2, Sv (fun k => k = bo ∨ base ≤ k) w w2 → n2 = n + (io l).length + 1 → w2.heap[bo]? = some (.cells #[v2] 32 (0, 0)) → w2.ownsRow base 30 1 v2 n2 xs2 → 
       Calls Yba.prog 9 #[r.ptr, .int .i64 ((d : Int) + 1), .int .i64 lim, .pointer (some ⟨bo, 0, none⟩)] w2 fun e w' => e = .returned (.bool true) ∧ Walked r base bo n2 xs2 w2 w') := by
      intro w2 v2 n2 xs2 sv hn2 hv2 ho2
      have := ihr w2 (d + 1) lim bo base n2 v2 xs2 (sv.inT hinr (fun x hx => by
        have := hbl x (by simp only [io, List.mem_append, List.mem_cons]; exact .inr (.inr hx))
        omega)) hpr (by omega) hlim (fun x hx => hbl x (by simp only [io, List.mem_append, List.mem_cons]; exact .inr (.inr hx))) hbo (Nat.le_trans hbase sv.size) hv2 ho2 (by omega)
      rwa [show ((d + 1 : Nat) : Int) = (d : Int) + 1 from by omega] at this
    have hbb := hbl (b, a) (by simp [io])
    simp only at hbb
    have NB : Hid (∀ w1, Sv (fun k => k = bo ∨ base ≤ k) w w1 → w1.cell? ⟨b, 4, none⟩ = some r.ptr) := fun w1 sv =>
      (node_cells (w := w1) (by rw [sv.block b (lt_of_block hnode) (by omega)]; exact hnode)).2.2.2.2
    have HL := side hinl hl
    have HR := side hinr hr
    have FIN : Hid (∀ w1 w2 w3 n1 xs1, Walked l base bo n xs w w1 → Sv (fun k => k = bo ∨ base ≤ k) w1 w2 → n1 = n + (io l).length + 1 → xs1 = xs ++ (io l).map (fun x => pt x.1) ++ [pt b] → Walked r base bo n1 xs1 w2 w3 → Walked (.node b 0 a l r) base bo n xs w w3) := by
      rintro w1 w2 w3 n1 xs1 ⟨_, _, _, s1⟩ s2 rfl rfl ⟨v3, h3, o3, s3⟩
      refine ⟨v3, h3, ?_, (s1.trans s2).trans s3⟩
      simp only [io, List.length_append, List.length_cons, List.map_append, List.map_cons]
      rw [show n + ((io l).length + ((io r).length + 1)) = n + (io l).length + 1 + (io r).length from by omega]
      simpa using o3
    clear ihl ihr hinl hinr hl hr hpl hpr hnode hv ho hbl
    obtain ⟨lp, hlp⟩ := ptr_pointer l
    obtain ⟨rp, hrp⟩ := ptr_pointer r
    rw [hlp] at c3 HL IHL
    rw [hrp] at c4 HR IHR NB
    clear hlp hrp
    rcases HL with hl0 | ⟨b1, p1, hl0, hl1, hl2⟩ <;> rcases HR with hr0 | ⟨b2, p2, hr0, hr1, hr2⟩
    all_goals
      simp only [Value.pointer.injEq] at hl0 hr0
      subst hl0 hr0
      go_enter Yba.func9, Yba.ntmps9
      go_wp2_with fail
      go_quiet (fail)
      go_wp2_with fail
      go_quiet (fail)
      go_wp2_with fail
      refine (IHL _).mono ?_
      rintro e w1 ⟨rfl, hw1⟩
      have hW1 := hw1.draws
      obtain ⟨v1, h1, o1, s1⟩ := hw1.draws
      have k4 := NB.out w1 s1
      have k5 := cell_of_one h1
      have k6 := free_of_one h1
      have HS : base ≤ w1.heap.size := Nat.le_trans hbase s1.size
      have H1 : Hid (w1.heap[bo]? = some (.cells #[v1] 32 (0, 0))) := h1
      have O1 : Hid (w1.ownsRow base 30 1 v1 (n + (io l).length) (xs ++ (io l).map (fun x => pt x.1))) := o1
      clear h1 o1 hw1 IHL
      go_wp2_with (at_builtin; refine wpList_append_lies _ rfl _ _ _ rfl base 30 i (.pointer none) 1 8 Yba.underlying32 hi hz0 hz1 hz2 rfl (by omega) v1 (n + (io l).length) _ rfl (O1.out.alloc _) ⟨w1.heap.size, 0, none⟩ 1 1 [pt b] rfl rfl (cell_one_new _ _ _) (by simp [pt, Value.oneCell']) (by omega) (by unfold maxLen; omega) (by omega) (by simp; omega) (w1.heap.size + 1) (by simp) ?_; intro g cap w2 hown hgrow hat hlt; obtain ⟨m1, m2, m3, m4, m5⟩ := mid H1.out O1.out hbo hown hgrow; have m6 := NB.out _ (s1.trans m5); have M3 := hid m3; have M4 := hid m4; have M5 := hid m5; clear m3 m4 m5 hgrow hown hat)
      refine (IHR.out _ _ _ _ (s1.trans M5.out) rfl M3.out M4.out).mono ?_
      rintro e w3 ⟨rfl, hw3⟩
      clear IHR NB
      go_wp2_with fail
      go_ret
      exact ⟨rfl, FIN.out _ _ _ _ _ hW1 M5.out rfl rfl hw3⟩

end Go.Proofs.Ybulkayhw.Tree
