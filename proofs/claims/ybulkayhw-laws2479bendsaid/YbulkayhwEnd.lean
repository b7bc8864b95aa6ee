/-
  (*intake).end: what it does to the map.
-/
import Derived.Test.YbulkayhwMade
namespace Go.Proofs.Ybulkayhw.Fin
open Go.RowKit Go.Maps Go.MuLone Go.ChangeMaps Go.WideMaps

/-- The bool at a key, false where there is none. -/
def gotB (D : DataW Unit) (k : Lit) : Bool := match D.atKey k (.lit (.bool false)) with | .lit (.bool c) => c | _ => false

theorem bool_inv {v : Value} {z : DataW Unit × List MemPlace} (h : plainElem Yba.prog 4 v = some z) : ∃ c, v = .bool c ∧ z = (.lit (.bool c), []) := by
  unfold plainElem at h
  rw [Yba.underlying4] at h
  cases v <;> simp at h
  exact ⟨_, rfl, h.symm⟩

theorem look {w : World} {b n : Nat} {D : DataW Unit} (h : Mp w b n D) {s : ByteArray} (hs : s.size ≤ maxLen) :
    (Instr.lookup 24 (.map (some b)) (.string s) true).run Yba.prog w = .ok (.tuple #[.bool (gotB D (kl s)), .bool (Maps.has D (kl s))]) w := by
  obtain ⟨v, ps, hrun, hv⟩ := World.ownsMap.look_ok h law9 Yba.underlying24 (zero4 w) (plainElem_bool Yba.underlying4 false) (key_mk hs)
  obtain ⟨c, rfl, hc⟩ := bool_inv hv
  rw [hrun]
  have : gotB D (kl s) = c := by
    have := congrArg Prod.fst hc
    simp only at this
    simp [gotB, this]
  rw [this]

theorem drop {w : World} {b n : Nat} {D : DataW Unit} (h : Mp w b n D) {s : ByteArray} (hs : s.size ≤ maxLen) (ty : TypeId) : ∃ f : Nat → World, ∀ q,
    (Builtin.delete_ #[24, 9] ty #[.map (some b), .string s]).run Yba.prog (w.drewN q) = .ok (.tuple #[]) (f q) ∧ Mp (f q) b n (D.del (kl s)) ∧ (w.drewN q).mapTurned (f q) b := by
  have := fun q => World.ownsMap.drop (w := w.drewN q) h law9 Yba.underlying24 (key_mk hs) ty
  exact ⟨fun q => (this q).choose, fun q => (this q).choose_spec⟩

theorem stored {w : World} {b n : Nat} {D : DataW Unit} (h : Mp w b n D) (hn : n < maxLen) {s : ByteArray} (hs : s.size ≤ maxLen) (v : Bool) : ∃ f : Nat → World, ∀ q,
    (Instr.mapUpdate 24 (.map (some b)) (.string s) (.bool v)).run Yba.prog (w.drewN q) = .ok () (f q) ∧ Mp (f q) b (n + 1) (D.put (kl s) (.lit (.bool v))) ∧ (w.drewN q).mapTurned (f q) b := by
  have := fun q => World.ownsMap.store (w := w.drewN q) h law9 Yba.underlying24 hn (key_mk hs) (plainElem_bool Yba.underlying4 v)
  exact ⟨fun q => (this q).choose, fun q => (this q).choose_spec⟩

/-- What end does to the map. -/
def dEnd (D : DataW Unit) (k : Lit) (ans miss trial taken : Bool) : DataW Unit :=
  if ans || taken then D.del k else if miss || (Maps.has D k && trial) then D.put k (.lit (.bool false)) else D

theorem end_nil (ans miss : Bool) (w : World) : Calls Yba.prog 6 #[.pointer none, .bool ans, .bool miss] w fun e w' => e = .returned (.tuple #[]) ∧ w' = w := by
  go_enter_defers Yba.func6, Yba.ntmps6
  go_wp2_with fail
  exact ⟨_, results_none rfl _ _ _, rfl, rfl⟩

/-- Behind the deferred Unlock. -/
theorem fin {w w1 wf : World} {B bb q n : Nat} {D : DataW Unit} (hb : w.heap[bb]? = some (.cells #[.int .i32 0, .int .u32 0, .map (some B)] 56 (0, 0))) (nb : B ≠ bb)
    (hw1 : w.setCell ⟨bb, 0, none⟩ (.int .i32 1) = w1) (hg : (w1.drewN q).grownBy wf (some B)) (hm : Mp wf B n D) :
    wf.cell? ⟨bb, 0, none⟩ = some (.int .i32 1) ∧ wf.frozen? ⟨bb, 0, none⟩ = false ∧ Mp (wf.setCell ⟨bb, 0, none⟩ (.int .i32 0)) B n D ∧
      ∀ base, base ≤ B → base ≤ bb → Below base w (wf.setCell ⟨bb, 0, none⟩ (.int .i32 0)) := by
  have hlt := lt_of_block hb
  have hs1 : w1.heap.size = w.heap.size := by rw [← hw1]; simp [World.setCell]
  have h1 : w1.heap[bb]? = some (.cells #[.int .i32 1, .int .u32 0, .map (some B)] 56 (0, 0)) := by
    rw [← hw1]
    simp [World.setCell, Array.getElem?_modify, hb]
  have h2 : wf.heap[bb]? = some (.cells #[.int .i32 1, .int .u32 0, .map (some B)] 56 (0, 0)) := by
    rw [hg.block bb (by simp [hs1, hlt]) (by simp [Ne.symm nb])]
    exact h1
  refine ⟨by simp [World.cell?, h2], by simp [World.frozen?, h2], hm.setCell nb _, ?_⟩
  intro base hB hbb
  have s0 : Below base w w1 := by rw [← hw1]; exact Below.setCell (Below.refl _ _) hbb _
  refine Below.setCell ((below_drewN s0 q).grown hg ?_ ?_) hbb _
  · simp [hs1]; omega
  · intro k hk
    cases hk
    exact hB

set_option maxHeartbeats 1000000 in
theorem end_any (B bb bi n : Nat) (D : DataW Unit) (addr : ByteArray) (ans miss trial taken : Bool) (w : World) (ha : addr.size ≤ maxLen) (hn : n < 100) (hm : Mp w B n D)
    (hb : w.heap[bb]? = some (.cells #[.int .i32 0, .int .u32 0, .map (some B)] 56 (0, 0)))
    (hi : w.heap[bi]? = some (.cells #[.pointer (some ⟨bb, 0, none⟩), .string addr, .bool trial, .pointer none, .int .u32 (tk taken)] 49 (0, 0))) :
    Calls Yba.prog 6 #[.pointer (some ⟨bi, 0, none⟩), .bool ans, .bool miss] w fun e w' => e = .returned (.tuple #[]) ∧ Mp w' B (n + 1) (dEnd D (kl addr) ans miss trial taken) ∧ ∀ base, base ≤ B → base ≤ bb → Below base w w' := by
  have b0 : w.cell? ⟨bb, 0, none⟩ = some (.int .i32 0) := by simp [World.cell?, hb]
  have b2 : w.cell? ⟨bb, 2, none⟩ = some (.map (some B)) := by simp [World.cell?, hb]
  have f0 : w.frozen? ⟨bb, 0, none⟩ = false := by simp [World.frozen?, hb]
  have i0 : w.cell? ⟨bi, 0, none⟩ = some (.pointer (some ⟨bb, 0, none⟩)) := by simp [World.cell?, hi]
  have i1 : w.cell? ⟨bi, 1, none⟩ = some (.string addr) := by simp [World.cell?, hi]
  have i2 : w.cell? ⟨bi, 2, none⟩ = some (.bool trial) := by simp [World.cell?, hi]
  have i4 : w.cell? ⟨bi, 4, none⟩ = some (.int .u32 (tk taken)) := by simp [World.cell?, hi]
  have nb : B ≠ bb := by
    rintro rfl
    obtain ⟨es, cl, h, _⟩ := hm
    rw [h] at hb
    cases hb
  obtain ⟨w1, hw1⟩ : ∃ w1, w.setCell ⟨bb, 0, none⟩ (.int .i32 1) = w1 := ⟨_, rfl⟩
  have hm1 : Mp w1 B n D := by rw [← hw1]; exact hm.setCell nb _
  have e2 : w1.cell? ⟨bb, 2, none⟩ = some (.map (some B)) := by rw [← hw1, World.cell?_setCell_other _ _ _ _ (by simp)]; exact b2
  have e1 : w1.cell? ⟨bi, 1, none⟩ = some (.string addr) := by rw [← hw1, World.cell?_setCell_other _ _ _ _ (by simp)]; exact i1
  have e3 : w1.cell? ⟨bi, 2, none⟩ = some (.bool trial) := by rw [← hw1, World.cell?_setCell_other _ _ _ _ (by simp)]; exact i2
  have e4 : w1.cell? ⟨bi, 4, none⟩ = some (.int .u32 (tk taken)) := by rw [← hw1, World.cell?_setCell_other _ _ _ _ (by simp)]; exact i4
  have hlk : ∀ q, (Instr.lookup 24 (.map (some B)) (.string addr) true).run Yba.prog (w1.drewN q) = .ok (.tuple #[.bool (gotB D (kl addr)), .bool (Maps.has D (kl addr))]) (w1.drewN q) := fun q => look (w := w1.drewN q) hm1 ha
  have HW1 := hid hw1
  have FIN : Hid (∀ q wf n' D', (w1.drewN q).grownBy wf (some B) → Mp wf B n' D' → wf.cell? ⟨bb, 0, none⟩ = some (.int .i32 1) ∧ wf.frozen? ⟨bb, 0, none⟩ = false ∧ Mp (wf.setCell ⟨bb, 0, none⟩ (.int .i32 0)) B n' D' ∧
      ∀ base, base ≤ B → base ≤ bb → Below base w (wf.setCell ⟨bb, 0, none⟩ (.int .i32 0))) := fun q wf n' D' hg hm' => fin hb nb hw1 hg hm'
  obtain ⟨fd, hfd⟩ := drop hm1 ha 0
  have rd := fun q => (hfd q).1
  have FD := hid (fun q => (hfd q).2)
  obtain ⟨fs, hfs⟩ := stored hm1 (by unfold maxLen; omega) ha false
  have rs := fun q => (hfs q).1
  have FS := hid (fun q => (hfs q).2)
  have HM := hid hm1
  clear hfd hfs hw1 hm hm1 hb hi nb
  go_enter_defers Yba.func6, Yba.ntmps6
  go_wp2_with (go_at_call 12; refine (lock_free Yba.muLib ⟨bb, 0, none⟩ _ b0 f0).mono ?_; rintro e w' ⟨rfl, rfl⟩; rw [HW1.out])
  go_quiet (fail)
  clear hlk
  cases ans
  · cases taken
    · cases miss
      · cases hh : Maps.has D (kl addr)
        · have hE : Hid (dEnd D (kl addr) false false trial false = D) := by simp [Hid, dEnd, hh]
          go_wp2_with (go_at_call 14; refine (load_any _ false _ ?_).mono ?_; go_simp; rintro e w' ⟨rfl, rfl⟩)
          obtain ⟨c1, f1, m2, bl⟩ := FIN.out _ _ _ _ (World.grownBy.refl _ _) (World.ownsMap.mono (w := w1.drewN nq) HM.out (Nat.le_succ n))
          refine leaves_cons (f := 13) (args := #[.pointer (some ⟨bb, 0, none⟩)]) (by simp) (by simp [go_sem]) ?_
          refine (unlock_deferred Yba.muLib ⟨bb, 0, none⟩ .returning _ c1 f1).mono ?_
          rintro e u' w'' ⟨rfl, rfl, rfl⟩
          exact ⟨_, results_none rfl _ _ _, rfl, by rw [hE.out]; exact m2, bl⟩
        · cases trial
          · have hE : Hid (dEnd D (kl addr) false false false false = D) := by simp [Hid, dEnd]
            go_wp2_with (go_at_call 14; refine (load_any _ false _ ?_).mono ?_; go_simp; rintro e w' ⟨rfl, rfl⟩)
            obtain ⟨c1, f1, m2, bl⟩ := FIN.out _ _ _ _ (World.grownBy.refl _ _) (World.ownsMap.mono (w := w1.drewN nq) HM.out (Nat.le_succ n))
            refine leaves_cons (f := 13) (args := #[.pointer (some ⟨bb, 0, none⟩)]) (by simp) (by simp [go_sem]) ?_
            refine (unlock_deferred Yba.muLib ⟨bb, 0, none⟩ .returning _ c1 f1).mono ?_
            rintro e u' w'' ⟨rfl, rfl, rfl⟩
            exact ⟨_, results_none rfl _ _ _, rfl, by rw [hE.out]; exact m2, bl⟩
          · have hE : Hid (dEnd D (kl addr) false false true false = D.put (kl addr) (.lit (.bool false))) := by simp [Hid, dEnd, hh]
            go_wp2_with (go_at_call 14; refine (load_any _ false _ ?_).mono ?_; go_simp; rintro e w' ⟨rfl, rfl⟩)
            go_region
            go_wp2_with fail
            obtain ⟨m1, t1⟩ := FS.out (nq + 1)
            obtain ⟨c1, f1, m2, bl⟩ := FIN.out _ _ _ _ t1.grown m1
            refine leaves_cons (f := 13) (args := #[.pointer (some ⟨bb, 0, none⟩)]) (by simp) (by simp [go_sem]) ?_
            refine (unlock_deferred Yba.muLib ⟨bb, 0, none⟩ .returning _ c1 f1).mono ?_
            rintro e u' w'' ⟨rfl, rfl, rfl⟩
            exact ⟨_, results_none rfl _ _ _, rfl, by rw [hE.out]; exact m2, bl⟩
      · have hE : Hid (dEnd D (kl addr) false true trial false = D.put (kl addr) (.lit (.bool false))) := by simp [Hid, dEnd]
        go_wp2_with (go_at_call 14; refine (load_any _ false _ ?_).mono ?_; go_simp; rintro e w' ⟨rfl, rfl⟩)
        go_region
        go_wp2_with fail
        obtain ⟨m1, t1⟩ := FS.out (nq + 1)
        obtain ⟨c1, f1, m2, bl⟩ := FIN.out _ _ _ _ t1.grown m1
        refine leaves_cons (f := 13) (args := #[.pointer (some ⟨bb, 0, none⟩)]) (by simp) (by simp [go_sem]) ?_
        refine (unlock_deferred Yba.muLib ⟨bb, 0, none⟩ .returning _ c1 f1).mono ?_
        rintro e u' w'' ⟨rfl, rfl, rfl⟩
        exact ⟨_, results_none rfl _ _ _, rfl, by rw [hE.out]; exact m2, bl⟩
    · have hE : Hid (dEnd D (kl addr) false miss trial true = D.del (kl addr)) := by simp [Hid, dEnd]
      go_wp2_with (go_at_call 14; refine (load_any _ true _ ?_).mono ?_; go_simp; rintro e w' ⟨rfl, rfl⟩)
      go_region
      go_wp2_with fail
      obtain ⟨m1, t1⟩ := FD.out (nq + 1)
      obtain ⟨c1, f1, m2, bl⟩ := FIN.out _ _ _ _ t1.grown (m1.mono (Nat.le_succ n))
      refine leaves_cons (f := 13) (args := #[.pointer (some ⟨bb, 0, none⟩)]) (by simp) (by simp [go_sem]) ?_
      refine (unlock_deferred Yba.muLib ⟨bb, 0, none⟩ .returning _ c1 f1).mono ?_
      rintro e u' w'' ⟨rfl, rfl, rfl⟩
      exact ⟨_, results_none rfl _ _ _, rfl, by rw [hE.out]; exact m2, bl⟩
  · have hE : Hid (dEnd D (kl addr) true miss trial taken = D.del (kl addr)) := by simp [Hid, dEnd]
    go_wp2_with fail
    go_region
    go_wp2_with fail
    obtain ⟨m1, t1⟩ := FD.out (nq + 1)
    obtain ⟨c1, f1, m2, bl⟩ := FIN.out _ _ _ _ t1.grown (m1.mono (Nat.le_succ n))
    refine leaves_cons (f := 13) (args := #[.pointer (some ⟨bb, 0, none⟩)]) (by simp) (by simp [go_sem]) ?_
    refine (unlock_deferred Yba.muLib ⟨bb, 0, none⟩ .returning _ c1 f1).mono ?_
    rintro e u' w'' ⟨rfl, rfl, rfl⟩
    exact ⟨_, results_none rfl _ _ _, rfl, by rw [hE.out]; exact m2, bl⟩

end Go.Proofs.Ybulkayhw.Fin
