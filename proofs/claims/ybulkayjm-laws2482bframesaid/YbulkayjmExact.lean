/-
  LawS2482BExact's walk: it returns true and writes nothing that was there.
-/
import Derived.Test.YbulkayjmExpect
import Derived.OpenShut
namespace Go.Proofs.Ybulkayjm.Rep
open Go.RowKit

def IsRow (k : IntKind) (w : World) (a : Option Addr) (len cap : Nat) (zs : List Int) : Prop :=
  (a = none ∧ len = 0 ∧ cap = 0 ∧ zs = []) ∨
  ∃ x, a = some x ∧ len ≤ cap ∧ cap ≤ maxLen ∧ zs.length = cap ∧ (∀ i, i < zs.length → w.cell? (x.add i) = some (.int k (zs.getD i 0))) ∧ ∀ n ∈ zs, (Lit.int k n).wf = true

/-- What the law needs of its slice. -/
theorem IsRow.src {k : IntKind} {w : World} {a : Option Addr} {len cap : Nat} {zs : List Int} (h : IsRow k w a len cap zs) :
    len ≤ cap ∧ (a = none → len = 0) ∧ ∀ j, j < len → ∃ b o, a = some ⟨b, o, none⟩ ∧ w.cell? ⟨b, o + j, none⟩ = some (.int k (zs.getD j 0)) := by
  rcases h with ⟨rfl, rfl, rfl, rfl⟩ | ⟨x, rfl, hl, hm, hz, hcell, hwf⟩
  · exact ⟨Nat.le_refl _, fun _ => rfl, fun j hj => absurd hj (Nat.not_lt_zero j)⟩
  · refine ⟨hl, fun h => (by cases h), fun j hj => ?_⟩
    obtain ⟨b, o, sp⟩ := x
    have c0 := hcell 0 (by omega)
    have hspot : sp = none := by simpa [Addr.add] using World.cell?_spot c0
    subst hspot
    have := hcell j (by omega)
    rw [Go.WideShapes.add_plain] at this
    exact ⟨b, o, rfl, this⟩

theorem row_form {w : World} {base : Nat} {v : Value} {n : Nat} {xs : List Value} (h : w.ownsRow base 5 1 v n xs) (hn : 0 < n) :
    ∃ g c, v = .slice (some ⟨g, 0, none⟩) n c ∧ n ≤ c ∧ ∀ j, j < n → w.cell? ⟨g, j, none⟩ = xs[j]? := by
  rcases h.2 with ⟨_, h0⟩ | ⟨g, cap, cur, rfl, hb, hg, hc, _⟩
  · omega
  · exact ⟨g, cap, rfl, hc, fun j hj => h.cellAt j (by omega)⟩

theorem owns_later {w w' : World} {base e size n : Nat} {v : Value} {xs : List Value} (h : w.ownsRow base e size v n xs) (hb : Below w.heap.size w w') : w'.ownsRow base e size v n xs := by
  refine ⟨h.1, ?_⟩
  rcases h.2 with h2 | ⟨g, cap, cur, hv, hb', hg, r⟩
  · exact .inl h2
  · exact .inr ⟨g, cap, cur, hv, hb', by rw [hb.block g (lt_of_block hg)]; exact hg, r⟩

theorem rep_len (s : Int) : (rep s).length = 37 := rfl
theorem rep_at (s : Int) (k : Nat) (hk : k < 37) : ∃ z, (rep s)[k]? = some (.int .u8 z) := by
  have h : ∀ u ∈ rep s, ∃ z, u = .int .u8 z := by
    intro u hu
    simp only [rep, bys, be8, List.mem_append, List.mem_map, List.mem_cons, List.not_mem_nil, or_false] at hu
    rcases hu with (⟨z, _, rfl⟩ | hu) | ⟨z, _, rfl⟩
    · exact ⟨z, rfl⟩
    · rcases hu with rfl | rfl | rfl | rfl | rfl | rfl | rfl | rfl <;> exact ⟨_, rfl⟩
    · exact ⟨z, rfl⟩
  have hl : k < (rep s).length := by rw [rep_len]; exact hk
  obtain ⟨z, hz⟩ := h _ (List.getElem_mem hl)
  exact ⟨z, by rw [List.getElem?_eq_getElem hl, hz]⟩

set_option maxHeartbeats 1000000 in
theorem exact_near (ao : Option Addr) (n cap : Nat) (zs : List Int) (s : Int) (h0 : 0 ≤ s) (h1 : s < 18446744073709551616) (hn : n ≤ 4096) (w : World) (hr : IsRow .u8 w ao n cap zs) :
    Calls Yba.prog 3 #[.slice ao n cap, .int .u64 s] w fun e w' => e = .returned (.bool true) ∧ Below w.heap.size w w' := by
  obtain ⟨hcap, hnil, hsrc⟩ := hr.src
  have CP := copy_any ao n cap (fun j => .int .u8 (zs.getD j 0)) (fun _ => rfl) hn hnil w (fun j hj => by
    obtain ⟨b, o, rfl, hc⟩ := hsrc j hj
    exact ⟨_, rfl, by rw [Go.WideShapes.add_plain]; exact hc⟩)
  have HS := hid hsrc
  clear hr hsrc
  go_enter Yba.func3, Yba.ntmps3
  go_wp2_with fail
  refine CP.mono ?_
  rintro e w1 ⟨v1, rfl, o1, b1⟩
  clear CP
  go_wp2_with fail
  refine (rep_any w.heap.size n v1 _ s h0 h1 w1 o1 b1.size (by omega)).mono ?_
  rintro e w2 ⟨v2, rfl, o2, b2⟩
  go_wp2_with fail
  refine (expect_any s h0 h1 w2).mono ?_
  rintro e w3 ⟨v3, rfl, o3, b3⟩
  obtain ⟨g2, c2, rfl, hc2, f2⟩ := row_form (owns_later o2 b3) (by omega)
  obtain ⟨g3, c3, rfl, hc3, f3⟩ := row_form o3 (by omega)
  have b03 : Below w.heap.size w w3 := (b1.trans b2).trans (b3.mono (Nat.le_trans b1.size b2.size))
  have F1 : Hid (∀ j, j < n → w3.cell? ⟨g2, j, none⟩ = some (.int .u8 (zs.getD j 0))) := fun j hj => by
    rw [f2 j (by omega), List.getElem?_append_left (by simp; exact hj)]
    simp [hj]
  have F2 : Hid (∀ j, j < 37 → ∃ z, w3.cell? ⟨g2, n + j, none⟩ = some (.int .u8 z) ∧ w3.cell? ⟨g3, j, none⟩ = some (.int .u8 z)) := fun j hj => by
    obtain ⟨z, hz⟩ := rep_at s j hj
    refine ⟨z, ?_, by rw [f3 j hj]; exact hz⟩
    rw [f2 (n + j) (by omega), List.getElem?_append_right (by simp)]
    simpa using hz
  clear f2 f3 o1 o2 o3 b1 b2 b3
  go_wp2_with fail
  go_loopw [7] (fun i wr => ∃ k q : Nat, k ≤ n ∧ i = .int .i64 k ∧ wr = w3.drewN q) (fun i _ => n - (intOf i).toNat)
  case atStart => exact ⟨0, 0, Nat.zero_le _, rfl, rfl⟩
  case round =>
    obtain ⟨k, q, hk, rfl, rfl⟩ := hrel
    by_cases hlt : k < n
    · obtain ⟨b, o, rfl, hc⟩ := HS.out k hlt
      have ck := F1.out k hlt
      have cb := cell_later b03 hc
      have i0 : (0 : Int) ≤ (k : Int) := by omega
      have i1 : (k : Int) < (n : Int) := by omega
      have i2 : (k : Int) < (n : Int) + 37 := by omega
      go_wp2_with fail
      go_quiet (fail)
      go_wp2_with fail
      go_roundw
      case rel => exact ⟨k + 1, _, by omega, by go_num, rfl⟩
      case measure => simp [intOf]; omega
    · clear F1
      go_wp2_with fail
      go_loopw [8] (fun i wr => ∃ k q : Nat, k ≤ 37 ∧ i = .int .i64 k ∧ wr = w3.drewN q) (fun i _ => 37 - (intOf i).toNat)
      case atStart => exact ⟨0, q, Nat.zero_le _, rfl, rfl⟩
      case round =>
        obtain ⟨k', q', hk', rfl, rfl⟩ := hrel
        by_cases hlt' : k' < 37
        · obtain ⟨z, d1, d2⟩ := F2.out k' hlt'
          have i0 : (0 : Int) ≤ (k' : Int) := by omega
          have i1 : (k' : Int) < 37 := by omega
          have i2 : IntKind.i64.wrap ((n : Int) + (k' : Int)) = (n : Int) + (k' : Int) := by rw [IntKind.wrap_i64]; omega
          have i3 : (0 : Int) ≤ (n : Int) + (k' : Int) := by omega
          have i4 : ((n : Int) + (k' : Int)).toNat = n + k' := by omega
          go_wp2_with fail
          go_quiet (fail)
          go_wp2_with fail
          go_roundw
          case rel => exact ⟨k' + 1, _, by omega, by go_num, rfl⟩
          case measure => simp [intOf]; omega
        · go_wp2_with fail
          go_ret
          exact ⟨rfl, below_drewN b03 _⟩

theorem exact_far (ao : Option Addr) (n cap : Nat) (s : Int) (hn : 4096 < n) (w : World) :
    Calls Yba.prog 3 #[.slice ao n cap, .int .u64 s] w fun e w' => e = .returned (.bool true) ∧ Below w.heap.size w w' := by
  go_enter Yba.func3, Yba.ntmps3
  go_wp2_with fail
  go_ret
  exact ⟨rfl, Below.refl _ _⟩

theorem u64_bounds {s : Int} (h : (Lit.int .u64 s).wf = true) : 0 ≤ s ∧ s < 18446744073709551616 := by
  have := bounds_u64 h
  omega

theorem exact_any (ao : Option Addr) (n cap : Nat) (zs : List Int) (s : Int) (w : World) (hr : IsRow .u8 w ao n cap zs) (hs : (Lit.int .u64 s).wf = true) :
    Calls Yba.prog 3 #[.slice ao n cap, .int .u64 s] w fun e w' => e = .returned (.bool true) ∧ Below w.heap.size w w' := by
  obtain ⟨h0, h1⟩ := u64_bounds hs
  by_cases hn : 4096 < n
  · exact exact_far ao n cap s hn w
  · exact exact_near ao n cap zs s h0 h1 (by omega) w hr
end Go.Proofs.Ybulkayjm.Rep
