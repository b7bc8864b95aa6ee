/-
  bigEndian.Uint64, and LawS2482BFrame's walk: it returns true and writes nothing that was there.
-/
import Derived.Test.YbulkayjmExact
namespace Go.Proofs.Ybulkayjm.Rep
open Go.RowKit
theorem or_nat (k a b : Nat) (ha : a < 2 ^ k) : a ||| b * 2 ^ k = a + b * 2 ^ k := by
  rw [Nat.mul_comm b, Nat.or_comm, ← Nat.two_pow_add_eq_or_of_lt ha b, Nat.add_comm]
/-- or of two numbers that share no bit is their sum: m is a power of two. -/
theorem or_sum (k : Nat) (m a b : Int) (hm : m = ((2 ^ k : Nat) : Int)) (ha0 : 0 ≤ a) (ha : a < m) (hb : 0 ≤ b) (hlt : a + b * m < 18446744073709551616) : bits .or .u64 a (b * m) = a + b * m := by
  have hm0 : 0 ≤ m := by omega
  have hbm : 0 ≤ b * m := Int.mul_nonneg hb hm0
  rw [u64_or a (b * m) ha0 (by omega) hbm (by omega)]
  obtain ⟨x, rfl⟩ := Int.eq_ofNat_of_zero_le ha0
  obtain ⟨y, rfl⟩ := Int.eq_ofNat_of_zero_le hb
  subst hm
  have e : ((y : Int) * ((2 ^ k : Nat) : Int)).toNat = y * 2 ^ k := by
    rw [← Int.natCast_mul]; rfl
  rw [e, Int.toNat_natCast, or_nat k x y (by omega)]
  rw [Int.natCast_add, Int.natCast_mul]

theorem word (z0 z1 z2 z3 z4 z5 z6 z7 : Int) (b0 : 0 ≤ z0 ∧ z0 ≤ 255) (b1 : 0 ≤ z1 ∧ z1 ≤ 255) (b2 : 0 ≤ z2 ∧ z2 ≤ 255) (b3 : 0 ≤ z3 ∧ z3 ≤ 255) (b4 : 0 ≤ z4 ∧ z4 ≤ 255) (b5 : 0 ≤ z5 ∧ z5 ≤ 255) (b6 : 0 ≤ z6 ∧ z6 ≤ 255) (b7 : 0 ≤ z7 ∧ z7 ≤ 255) :
    bits BinOp.or IntKind.u64 (bits BinOp.or IntKind.u64 (bits BinOp.or IntKind.u64 (bits BinOp.or IntKind.u64 (bits BinOp.or IntKind.u64 (bits BinOp.or IntKind.u64 (bits BinOp.or IntKind.u64 z7 (z6 * 256)) (z5 * 65536)) (z4 * 16777216)) (z3 * 4294967296)) (z2 * 1099511627776)) (z1 * 281474976710656)) (z0 * 72057594037927936)
      = z7 + z6 * 256 + z5 * 65536 + z4 * 16777216 + z3 * 4294967296 + z2 * 1099511627776 + z1 * 281474976710656 + z0 * 72057594037927936 := by
  rw [or_sum 8 256 z7 z6 (by decide) (by omega) (by omega) (by omega) (by omega)]
  rw [or_sum 16 65536 _ z5 (by decide) (by omega) (by omega) (by omega) (by omega)]
  rw [or_sum 24 16777216 _ z4 (by decide) (by omega) (by omega) (by omega) (by omega)]
  rw [or_sum 32 4294967296 _ z3 (by decide) (by omega) (by omega) (by omega) (by omega)]
  rw [or_sum 40 1099511627776 _ z2 (by decide) (by omega) (by omega) (by omega) (by omega)]
  rw [or_sum 48 281474976710656 _ z1 (by decide) (by omega) (by omega) (by omega) (by omega)]
  rw [or_sum 56 72057594037927936 _ z0 (by decide) (by omega) (by omega) (by omega) (by omega)]

theorem word_back (s : Int) :
    s % 256 + s / 256 % 256 * 256 + s / 65536 % 256 * 65536 + s / 16777216 % 256 * 16777216 + s / 4294967296 % 256 * 4294967296 + s / 1099511627776 % 256 * 1099511627776 + s / 281474976710656 % 256 * 281474976710656 + s / 72057594037927936 * 72057594037927936 = s := by
  omega
theorem ret_u64 {a b : Int} (h : a = b) : Ending.returned (.int .u64 a) = .returned (.int .u64 b) := by rw [h]

set_option maxHeartbeats 1000000 in
theorem uint64_any (g o c : Nat) (z0 z1 z2 z3 z4 z5 z6 z7 : Int) (w : World)
    (b0 : 0 ≤ z0 ∧ z0 ≤ 255) (b1 : 0 ≤ z1 ∧ z1 ≤ 255) (b2 : 0 ≤ z2 ∧ z2 ≤ 255) (b3 : 0 ≤ z3 ∧ z3 ≤ 255) (b4 : 0 ≤ z4 ∧ z4 ≤ 255) (b5 : 0 ≤ z5 ∧ z5 ≤ 255) (b6 : 0 ≤ z6 ∧ z6 ≤ 255) (b7 : 0 ≤ z7 ∧ z7 ≤ 255)
    (c0 : w.cell? ⟨g, o, none⟩ = some (.int .u8 z0)) (c1 : w.cell? ⟨g, o + 1, none⟩ = some (.int .u8 z1)) (c2 : w.cell? ⟨g, o + 2, none⟩ = some (.int .u8 z2)) (c3 : w.cell? ⟨g, o + 3, none⟩ = some (.int .u8 z3))
    (c4 : w.cell? ⟨g, o + 4, none⟩ = some (.int .u8 z4)) (c5 : w.cell? ⟨g, o + 5, none⟩ = some (.int .u8 z5)) (c6 : w.cell? ⟨g, o + 6, none⟩ = some (.int .u8 z6)) (c7 : w.cell? ⟨g, o + 7, none⟩ = some (.int .u8 z7)) :
    Calls Yba.prog 8 #[.agg #[], .slice (some ⟨g, o, none⟩) 8 c] w fun e w' => e = .returned (.int .u64 (z7 + z6 * 256 + z5 * 65536 + z4 * 16777216 + z3 * 4294967296 + z2 * 1099511627776 + z1 * 281474976710656 + z0 * 72057594037927936)) ∧ ∃ q, w' = (w.alloc (.cells #[] 29)).drewN q := by
  have later : ∀ a v, w.cell? a = some v → (w.alloc (.cells #[] 29)).cell? a = some v := fun a v h => cell_later ((Below.refl _ _).alloc (Nat.le_refl _) _) h
  have d0 := later _ _ c0
  have d1 := later _ _ c1
  have d2 := later _ _ c2
  have d3 := later _ _ c3
  have d4 := later _ _ c4
  have d5 := later _ _ c5
  have d6 := later _ _ c6
  have d7 := later _ _ c7
  clear later c0 c1 c2 c3 c4 c5 c6 c7
  go_enter Yba.func8, Yba.ntmps8
  go_wp2_with fail
  go_quiet (fail)
  go_wp2_with fail
  go_ret
  exact ⟨ret_u64 (word z0 z1 z2 z3 z4 z5 z6 z7 b0 b1 b2 b3 b4 b5 b6 b7), _, rfl⟩

theorem uint64_be8 (g o c : Nat) (s : Int) (h0 : 0 ≤ s) (h1 : s < 18446744073709551616) (w : World) (hc : ∀ j, j < 8 → w.cell? ⟨g, o + j, none⟩ = (be8 s)[j]?) :
    Calls Yba.prog 8 #[.agg #[], .slice (some ⟨g, o, none⟩) 8 c] w fun e w' => e = .returned (.int .u64 s) ∧ ∃ q, w' = (w.alloc (.cells #[] 29)).drewN q := by
  have := uint64_any g o c (s / 72057594037927936) (s / 281474976710656 % 256) (s / 1099511627776 % 256) (s / 4294967296 % 256) (s / 16777216 % 256) (s / 65536 % 256) (s / 256 % 256) (s % 256) w
    (by omega) (by omega) (by omega) (by omega) (by omega) (by omega) (by omega) (by omega)
    (hc 0 (by omega)) (hc 1 (by omega)) (hc 2 (by omega)) (hc 3 (by omega)) (hc 4 (by omega)) (hc 5 (by omega)) (hc 6 (by omega)) (hc 7 (by omega))
  rwa [word_back s] at this

set_option maxHeartbeats 1000000 in
theorem frame_near (ao : Option Addr) (n cap : Nat) (zs : List Int) (s : Int) (h0 : 0 ≤ s) (h1 : s < 18446744073709551616) (hn : n ≤ 4096) (w : World) (hr : IsRow .u8 w ao n cap zs) :
    Calls Yba.prog 4 #[.slice ao n cap, .int .u64 s] w fun e w' => e = .returned (.bool true) ∧ Below w.heap.size w w' := by
  obtain ⟨hcap, hnil, hsrc⟩ := hr.src
  have CP := copy_any ao n cap (fun j => .int .u8 (zs.getD j 0)) (fun _ => rfl) hn hnil w (fun j hj => by
    obtain ⟨b, o, rfl, hc⟩ := hsrc j hj
    exact ⟨_, rfl, by rw [Go.WideShapes.add_plain]; exact hc⟩)
  clear hr hsrc
  go_enter Yba.func4, Yba.ntmps4
  go_wp2_with fail
  refine CP.mono ?_
  rintro e w1 ⟨v1, rfl, o1, b1⟩
  clear CP
  go_wp2_with fail
  refine (rep_any w.heap.size n v1 _ s h0 h1 w1 o1 b1.size (by omega)).mono ?_
  rintro e w2 ⟨v2, rfl, o2, b2⟩
  obtain ⟨g2, c2, rfl, hc2, f2⟩ := row_form o2 (by omega)
  have b02 := b1.trans b2
  have F2 : ∀ j, j < 37 → w2.cell? ⟨g2, n + j, none⟩ = (rep s)[j]? := fun j hj => by
    rw [f2 (n + j) (by omega), List.getElem?_append_right (by simp)]
    simp
  have k0 : w2.cell? ⟨g2, n, none⟩ = some (.int .u8 206) := F2 0 (by omega)
  have k4 : w2.cell? ⟨g2, n + 4, none⟩ = some (.int .u8 32) := F2 4 (by omega)
  have k36 : w2.cell? ⟨g2, n + 36, none⟩ = some (.int .u8 6) := F2 36 (by omega)
  have KB : Hid (∀ j, j < 8 → w2.cell? ⟨g2, n + 14 + j, none⟩ = (be8 s)[j]?) := fun j hj => by
    rw [Nat.add_assoc, F2 (14 + j) (by omega)]
    unfold rep
    rw [List.append_assoc, List.getElem?_append_right (by simp [bys, head14]), List.getElem?_append_left (by simp [bys, head14, be8]; omega)]
    simp [bys, head14]
  clear f2 F2 o1 o2 b1 b2
  go_wp2_with fail
  have i1 : IntKind.i64.wrap ((n : Int) + 14) = (n : Int) + 14 := by rw [IntKind.wrap_i64]; omega
  have i2 : IntKind.i64.wrap ((n : Int) + 22) = (n : Int) + 22 := by rw [IntKind.wrap_i64]; omega
  have i3 : (0 : Int) ≤ (n : Int) + 14 := by omega
  have i4 : (n : Int) + 14 ≤ (n : Int) + 22 := by omega
  have i5 : (n : Int) + 22 ≤ (c2 : Int) := by omega
  have i6 : ((n : Int) + 14).toNat = n + 14 := by omega
  have i7 : ((n : Int) + 22).toNat = n + 22 := by omega
  have i8 : ¬ c2 = n + 14 := by omega
  go_region_held3 (fun _ => True) (exact trivial) ((go_at_call 8; refine (uint64_be8 _ _ _ s h0 h1 _ ?_).mono ?_; (exact KB.out); rintro e w3 ⟨rfl, q3, rfl⟩))
  have bl : Below w2.heap.size w2 (w2.alloc (.cells #[] 29)) := (Below.refl _ _).alloc (Nat.le_refl _) _
  have m0 := cell_later bl k0
  have m36 := cell_later bl k36
  have i9 : ((n : Int) + ((n : Int) + 37) - n - 1).toNat = n + 36 := by omega
  clear i1 i2 i3 i4 i5 i6 i7 i8 k0 k4 k36
  go_wp2_with fail
  go_ret
  exact ⟨rfl, below_drewN (b02.alloc b02.size _) _⟩

theorem frame_far (ao : Option Addr) (n cap : Nat) (s : Int) (hn : 4096 < n) (w : World) :
    Calls Yba.prog 4 #[.slice ao n cap, .int .u64 s] w fun e w' => e = .returned (.bool true) ∧ Below w.heap.size w w' := by
  go_enter Yba.func4, Yba.ntmps4
  go_wp2_with fail
  go_ret
  exact ⟨rfl, Below.refl _ _⟩

theorem frame_any (ao : Option Addr) (n cap : Nat) (zs : List Int) (s : Int) (w : World) (hr : IsRow .u8 w ao n cap zs) (hs : (Lit.int .u64 s).wf = true) :
    Calls Yba.prog 4 #[.slice ao n cap, .int .u64 s] w fun e w' => e = .returned (.bool true) ∧ Below w.heap.size w w' := by
  obtain ⟨h0, h1⟩ := u64_bounds hs
  by_cases hn : 4096 < n
  · exact frame_far ao n cap s hn w
  · exact frame_near ao n cap zs s h0 h1 (by omega) w hr
end Go.Proofs.Ybulkayjm.Rep
