/-
  zzs2488benc and zzs2488beq.
-/
import Derived.Test.YbulkaymsRows
import Derived.Test.YbulkaymsPlain
import Derived.Test.YbulkaymsUvarint
import Derived.WalkKit
import Derived.WalkSpells
import Derived.WalkLawsBesides
import Derived.BigQuiet
import Derived.Deep.QuietTactic
import Derived.Deep.AppendLies
import Derived.Deep.RegionHeld3
import Derived.Deep.OwnRows
import Derived.Laws.CopyOwn
import Derived.Laws.AppendOwnNone
import Derived.Deep.Light
namespace Go.Proofs.Ybulkayms.Cnt
open Go.RowKit
open Go.Lib (uvarint byteCells byteCells_snoc uvarint_length64 uvarint_pos uvarint_small uvarint_big u8_or128_any uvarintDec)

theorem hid {p : Prop} (h : p) : Hid p := h
theorem info5 : (Yba.prog.info? 5).map (fun i => (i.zero, i.size, i.bytes)) = some (some (.int .u8 0), 1, 1) := by kernel_rfl

theorem cells_snoc (xs pre : List UInt8) (a : Nat) (h : a < 256) : byteCells (xs ++ pre) ++ [Value.int .u8 (a : Int)] = byteCells (xs ++ (pre ++ [a.toUInt8])) := by
  rw [← List.append_assoc, byteCells_snoc _ h]

set_option maxRecDepth 10000 in
set_option maxHeartbeats 1000000 in
theorem benc_any (base n : Nat) (v : Value) (xs : List UInt8) (x : Nat) (hx : x < 18446744073709551616) (w : World) (hown : w.ownsRow base 5 1 v n (byteCells xs)) (hbase : base ≤ w.heap.size) (hn : n ≤ 20000) :
    Calls Yba.prog 10 #[v, .int .u64 x] w fun e w' => ∃ v', e = .returned v' ∧ w'.ownsRow base 5 1 v' (n + (uvarint x).length) (byteCells (xs ++ uvarint x)) ∧ Below base w w' := by
  obtain ⟨i, hi, hz0, hz1, hz2⟩ := info_parts info5
  have hl10 := uvarint_length64 hx
  have HO := hid hown
  clear hown
  go_enter Yba.func10, Yba.ntmps10
  go_wp2_with fail
  go_loopw [0, 1] (fun u t wr => ∃ (y : Nat) (pre : List UInt8), t = .int .u64 y ∧ y ≤ x ∧ uvarint x = pre ++ uvarint y ∧ wr.ownsRow base 5 1 u (n + pre.length) (byteCells (xs ++ pre)) ∧ Below base w wr) (fun _ t _ => (intOf t).toNat)
  case atStart => exact ⟨x, [], rfl, Nat.le_refl _, rfl, by simpa using HO.out, Below.refl _ _⟩
  case round =>
    obtain ⟨y, pre, rfl, hyx, hpre, hown, hb⟩ := hrel
    have hbs := hb.size
    have hrow := hid (fun k hk => (hown.lt k hk).1)
    have HU := hid hown
    have hpl : pre.length ≤ 10 := by have := congrArg List.length hpre; rw [List.length_append] at this; omega
    have HP := hid hpre
    clear hown hpre
    by_cases hy : 128 ≤ y
    · have hor : bits BinOp.or IntKind.u8 ((y : Int) % 256) 128 = ((y % 128 + 128 : Nat) : Int) := by
        rw [u8_or128_any _ (by omega) (by omega)]
        omega
      go_wp2_with (at_builtin; refine wpList_append_lies _ rfl _ _ _ rfl base 5 i (.int .u8 0) 1 1 Yba.underlying26 hi hz0 hz1 hz2 rfl (by omega) u0 (n + pre.length) _ rfl (HU.out.alloc _) ⟨wr.heap.size, 0, none⟩ 1 1 [.int .u8 ((y % 128 + 128 : Nat) : Int)] rfl rfl (cell_one_new _ _ _) (by simp [Value.oneCell']) (by omega) (by unfold maxLen; omega) (by omega) (by simp; omega) (wr.heap.size + 1) (by simp) ?_; intro g4 cap4 w4 hown4 hgrow4 hat4 hlt4; have HO4 := hid hown4; have HG4 := hid hgrow4; clear hown4 hgrow4 hat4)
      refine ⟨⟨y / 128, pre ++ [(y % 128 + 128).toUInt8], rfl, by omega, ?_, ?_, (hb.alloc (by omega) _).grown HG4.out (by simp; omega) hrow.out⟩, by simp [intOf]; omega⟩
      · rw [HP.out, uvarint_big hy]; simp
      · have o4 := HO4.out
        rw [cells_snoc xs pre _ (by omega)] at o4
        simpa [Nat.add_assoc] using o4
    · have hy8 : (y : Int) % 256 = y := by omega
      go_wp2_with (at_builtin; refine wpList_append_lies _ rfl _ _ _ rfl base 5 i (.int .u8 0) 1 1 Yba.underlying26 hi hz0 hz1 hz2 rfl (by omega) u0 (n + pre.length) _ rfl (HU.out.alloc _) ⟨wr.heap.size, 0, none⟩ 1 1 [.int .u8 (y : Int)] rfl rfl (cell_one_new _ _ _) (by simp [Value.oneCell']) (by omega) (by unfold maxLen; omega) (by omega) (by simp; omega) (wr.heap.size + 1) (by simp) ?_; intro g4 cap4 w4 hown4 hgrow4 hat4 hlt4; have HO4 := hid hown4; have HG4 := hid hgrow4; clear hown4 hgrow4 hat4)
      go_ret
      refine ⟨_, rfl, ?_, (hb.alloc (by omega) _).grown HG4.out (by simp; omega) hrow.out⟩
      have o4 := HO4.out
      rw [cells_snoc xs pre _ (by omega)] at o4
      rw [HP.out, uvarint_small (by omega)]
      simpa [Nat.add_assoc] using o4

/-- A slice of uint64 that holds V. -/
def Hold (w : World) (ao : Option Addr) (n : Nat) (V : Nat → Int) : Prop := ∀ j, j < n → ∃ b o, ao = some ⟨b, o, none⟩ ∧ w.cell? ⟨b, o + j, none⟩ = some (.int .u64 (V j))

theorem Hold.later {w w' : World} {ao : Option Addr} {n : Nat} {V : Nat → Int} (h : Hold w ao n V) (hb : Below w.heap.size w w') : Hold w' ao n V := fun j hj => by
  obtain ⟨b, o, e, c⟩ := h j hj
  exact ⟨b, o, e, cell_later hb c⟩

set_option maxHeartbeats 1000000 in
theorem beq_any (ag ap ac : Option Addr) (np nc cg cp cc : Nat) (V : Nat → Int) (hnp : np ≤ 1024) (hnc : nc ≤ 1024) (w : World) (hg : Hold w ag (np + nc) V) (hp : Hold w ap np V) (hc : Hold w ac nc (fun j => V (np + j))) :
    Calls Yba.prog 12 #[.slice ag (np + nc) cg, .slice ap np cp, .slice ac nc cc] w fun e w' => e = .returned (.bool true) ∧ ∃ q, w' = w.drewN q := by
  have HGd := hid hg
  have HPd := hid hp
  have HCd := hid hc
  clear hg hp hc
  go_enter Yba.func12, Yba.ntmps12
  go_wp2_with fail
  go_loopw [7] (fun i wr => ∃ k q : Nat, k ≤ np ∧ i = .int .i64 k ∧ wr = w.drewN q) (fun i _ => np - (intOf i).toNat)
  case atStart => exact ⟨0, 0, Nat.zero_le _, rfl, rfl⟩
  case round =>
    obtain ⟨k, q, hk, rfl, rfl⟩ := hrel
    by_cases hlt : k < np
    · obtain ⟨b1, o1, rfl, c1⟩ := HGd.out k (by omega)
      obtain ⟨b2, o2, rfl, c2⟩ := HPd.out k hlt
      have i0 : (0 : Int) ≤ (k : Int) := by omega
      have i1 : (k : Int) < (np : Int) := by omega
      have i2 : (k : Int) < (np : Int) + (nc : Int) := by omega
      go_wp2_with fail
      go_quiet (fail)
      go_wp2_with fail
      go_roundw
      case rel => exact ⟨k + 1, _, by omega, by go_num, rfl⟩
      case measure => simp [intOf]; omega
    · go_wp2_with fail
      go_loopw [8] (fun i wr => ∃ k q : Nat, k ≤ nc ∧ i = .int .i64 k ∧ wr = w.drewN q) (fun i _ => nc - (intOf i).toNat)
      case atStart => exact ⟨0, q, Nat.zero_le _, rfl, rfl⟩
      case round =>
        obtain ⟨k', q', hk', rfl, rfl⟩ := hrel
        by_cases hlt' : k' < nc
        · obtain ⟨b1, o1, rfl, c1⟩ := HGd.out (np + k') (by omega)
          obtain ⟨b2, o2, rfl, c2⟩ := HCd.out k' hlt'
          have i0 : (0 : Int) ≤ (k' : Int) := by omega
          have i1 : (k' : Int) < (nc : Int) := by omega
          have i2 : IntKind.i64.wrap ((np : Int) + (k' : Int)) = (np : Int) + (k' : Int) := by rw [IntKind.wrap_i64]; omega
          have i3 : (0 : Int) ≤ (np : Int) + (k' : Int) := by omega
          have i4 : ((np : Int) + (k' : Int)).toNat = np + k' := by omega
          go_wp2_with fail
          go_quiet (fail)
          go_wp2_with fail
          go_roundw
          case rel => exact ⟨k' + 1, _, by omega, by go_num, rfl⟩
          case measure => simp [intOf]; omega
        · go_wp2_with fail
          go_ret
          exact ⟨rfl, _, rfl⟩
end Go.Proofs.Ybulkayms.Cnt
