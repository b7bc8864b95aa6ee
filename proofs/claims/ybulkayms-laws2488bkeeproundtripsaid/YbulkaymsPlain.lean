/-
  Varints, plainly: what is written is read back.
-/
import Derived.Lib.Varint
import Derived.Lib.VarintDec
import Derived.Lib.VarintMem
namespace Go.Proofs.Ybulkayms.Cnt
open Go.Lib

theorem byte_of {a : Nat} (h : a < 256) : (a.toUInt8).toNat = a := toUInt8_toNat h

theorem dec_from : ∀ (y i acc : Nat) (rest : List UInt8), y < 2 ^ (64 - 7 * i) → i ≤ 9 → uvarintFrom i acc (uvarint y ++ rest) = (acc + y * 2 ^ (7 * i), (i : Int) + (uvarint y).length) := by
  intro y
  induction y using Nat.strongRecOn with
  | _ y ih =>
    intro i acc rest hy hi
    by_cases h : y < 128
    · rw [uvarint_small h]
      simp only [List.cons_append, List.nil_append, uvarintFrom]
      rw [if_neg (by omega), byte_of (by omega), if_pos h, if_neg]
      · simp
      · rintro ⟨rfl, h1⟩
        simp at hy
        omega
    · have h8 : i ≤ 8 := by
        rcases Nat.lt_or_ge i 9 with h9 | h9
        · omega
        · have : i = 9 := by omega
          subst this
          simp at hy
          omega
      rw [uvarint_big (by omega)]
      simp only [List.cons_append, uvarintFrom]
      rw [if_neg (by omega), byte_of (by omega), if_neg (by omega)]
      have e1 : 64 - 7 * i = (64 - 7 * (i + 1)) + 7 := by omega
      have hy2 : y / 128 < 2 ^ (64 - 7 * (i + 1)) := by
        rw [e1, Nat.pow_add] at hy
        exact Nat.div_lt_of_lt_mul (by rw [Nat.mul_comm]; exact hy)
      rw [ih (y / 128) (by omega) (i + 1) _ rest hy2 (by omega)]
      have e2 : 7 * (i + 1) = 7 * i + 7 := by omega
      have e3 : (y % 128 + 128) % 128 = y % 128 := by omega
      rw [e2, Nat.pow_add, e3]
      have e4 : acc + y % 128 * 2 ^ (7 * i) + y / 128 * (2 ^ (7 * i) * 2 ^ 7) = acc + y * 2 ^ (7 * i) := by
        have : y * 2 ^ (7 * i) = (y % 128 + 128 * (y / 128)) * 2 ^ (7 * i) := by rw [Nat.mod_add_div]
        rw [this, Nat.add_mul, ← Nat.add_assoc]
        congr 1
        rw [Nat.mul_comm 128, Nat.mul_assoc, Nat.mul_comm (2 ^ (7 * i)) (2 ^ 7)]
      rw [e4]
      simp only [List.length_cons, Prod.mk.injEq, true_and]
      omega

theorem dec_enc (x : Nat) (h : x < 18446744073709551616) (rest : List UInt8) : uvarintDec (uvarint x ++ rest) = (x, ((uvarint x).length : Int)) := by
  unfold uvarintDec
  rw [dec_from x 0 0 rest (by simpa using h) (by omega)]
  simp

/-- A number of two bytes. -/
theorem enc_two {x : Nat} (h1 : 128 ≤ x) (h2 : x < 16384) : uvarint x = [(x % 128 + 128).toUInt8, (x / 128).toUInt8] := by
  rw [uvarint_big h1, uvarint_small (by omega)]
/-- A number of more than two bytes: its first two bear the bit 128. -/
theorem enc_more {x : Nat} (h : 16384 ≤ x) : ∃ r, uvarint x = (x % 128 + 128).toUInt8 :: (x / 128 % 128 + 128).toUInt8 :: r := by
  rw [uvarint_big (by omega), uvarint_big (by omega)]
  exact ⟨_, rfl⟩

/-- All counts, one after another. -/
def encs : List Nat → List UInt8
  | [] => []
  | x :: l => uvarint x ++ encs l

/-- Where count i starts. -/
def offs (l : List Nat) (i : Nat) : Nat := (encs (l.take i)).length

theorem encs_append : ∀ a b : List Nat, encs (a ++ b) = encs a ++ encs b
  | [], b => rfl
  | x :: a, b => by simp [encs, encs_append a b]

theorem encs_snoc (l : List Nat) (i : Nat) (h : i < l.length) : encs (l.take (i + 1)) = encs (l.take i) ++ uvarint l[i] := by
  rw [List.take_succ_eq_append_getElem h, encs_append]
  simp [encs]

theorem offs_succ (l : List Nat) (i : Nat) (h : i < l.length) : offs l (i + 1) = offs l i + (uvarint l[i]).length := by
  unfold offs
  rw [encs_snoc l i h, List.length_append]

theorem encs_drop (l : List Nat) (i : Nat) (h : i < l.length) : (encs l).drop (offs l i) = uvarint l[i] ++ encs (l.drop (i + 1)) := by
  have e : encs l = encs (l.take i) ++ encs (l.drop i) := by rw [← encs_append, List.take_append_drop]
  rw [e, offs, List.drop_left, List.drop_eq_getElem_cons h]
  rfl

theorem encs_len : ∀ l : List Nat, (∀ x ∈ l, x < 18446744073709551616) → (encs l).length ≤ 10 * l.length
  | [], _ => by simp [encs]
  | x :: l, h => by
    have h1 := uvarint_length64 (h x (by simp))
    have h2 := encs_len l (fun y hy => h y (by simp [hy]))
    simp only [encs, List.length_append, List.length_cons]
    omega

theorem offs_le (l : List Nat) (i : Nat) (h : i < l.length) : offs l i + (uvarint l[i]).length ≤ (encs l).length := by
  have := congrArg List.length (encs_drop l i h)
  rw [List.length_drop, List.length_append] at this
  have hp := uvarint_pos l[i]
  omega

end Go.Proofs.Ybulkayms.Cnt
