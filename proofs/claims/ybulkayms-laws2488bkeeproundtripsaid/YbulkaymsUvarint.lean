/-
  encoding/binary.Uvarint: the shelf's contract at this program's numbers.
-/
import Derived.Test.YbulkaymsProg
import Derived.Shelf.Bin.Uvarint
import Derived.KernelRfl
namespace Go.Proofs
open Go.Shelf
def Yba.ren45 : Ren := ⟨fun | 45 => 22 | n => n, fun | 22 => 26 | 33 => 28 | 45 => 74 | n => n, fun n => n⟩
theorem Yba.lays45 : LaysBin.n45 Yba.prog Yba.ren45 := {
  mixed := by kernel_rfl, f45 := Yba.func22,
  t0 := Yba.underlying0, a0 := Yba.isAgg0, z0 := Yba.sizeOf0, v0 := Yba.zeroValue0, i0 := by kernel_rfl,
  t3 := Yba.underlying3, a3 := Yba.isAgg3, z3 := Yba.sizeOf3, v3 := Yba.zeroValue3, i3 := by kernel_rfl,
  t4 := Yba.underlying4, a4 := Yba.isAgg4, z4 := Yba.sizeOf4, v4 := Yba.zeroValue4, i4 := by kernel_rfl,
  t5 := Yba.underlying5, a5 := Yba.isAgg5, z5 := Yba.sizeOf5, v5 := Yba.zeroValue5, i5 := by kernel_rfl,
  t22 := Yba.underlying26, a22 := Yba.isAgg26, z22 := Yba.sizeOf26, v22 := Yba.zeroValue26, i22 := by kernel_rfl,
  t33 := Yba.underlying28, a33 := Yba.isAgg28, z33 := Yba.sizeOf28, v33 := Yba.zeroValue28, i33 := by kernel_rfl,
  t45 := Yba.underlying74, a45 := Yba.isAgg74, z45 := Yba.sizeOf74, v45 := Yba.zeroValue74, i45 := by kernel_rfl }
theorem Yba.uvarint (g o n c : Nat) (l : List UInt8) (w : World) (hl : l.length = n) (hcell : ∀ j (hj : j < l.length), w.cell? ⟨g, o + j, none⟩ = some (.int .u8 (l[j]).toNat)) :
    Calls Yba.prog 22 #[.slice (some ⟨g, o, none⟩) n c] w fun e w' => e = .returned (.tuple #[.int .u64 (Lib.uvarintDec l).1, .int .i64 (Lib.uvarintDec l).2]) ∧ w' = w :=
  Any.binary_Uvarint Yba.lays45 g o n c l w hl hcell
end Go.Proofs
