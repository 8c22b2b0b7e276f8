/-
  THE SHELF's CONTRACT OF encoding/binary.Uvarint AT THIS PROGRAM, laid in plain words by the kit's lay-shelf.mjs and lay-plain.mjs.
-/
import Derived.Shelf.Bin.Uvarint
import Derived.Test.YbulkarzcProg
namespace Go.Proofs.Ybulkarzc
open Go.Shelf
def laysBin45_ren : Go.Shelf.Ren := ⟨fun | 45 => 8 | n => n, fun | 22 => 22 | 33 => 26 | 3 => 3 | 45 => 32 | 0 => 0 | 5 => 5 | 4 => 4 | n => n, fun | n => n⟩
theorem laysBin45 : Go.Proofs.LaysBin.n45 Yba.prog laysBin45_ren := {
  mixed := by kernel_rfl
  f45 := Yba.func8.trans (congrArg some (by kernel_rfl))
  t0 := Yba.underlying0
  a0 := Yba.isAgg0
  z0 := Yba.sizeOf0
  v0 := Yba.zeroValue0
  i0 := by kernel_rfl
  t3 := Yba.underlying3
  a3 := Yba.isAgg3
  z3 := Yba.sizeOf3
  v3 := Yba.zeroValue3
  i3 := by kernel_rfl
  t4 := Yba.underlying4
  a4 := Yba.isAgg4
  z4 := Yba.sizeOf4
  v4 := Yba.zeroValue4
  i4 := by kernel_rfl
  t5 := Yba.underlying5
  a5 := Yba.isAgg5
  z5 := Yba.sizeOf5
  v5 := Yba.zeroValue5
  i5 := by kernel_rfl
  t22 := Yba.underlying22
  a22 := Yba.isAgg22
  z22 := Yba.sizeOf22
  v22 := Yba.zeroValue22
  i22 := by kernel_rfl
  t33 := Yba.underlying26
  a33 := Yba.isAgg26
  z33 := Yba.sizeOf26
  v33 := Yba.zeroValue26
  i33 := by kernel_rfl
  t45 := Yba.underlying32
  a45 := Yba.isAgg32
  z45 := Yba.sizeOf32
  v45 := Yba.zeroValue32
  i45 := by kernel_rfl }
open Go.RowKit in
/-- encoding/binary.Uvarint computes 'Lib.uvarintDec' of the bytes of its slice, both results; the world is as it was. -/
theorem uvarint_any (g o n c : Nat) (l : List UInt8) (w : World) (hl : l.length = n) (hcell : ∀ j (hj : j < l.length), w.cell? ⟨g, o + j, none⟩ = some (.int .u8 (l[j]).toNat)) :
    Calls Yba.prog 8 #[.slice (some ⟨g, o, none⟩) n c] w fun e w' => e = .returned (.tuple #[.int .u64 (Lib.uvarintDec l).1, .int .i64 (Lib.uvarintDec l).2]) ∧ w' = w := Any.binary_Uvarint laysBin45 g o n c l w hl hcell
end Go.Proofs.Ybulkarzc
