/-
  A PLAIN LAW: what binary.AppendUvarint writes of a small number, binary.Uvarint reads back, whatever stands behind it.
-/
import Derived.Lib.Varint
import Derived.Lib.VarintDec
import Derived.Lib.VarintMem
namespace Go.Proofs.Ybulkarzc

theorem dec_uvarint (x : Nat) (hx : x < 2097152) (r : List UInt8) : Lib.uvarintDec (Lib.uvarint x ++ r) = (x, ((Lib.uvarint x).length : Int)) := by
  unfold Lib.uvarintDec
  by_cases h1 : x < 128
  · have e := Lib.toUInt8_toNat (a := x) (by omega)
    rw [Lib.uvarint_small h1]
    generalize x.toUInt8 = b at e
    simp [Lib.uvarintFrom, e, h1]
  · have e1 := Lib.toUInt8_toNat (a := x % 128 + 128) (by omega)
    rw [Lib.uvarint_big (by omega)]
    generalize (x % 128 + 128).toUInt8 = b1 at e1
    by_cases h2 : x / 128 < 128
    · have e2 := Lib.toUInt8_toNat (a := x / 128) (by omega)
      rw [Lib.uvarint_small h2]
      generalize (x / 128).toUInt8 = b2 at e2
      have n1 : ¬ x % 128 + 128 < 128 := by omega
      simp [Lib.uvarintFrom, e1, e2, h2, n1]
      omega
    · have e2 := Lib.toUInt8_toNat (a := x / 128 % 128 + 128) (by omega)
      have e3 := Lib.toUInt8_toNat (a := x / 128 / 128) (by omega)
      have h3 : x / 128 / 128 < 128 := by omega
      rw [Lib.uvarint_big (by omega), Lib.uvarint_small h3]
      generalize (x / 128 % 128 + 128).toUInt8 = b2 at e2
      generalize (x / 128 / 128).toUInt8 = b3 at e3
      have n1 : ¬ x % 128 + 128 < 128 := by omega
      have n2 : ¬ x / 128 % 128 + 128 < 128 := by omega
      simp [Lib.uvarintFrom, e1, e2, e3, h3, n1, n2]
      omega

end Go.Proofs.Ybulkarzc
