/- Plain law: what the readers of varints take back is what the writers wrote. -/
import Derived.Test.YtfbnnbbjfjhkjaaShelf
import Derived.Test.YtfbnnbbjfjhkjaaVal
namespace Go.Proofs.Ytfbnnbbjfjhkjaa
open Go.RowKit

theorem dec_from : ∀ (k z i acc : Nat) (rest : List UInt8), z < 128 ^ (k + 1) → i + k ≤ 4 → 
    Lib.uvarintFrom i acc (Lib.uvarint z ++ rest) = (acc + z * 2 ^ (7 * i), ((i + (Lib.uvarint z).length : Nat) : Int))
  | k, z, i, acc, rest, hz, hi => by
    by_cases h : z < 128
    · rw [Lib.uvarint_small h, List.singleton_append, Lib.uvarintFrom]
      have hb : (z.toUInt8).toNat = z := by
        rw [Nat.toUInt8_eq, UInt8.toNat_ofNat']
        omega
      rw [hb]
      simp only [List.length_cons, List.length_nil]
      rw [if_neg (by omega), if_pos h, if_neg (by omega)]
      simp
    · cases k with
      | zero => omega
      | succ k =>
        rw [Lib.uvarint_big (by omega), List.cons_append, Lib.uvarintFrom]
        have hb : ((z % 128 + 128).toUInt8).toNat = z % 128 + 128 := by
          rw [Nat.toUInt8_eq, UInt8.toNat_ofNat']
          omega
        rw [hb, if_neg (by omega), if_neg (by omega)]
        have hz' : z / 128 < 128 ^ (k + 1) := by
          have : 128 ^ (k + 1 + 1) = 128 ^ (k + 1) * 128 := Nat.pow_succ ..
          omega
        rw [dec_from k (z / 128) (i + 1) _ rest hz' (by omega)]
        have e1 : (z % 128 + 128) % 128 = z % 128 := by omega
        have e2 : 2 ^ (7 * (i + 1)) = 2 ^ (7 * i) * 128 := by rw [Nat.mul_add, Nat.pow_add]
        rw [e1, e2]
        have e3 : z / 128 * (2 ^ (7 * i) * 128) = (z / 128 * 128) * 2 ^ (7 * i) := by rw [Nat.mul_comm (2 ^ (7 * i)), Nat.mul_assoc]
        rw [e3]
        have e4 : z * 2 ^ (7 * i) = (z % 128) * 2 ^ (7 * i) + (z / 128 * 128) * 2 ^ (7 * i) := by
          rw [← Nat.add_mul]
          congr 1
          omega
        simp only [List.length_cons, Prod.mk.injEq]
        constructor <;> omega
theorem dec_uvarint {z : Nat} (hz : z < 4294967296) (rest : List UInt8) : Lib.uvarintDec (Lib.uvarint z ++ rest) = (z, ((Lib.uvarint z).length : Int)) := by
  unfold Lib.uvarintDec
  rw [dec_from 4 z 0 0 rest (Nat.lt_of_lt_of_le hz (by decide)) (by omega)]
  simp
theorem unzig_eq (z : Nat) : Lib.unzigzag z = zag z := by
  unfold Lib.unzigzag zag
  split <;> omega
theorem dec_varint {z : Nat} (hz : z < 4294967296) (rest : List UInt8) : Lib.varintDec (Lib.uvarint z ++ rest) = (zag z, ((Lib.uvarint z).length : Int)) := by
  unfold Lib.varintDec
  rw [dec_uvarint hz, unzig_eq]
theorem dec_end (rest : List UInt8) : Lib.varintDec (0 :: rest) = (0, 1) := by
  have := dec_varint (z := 0) (by decide) rest
  rw [Lib.uvarint_small (by decide)] at this
  exact this
theorem zag_bounds {z : Nat} (hz : z < 4294967296) : -2147483648 ≤ zag z ∧ zag z ≤ 2147483647 := by
  unfold zag
  split <;> omega
theorem zag_nz {z : Nat} (h : z ≠ 0) : zag z ≠ 0 := by
  unfold zag
  split <;> omega
theorem uvarint_pos (z : Nat) : 0 < (Lib.uvarint z).length := by
  by_cases h : z < 128
  · rw [Lib.uvarint_small h]; simp
  · rw [Lib.uvarint_big (by omega)]; simp
end Go.Proofs.Ytfbnnbbjfjhkjaa
