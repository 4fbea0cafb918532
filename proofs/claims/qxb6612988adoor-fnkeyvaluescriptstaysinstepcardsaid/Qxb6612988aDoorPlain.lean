/-
  PLAIN LAWS, NO Go IN SIGHT: what a varint's bytes decode to, whatever bytes follow.
-/
import Derived.Lib.VarintDec
import Derived.Lib.VarintMem
import Derived.Lib.Zigzag
namespace Go.Proofs.Qxb6612988aDoor
open Go

theorem dec_from : ∀ (k i x acc : Nat) (r : List UInt8), i + k = 9 → x * 2 ^ (7 * i) < 18446744073709551616 →
    Lib.uvarintFrom i acc (Lib.uvarint x ++ r) = (acc + x * 2 ^ (7 * i), (i : Int) + (Lib.uvarint x).length)
  | k, i, x, acc, r, hi, hx => by
    by_cases h : x < 128
    · rw [Lib.uvarint_small h]
      have hb : (x.toUInt8).toNat = x := Lib.toUInt8_toNat (by omega)
      have h9 : ¬ (i = 9 ∧ 1 < x) := by
        rintro ⟨rfl, h1⟩
        have e : (2 : Nat) ^ (7 * 9) = 9223372036854775808 := by decide
        rw [e] at hx
        omega
      simp only [List.cons_append, List.nil_append, Lib.uvarintFrom, hb, List.length_singleton]
      rw [if_neg (by omega), if_pos h, if_neg h9]
      simp
    · match k, hi with
      | 0, hi =>
        obtain rfl : i = 9 := by omega
        have e : (2 : Nat) ^ (7 * 9) = 9223372036854775808 := by decide
        rw [e] at hx
        omega
      | k + 1, hi =>
        rw [Lib.uvarint_big (by omega)]
        have hb : ((x % 128 + 128).toUInt8).toNat = x % 128 + 128 := Lib.toUInt8_toNat (by omega)
        have e7 : 2 ^ (7 * (i + 1)) = 2 ^ (7 * i) * 128 := by rw [Nat.mul_add, Nat.pow_add]
        have hdiv : x / 128 * 2 ^ (7 * (i + 1)) + x % 128 * 2 ^ (7 * i) = x * 2 ^ (7 * i) := by
          rw [e7, ← Nat.mul_assoc, Nat.mul_right_comm, ← Nat.add_mul]
          congr 1
          omega
        have ih := dec_from k (i + 1) (x / 128) (acc + (x % 128 + 128) % 128 * 2 ^ (7 * i)) r (by omega) (by omega)
        simp only [List.cons_append, Lib.uvarintFrom, hb]
        rw [if_neg (by omega), if_neg (by omega), ih]
        have e1 : (x % 128 + 128) % 128 = x % 128 := by omega
        rw [e1, Nat.add_assoc, Nat.add_comm (x % 128 * 2 ^ (7 * i)), hdiv]
        simp only [List.length_cons]
        refine Prod.ext rfl ?_
        show ((i + 1 : Nat) : Int) + _ = _
        omega

theorem dec_uvarint {x : Nat} (hx : x < 18446744073709551616) (r : List UInt8) : Lib.uvarintDec (Lib.uvarint x ++ r) = (x, ((Lib.uvarint x).length : Int)) := by
  have h := dec_from 9 0 x 0 r (by omega) (by simpa using hx)
  simpa [Lib.uvarintDec] using h

theorem unzig_zag (x : Int) : Lib.unzigzag (Lib.zigzag x) = x := by
  unfold Lib.unzigzag Lib.zigzag
  by_cases h : 0 ≤ x
  · rw [if_pos h, if_pos (by omega)]; omega
  · rw [if_neg h, if_neg (by omega)]; omega

theorem dec_varint {x : Int} (h0 : -9223372036854775808 ≤ x) (h1 : x ≤ 9223372036854775807) (r : List UInt8) : Lib.varintDec (Lib.uvarint (Lib.zigzag x) ++ r) = (x, ((Lib.uvarint (Lib.zigzag x)).length : Int)) := by
  rw [Lib.varintDec, dec_uvarint (Lib.zigzag_lt h0 h1)]
  simp [unzig_zag]

end Go.Proofs.Qxb6612988aDoor
