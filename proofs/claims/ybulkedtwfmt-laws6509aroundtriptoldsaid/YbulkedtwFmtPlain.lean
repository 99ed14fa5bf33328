import Derived.Lib.Varint
import Derived.Lib.VarintDec
namespace Go.Proofs.YbulkedtwFmt
open Go

theorem uv_from (rest : List UInt8) : ∀ (k i acc x : Nat), x < 128 ^ (k + 1) → i + k + 1 ≤ 9 →
    Lib.uvarintFrom i acc (Lib.uvarint x ++ rest) = (acc + x * 2 ^ (7 * i), ((i : Int) + ((Lib.uvarint x).length : Int)))
  | 0, i, acc, x, hx, hi => by
    have hx' : x < 128 := by simpa using hx
    rw [Lib.uvarint_small hx']
    have e : x.toUInt8.toNat = x := by simp; omega
    simp only [List.cons_append, List.nil_append, Lib.uvarintFrom]
    rw [if_neg (by omega), e, if_pos hx', if_neg (by omega)]
    simp
  | k + 1, i, acc, x, hx, hi => by
    by_cases hs : x < 128
    · rw [Lib.uvarint_small hs]
      have e : x.toUInt8.toNat = x := by simp; omega
      simp only [List.cons_append, List.nil_append, Lib.uvarintFrom]
      rw [if_neg (by omega), e, if_pos hs, if_neg (by omega)]
      simp
    · rw [Lib.uvarint_big (by omega)]
      have e : (x % 128 + 128).toUInt8.toNat = x % 128 + 128 := by simp; omega
      have ih := uv_from rest k (i + 1) (acc + x % 128 * 2 ^ (7 * i)) (x / 128) (by rw [Nat.pow_succ] at hx; exact Nat.div_lt_of_lt_mul (by rw [Nat.mul_comm]; exact hx)) (by omega)
      simp only [List.cons_append, Lib.uvarintFrom]
      rw [if_neg (by omega), e, if_neg (by omega)]
      have e2 : (x % 128 + 128) % 128 = x % 128 := by omega
      rw [e2, ih]
      have e3 : 2 ^ (7 * (i + 1)) = 128 * 2 ^ (7 * i) := by
        rw [show 7 * (i + 1) = 7 * i + 7 by omega, Nat.pow_add]
        omega
      rw [e3]
      have e4 : acc + x % 128 * 2 ^ (7 * i) + x / 128 * (128 * 2 ^ (7 * i)) = acc + x * 2 ^ (7 * i) := by
        have : x % 128 * 2 ^ (7 * i) + x / 128 * (128 * 2 ^ (7 * i)) = x * 2 ^ (7 * i) := by
          rw [← Nat.mul_assoc, ← Nat.add_mul]
          congr 1
          omega
        omega
      rw [e4]
      simp only [List.length_cons]
      congr 1
      push_cast
      omega

/-- WHAT IS ENCODED IS WHAT IS DECODED. -/
theorem uv_dec (x : Nat) (rest : List UInt8) (hx : x < 128 ^ 5) : Lib.uvarintDec (Lib.uvarint x ++ rest) = (x, ((Lib.uvarint x).length : Int)) := by
  have := uv_from rest 4 0 0 x hx (by omega)
  simpa [Lib.uvarintDec] using this

/-- A FIELD: the length, then the bytes. -/
def encB (l : List UInt8) : List UInt8 := Lib.uvarint l.length ++ l
def info (p c : List UInt8) : List UInt8 := encB p ++ encB c

theorem encB_ne (l : List UInt8) : encB l ≠ [] := by
  intro h
  have h2 := congrArg List.length h
  have h3 := Lib.uvarint_pos l.length
  simp [encB] at h2
  rw [h2.1] at h3
  simp at h3

theorem encB_length_le (l : List UInt8) (h : l.length < 18446744073709551616) : (encB l).length ≤ l.length + 10 := by
  have := Lib.uvarint_length64 h
  simp [encB]
  omega

end Go.Proofs.YbulkedtwFmt
