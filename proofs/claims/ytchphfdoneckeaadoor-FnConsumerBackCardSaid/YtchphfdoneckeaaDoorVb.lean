/-
  Varints that are written are read again, whatever stands behind them; what an encoded consumer's state is.
-/
import Derived.Test.YtchphfdoneckeaaDoorRm
import Derived.Lib.Varint
import Derived.Lib.VarintDec
namespace Go.Proofs.YtchphfdoneckeaaDoor
open Go.Lib
open Cs (Wt Kp Ag)

theorem u8_nat {a : Nat} (h : a < 256) : (a.toUInt8).toNat = a := by
  simp [Nat.toUInt8, UInt8.toNat_ofNat']
  omega
theorem uvarint_from : ∀ (k x i acc : Nat) (r : List UInt8), x < 128 ^ (k + 1) → i + k ≤ 8 → uvarintFrom i acc (uvarint x ++ r) = (acc + x * 2 ^ (7 * i), ((i + (uvarint x).length : Nat) : Int))
  | 0, x, i, acc, r, hx, hi => by
    have hx' : x < 128 := by simpa using hx
    rw [uvarint_small hx']
    simp only [List.cons_append, List.nil_append, uvarintFrom, u8_nat (show x < 256 by omega), List.length_singleton]
    rw [if_neg (by omega), if_pos hx', if_neg (by omega)]
    push_cast
    rfl
  | k + 1, x, i, acc, r, hx, hi => by
    by_cases h : x < 128
    · rw [uvarint_small h]
      simp only [List.cons_append, List.nil_append, uvarintFrom, u8_nat (show x < 256 by omega), List.length_singleton]
      rw [if_neg (by omega), if_pos h, if_neg (by omega)]
      push_cast
      rfl
    · have hd : x / 128 < 128 ^ (k + 1) := by rw [Nat.pow_succ] at hx; exact Nat.div_lt_of_lt_mul (by rw [Nat.mul_comm]; exact hx)
      rw [uvarint_big (by omega)]
      simp only [List.cons_append, uvarintFrom, u8_nat (show x % 128 + 128 < 256 by omega), List.length_cons]
      rw [if_neg (by omega), if_neg (by omega), uvarint_from k (x / 128) (i + 1) _ r hd (by omega)]
      have e1 : (x % 128 + 128) % 128 = x % 128 := by omega
      have e2 : 2 ^ (7 * (i + 1)) = 128 * 2 ^ (7 * i) := by rw [show 7 * (i + 1) = 7 + 7 * i by omega, Nat.pow_add]
      rw [e1, e2]
      congr 1
      · have e3 : x * 2 ^ (7 * i) = (x % 128) * 2 ^ (7 * i) + x / 128 * (128 * 2 ^ (7 * i)) := by
          conv => lhs; rw [show x = x % 128 + x / 128 * 128 by omega]
          rw [Nat.add_mul, Nat.mul_assoc]
        rw [e3]; omega
      · push_cast; omega
theorem uv_back {x : Nat} (h : x < 9223372036854775808) (r : List UInt8) : uvarintDec (uvarint x ++ r) = (x, ((uvarint x).length : Int)) := by
  unfold uvarintDec
  rw [uvarint_from 8 x 0 0 r (Nat.lt_of_lt_of_le h (by decide)) (by omega)]
  simp
theorem zz_back {x : Int} (h0 : -4611686018427387904 ≤ x) (h1 : x ≤ 0) (r : List UInt8) : varintDec (uvarint (zigzag x) ++ r) = (x, ((uvarint (zigzag x)).length : Int)) := by
  unfold varintDec
  have hz : zigzag x < 9223372036854775808 := by
    unfold zigzag
    split <;> omega
  rw [uv_back hz]
  congr 1
  unfold zigzag unzigzag
  split
  · obtain rfl : x = 0 := by omega
    rfl
  · rw [if_neg (by omega)]
    omega

/-! ## an encoded consumer's state -/
def encWt (k : Kp) (x : Wt) : List UInt8 := uvarint (x.s - k.fs) ++ uvarint (x.c - k.fc) ++ uvarint (zigzag (0 - x.t / 1000000000))
def encAg (k : Kp) (x : Ag) : List UInt8 := uvarint (x.s - k.fs) ++ uvarint x.n
def encHd (k : Kp) (n : Nat) : List UInt8 := [22, 2] ++ uvarint k.fc ++ uvarint k.fs ++ uvarint k.dc ++ uvarint k.ds ++ uvarint n
/-- what waits, in the order xs; what was delivered again, in the order ys -/
def encP (k : Kp) (xs : List Wt) : List UInt8 := if xs = [] then [] else uvarint (zigzag 0) ++ xs.flatMap (encWt k)
def encAll (k : Kp) (xs : List Wt) (ys : List Ag) : List UInt8 := encHd k xs.length ++ encP k xs ++ uvarint ys.length ++ ys.flatMap (encAg k)
end Go.Proofs.YtchphfdoneckeaaDoor
