import Derived.Test.YbulkafruMade
import Derived.Lib.VarintBits
import Derived.Lib.EndianBits
namespace Go.Proofs.Ybulkafru
open Go.ChangeShapes Go.WideShapes Go.ChangeAt Go.RowKit
set_option linter.unusedVariables false

theorem or_join (acc b k : Nat) (h1 : acc < 2 ^ (7 * k)) (h2 : b * 2 ^ (7 * k) < 18446744073709551616) (h3 : acc < 18446744073709551616) :
    bits .or .u64 (acc : Int) (IntKind.u64.wrap ((b : Int) * 2 ^ (7 * k))) = ((acc + b * 2 ^ (7 * k) : Nat) : Int) := by
  have e : ((b : Int) * 2 ^ (7 * k)) = ((b * 2 ^ (7 * k) : Nat) : Int) := by simp
  rw [e]
  have hw : IntKind.u64.wrap ((b * 2 ^ (7 * k) : Nat) : Int) = ((b * 2 ^ (7 * k) : Nat) : Int) := IntWalk.u64_in _ ⟨by omega, by omega⟩
  rw [hw, (bits_nat .u64 64 (by decide) wraps_u64 acc (b * 2 ^ (7 * k)) (by simpa using h3) (by simpa using h2)).2]
  congr 1
  rw [Nat.or_comm, Nat.mul_comm b, ← Nat.two_pow_add_eq_or_of_lt h1 b, Nat.add_comm]

theorem pow_step (k : Nat) : 2 ^ (7 * (k + 1)) = 128 * 2 ^ (7 * k) := by rw [show 7 * (k + 1) = 7 * k + 7 from by omega, Nat.pow_add, Nat.mul_comm]
theorem pow_63 {k : Nat} (h : k ≤ 9) : 2 ^ (7 * k) ≤ 9223372036854775808 := by
  have : 2 ^ (7 * k) ≤ 2 ^ 63 := Nat.pow_le_pow_right (by omega) (by omega)
  simpa using this
theorem sum_lt {acc b P : Nat} (h1 : acc < P) (h2 : b < 128) : acc + b * P < 128 * P := by
  have : b * P ≤ 127 * P := Nat.mul_le_mul_right _ (by omega)
  omega

theorem from_stop {k acc : Nat} {b : UInt8} {r : List UInt8} (hk : k < 9) (hb : b.toNat < 128) : Lib.uvarintFrom k acc (b :: r) = (acc + b.toNat * 2 ^ (7 * k), (k : Int) + 1) := by
  simp only [Lib.uvarintFrom]; rw [if_neg (by omega), if_pos hb, if_neg (by omega)]
theorem from_nine {acc : Nat} {b : UInt8} {r : List UInt8} (hb : b.toNat ≤ 1) : Lib.uvarintFrom 9 acc (b :: r) = (acc + b.toNat * 9223372036854775808, 10) := by
  simp only [Lib.uvarintFrom]; rw [if_neg (by omega), if_pos (by omega), if_neg (by omega)]; rfl
theorem from_over {acc : Nat} {b : UInt8} {r : List UInt8} (hb : 1 < b.toNat) (hb2 : b.toNat < 128) : Lib.uvarintFrom 9 acc (b :: r) = (0, -10) := by
  simp only [Lib.uvarintFrom]; rw [if_neg (by omega), if_pos hb2, if_pos (by simpa using hb)]; rfl
theorem from_go {k acc : Nat} {b : UInt8} {r : List UInt8} (hk : k < 10) (hb : ¬ b.toNat < 128) : Lib.uvarintFrom k acc (b :: r) = Lib.uvarintFrom (k + 1) (acc + b.toNat % 128 * 2 ^ (7 * k)) r := by
  simp only [Lib.uvarintFrom]; rw [if_neg (by omega), if_neg hb]
theorem from_ten (acc : Nat) (r : List UInt8) : (Lib.uvarintFrom 10 acc r).2 ≤ 0 := by
  cases r <;> simp [Lib.uvarintFrom]

theorem dec_of {l : List UInt8} {x : Nat} {m : Nat} (h : Lib.uvarintDec l = (x, (m : Int) + 1)) (hx : (x : Int) ≤ 9223372036854775807) : dec l = ((x : Int), m + 1) := by
  unfold dec; rw [h, if_neg (by simp only; omega)]
  congr 1
theorem dec_big {l : List UInt8} {x : Nat} {m : Int} (h : Lib.uvarintDec l = (x, m)) (hx : 9223372036854775808 ≤ x) : dec l = (-1, 0) :=
  dec_bad (.inr (by rw [h]; simp only; omega))
theorem dec_short {l : List UInt8} (h : (Lib.uvarintDec l).2 ≤ 0) : dec l = (-1, 0) := dec_bad (.inl h)

theorem ret_two {a b : Int} {x y : Int} (h1 : a = x) (h2 : b = y) : Ending.returned (.tuple #[.int .i64 a, .int .i64 b]) = .returned (.tuple #[.int .i64 x, .int .i64 y]) := by rw [h1, h2]
end Go.Proofs.Ybulkafru
