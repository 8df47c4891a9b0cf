import Derived.Test.YbulkafruMade
namespace Go.Proofs.Ybulkafru.lawS1580CRoundTrip
open Go.ChangeShapes Go.WideShapes Go.ChangeAt Go.RowKit
set_option linter.unusedVariables false

/-! ### The plain law -/
theorem from_uvarint : ∀ (m y i acc : Nat) (r : List UInt8), y < 2 ^ (7 * (m + 1)) → i + m + 1 ≤ 9 → Lib.uvarintFrom i acc (Lib.uvarint y ++ r) = (acc + y * 2 ^ (7 * i), (i : Int) + (Lib.uvarint y).length)
  | m, y, i, acc, r, hy, hi => by
    by_cases hs : y < 128
    · rw [Lib.uvarint_small hs]
      have e : (y.toUInt8).toNat = y := by simp; omega
      simp only [List.cons_append, List.nil_append, Lib.uvarintFrom, e]
      rw [if_neg (by omega), if_pos hs, if_neg (by omega)]
      simp
    · rw [Lib.uvarint_big (by omega)]
      have e : ((y % 128 + 128).toUInt8).toNat = y % 128 + 128 := by simp; omega
      simp only [List.cons_append, Lib.uvarintFrom, e]
      rw [if_neg (by omega), if_neg (by omega)]
      cases m with
      | zero => simp at hy; omega
      | succ m =>
        have hp : (2 : Nat) ^ (7 * (m + 1 + 1)) = 2 ^ (7 * (m + 1)) * 128 := by rw [show 7 * (m + 1 + 1) = 7 * (m + 1) + 7 from by omega, Nat.pow_add]
        rw [from_uvarint m (y / 128) (i + 1) _ r (by rw [hp] at hy; exact Nat.div_lt_of_lt_mul (by rw [Nat.mul_comm]; exact hy)) (by omega)]
        have hq : (2 : Nat) ^ (7 * (i + 1)) = 2 ^ (7 * i) * 128 := by rw [show 7 * (i + 1) = 7 * i + 7 from by omega, Nat.pow_add]
        have hm : (y % 128 + 128) % 128 = y % 128 := by omega
        rw [hq, hm]
        congr 1
        · generalize 2 ^ (7 * i) = p
          have := Nat.div_add_mod y 128
          have h2 : y / 128 * (p * 128) = 128 * (y / 128) * p := by rw [Nat.mul_comm p 128, ← Nat.mul_assoc, Nat.mul_comm (y / 128) 128]
          rw [h2, Nat.add_assoc, ← Nat.add_mul, Nat.add_comm (y % 128), this]
        · simp; omega

theorem dec_uvarint (y : Nat) (r : List UInt8) (hy : y < 9223372036854775808) : dec (Lib.uvarint y ++ r) = ((y : Int), (Lib.uvarint y).length) := by
  have h := from_uvarint 8 y 0 0 r (by simpa using hy) (by omega)
  have hp := Lib.uvarint_pos y
  unfold dec Lib.uvarintDec
  rw [h]
  rw [if_neg]
  · simp
  · simp only [Nat.mul_zero, Nat.pow_zero, Nat.mul_one, Nat.zero_add]
    omega

def flat (xs : List Nat) : List UInt8 := xs.flatMap Lib.uvarint

theorem flat_cons (x : Nat) (xs : List Nat) (t : List UInt8) : flat (x :: xs) ++ t = Lib.uvarint x ++ (flat xs ++ t) := by unfold flat; rw [List.flatMap_cons, List.append_assoc]

theorem flat_drop (xs : List Nat) (t : List UInt8) (hx : ∀ x ∈ xs, x < 9223372036854775808) : ∀ i, i ≤ xs.length → (flat xs ++ t).drop (pos (flat xs ++ t) i) = flat (xs.drop i) ++ t
  | 0, _ => rfl
  | i + 1, hi => by
    have ih := flat_drop xs t hx i (by omega)
    have hd : xs.drop i = xs[i] :: xs.drop (i + 1) := List.drop_eq_getElem_cons (by omega)
    have e : pos (flat xs ++ t) (i + 1) = pos (flat xs ++ t) i + (dec ((flat xs ++ t).drop (pos (flat xs ++ t) i))).2 := rfl
    rw [e, ← List.drop_drop, ih, hd]
    have e2 : flat (xs[i] :: xs.drop (i + 1)) ++ t = Lib.uvarint xs[i] ++ (flat (xs.drop (i + 1)) ++ t) := flat_cons _ _ _
    rw [e2, dec_uvarint _ _ (hx _ (List.getElem_mem _))]
    simp

theorem flat_val (xs : List Nat) (t : List UInt8) (hx : ∀ x ∈ xs, x < 9223372036854775808) (i : Nat) (hi : i < xs.length) : val (flat xs ++ t) i = (xs[i] : Int) := by
  unfold val
  rw [flat_drop xs t hx i (by omega)]
  have hd : xs.drop i = xs[i] :: xs.drop (i + 1) := List.drop_eq_getElem_cons (by omega)
  have e2 : flat (xs[i] :: xs.drop (i + 1)) ++ t = Lib.uvarint xs[i] ++ (flat (xs.drop (i + 1)) ++ t) := flat_cons _ _ _
  rw [hd, e2, dec_uvarint _ _ (hx _ (List.getElem_mem _))]

theorem flat_all (xs : List Nat) (t : List UInt8) (hx : ∀ x ∈ xs, x < 9223372036854775808) : ∀ i, i ≤ xs.length → allok (flat xs ++ t) i = true
  | 0, _ => rfl
  | i + 1, hi => allok_succ (flat_all xs t hx i (by omega)) (by rw [flat_val xs t hx i (by omega)]; omega)

theorem flat_cellv (xs : List Nat) (t : List UInt8) (hx : ∀ x ∈ xs, x < 9223372036854775808) (i : Nat) (hi : i < xs.length) : cellv (flat xs ++ t) i = (xs[i] : Int) := by
  rw [cellv_lt (flat_all xs t hx i (by omega)) (Nat.le_refl _), flat_val xs t hx i hi]

theorem flat_ok (xs : List Nat) (t : List UInt8) (hx : ∀ x ∈ xs, x < 9223372036854775808) : okv (flat xs ++ t) xs.length = decide (t = []) := by
  have h := flat_drop xs t hx xs.length (Nat.le_refl _)
  have hp := pos_le (flat xs ++ t) xs.length
  unfold okv
  rw [flat_all xs t hx _ (Nat.le_refl _), Bool.true_and, Bool.eq_iff_iff]
  have hl := congrArg List.length h
  rw [List.drop_length] at hl
  simp only [List.length_drop, flat, List.flatMap_nil, List.nil_append] at hl
  simp only [decide_eq_true_eq]
  constructor
  · intro e
    simp only [flat] at e
    rw [e] at hl
    exact List.length_eq_zero_iff.1 (by omega)
  · intro e
    subst e
    simp only [flat] at hp ⊢
    simp only [List.length_nil] at hl
    omega

theorem flat_le (xs : List Nat) (hx : ∀ x ∈ xs, x < 9223372036854775808) : (flat xs).length ≤ 10 * xs.length := by
  induction xs with
  | nil => simp [flat]
  | cons x xs ih =>
    have h := ih fun y hy => hx y (List.mem_cons_of_mem _ hy)
    have hl := Lib.uvarint_length64 (x := x) (by have := hx x (List.mem_cons_self ..); omega)
    simp only [flat, List.flatMap_cons, List.length_append, List.length_cons] at h ⊢
    omega
end Go.Proofs.Ybulkafru.lawS1580CRoundTrip
