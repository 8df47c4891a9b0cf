import Derived.Test.YbulkaftkRows
import Derived.WalkKit
import Derived.ProofKit
import Derived.OpenShut
import Derived.ShutString
import Derived.ChangeOld
import Derived.Below
import Derived.WalkSpells
import Derived.Laws.BitsAllLaws
import Derived.Deep.CutBlock
namespace Go.Proofs.Ybulkaftk
open Go.ChangeShapes Go.WideShapes Go.ChangeAt Go.RowKit
set_option linter.unusedVariables false
theorem hid {p : Prop} (h : p) : Hid p := h
theorem ret_int {k : IntKind} {a b : Int} (h : a = b) : Ending.returned (.int k a) = .returned (.int k b) := by rw [h]

/-- 2^n is the greatest power of two that is no more than x; 0 for x = 0. -/
def IsLog (x n : Nat) : Prop := (x ≤ 1 ∧ n = 0) ∨ (2 ^ n ≤ x ∧ x < 2 ^ (n + 1))

theorem IsLog.lt {x n : Nat} (h : IsLog x n) : x < 2 ^ (n + 1) := by
  rcases h with ⟨h, rfl⟩ | h
  · omega
  · exact h.2
theorem IsLog.go {x n k : Nat} (h : IsLog x n) (hk : k < n) : (1 : Int) < (x : Int) / 2 ^ k := by
  rcases h with ⟨h, rfl⟩ | h
  · omega
  · have h1 : 2 ^ (k + 1) ≤ x := Nat.le_trans (Nat.pow_le_pow_right (by omega) (by omega)) h.1
    rw [Nat.pow_succ] at h1
    have h2 : 2 ≤ x / 2 ^ k := (Nat.le_div_iff_mul_le (Nat.two_pow_pos k)).2 (by rw [Nat.mul_comm]; exact h1)
    have e : ((x : Int) / 2 ^ k) = ((x / 2 ^ k : Nat) : Int) := by simp
    rw [e]; omega
theorem IsLog.stop {x n : Nat} (h : IsLog x n) : (x : Int) / 2 ^ n ≤ 1 := by
  have h1 := h.lt
  rw [Nat.pow_succ] at h1
  have h2 : x / 2 ^ n < 2 := (Nat.div_lt_iff_lt_mul (Nat.two_pow_pos n)).2 (by rw [Nat.mul_comm]; exact h1)
  have e : ((x : Int) / 2 ^ n) = ((x / 2 ^ n : Nat) : Int) := by simp
  rw [e]; omega

/-- One round of log2's second loop, and i of them. -/
def stepF (p : Nat × Nat) : Nat × Nat := if 4294967296 ≤ p.1 * p.1 / 2147483648 then (p.1 * p.1 / 2147483648 / 2, 2 * p.2 + 1) else (p.1 * p.1 / 2147483648, 2 * p.2)
def iterF (y0 : Nat) : Nat → Nat × Nat
  | 0 => (y0, 0)
  | i + 1 => stepF (iterF y0 i)

theorem sq_lt {y : Nat} (h : y < 4294967296) : y * y < 18446744073709551616 := by
  have h1 : y * y ≤ 4294967295 * 4294967295 := Nat.mul_le_mul (by omega) (by omega)
  omega
theorem stepF_lt {p : Nat × Nat} (h : p.1 < 4294967296) : (stepF p).1 < 4294967296 := by
  have h1 := sq_lt h
  unfold stepF
  split
  · simp only; omega
  · simp only; omega
theorem iterF_lt {y0 : Nat} (h : y0 < 4294967296) : ∀ i, (iterF y0 i).1 < 4294967296
  | 0 => h
  | i + 1 => stepF_lt (iterF_lt h i)
theorem iterF_f (y0 : Nat) : ∀ i, (iterF y0 i).2 < 2 ^ i
  | 0 => by simp [iterF]
  | i + 1 => by
    have ih := iterF_f y0 i
    rw [Nat.pow_succ]
    show (stepF (iterF y0 i)).2 < _
    unfold stepF
    split
    · simp only; omega
    · simp only; omega

theorem stepF_hi {y f S q : Nat} (hS : y * y = S) (hq : q = S / 2147483648) (h : 4294967296 ≤ q) : stepF (y, f) = (q / 2, 2 * f + 1) := by
  unfold stepF; simp only; rw [hS, ← hq, if_pos h]
theorem stepF_lo {y f S q : Nat} (hS : y * y = S) (hq : q = S / 2147483648) (h : ¬ 4294967296 ≤ q) : stepF (y, f) = (q, 2 * f) := by
  unfold stepF; simp only; rw [hS, ← hq, if_neg h]

/-! ### The plain law -/
/-- The first bit that is drawn stays the top bit. -/
theorem top_hi (y0 : Nat) (h : 4294967296 ≤ y0 * y0 / 2147483648) : ∀ i, 2 ^ i ≤ (iterF y0 (i + 1)).2
  | 0 => by
    show 1 ≤ (stepF (y0, 0)).2
    unfold stepF; simp only; rw [if_pos h]; simp
  | i + 1 => by
    have ih := top_hi y0 h i
    rw [Nat.pow_succ]
    show _ ≤ (stepF (iterF y0 (i + 1))).2
    unfold stepF
    split
    · simp only; omega
    · simp only; omega
theorem top_lo (y0 : Nat) (h : ¬ 4294967296 ≤ y0 * y0 / 2147483648) : ∀ i, (iterF y0 (i + 1)).2 < 2 ^ i
  | 0 => by
    show (stepF (y0, 0)).2 < 1
    unfold stepF; simp only; rw [if_neg h]; simp
  | i + 1 => by
    have ih := top_lo y0 h i
    rw [Nat.pow_succ]
    show (stepF (iterF y0 (i + 1))).2 < _
    unfold stepF
    split
    · simp only; omega
    · simp only; omega
theorem flat_pow (y0 : Nat) (h : y0 = 0 ∨ y0 = 2147483648) : ∀ i, iterF y0 i = (y0, 0)
  | 0 => rfl
  | i + 1 => by
    show stepF (iterF y0 i) = _
    rw [flat_pow y0 h i]
    rcases h with rfl | rfl <;> rfl

theorem top_iff {x n : Nat} (hn : n ≤ 31) (hx : IsLog x n) : 524288 ≤ (iterF (x * 2 ^ (31 - n)) 20).2 ↔ 2 ^ (2 * n + 1) ≤ x * x := by
  have key : 4294967296 ≤ x * 2 ^ (31 - n) * (x * 2 ^ (31 - n)) / 2147483648 ↔ 2 ^ (2 * n + 1) ≤ x * x := by
    rw [Nat.le_div_iff_mul_le (by omega)]
    have e1 : x * 2 ^ (31 - n) * (x * 2 ^ (31 - n)) = x * x * 2 ^ (62 - 2 * n) := by
      rw [show 62 - 2 * n = (31 - n) + (31 - n) by omega, Nat.pow_add]
      simp only [Nat.mul_assoc, Nat.mul_left_comm]
    have e2 : 4294967296 * 2147483648 = 2 ^ (2 * n + 1) * 2 ^ (62 - 2 * n) := by
      rw [← Nat.pow_add, show 2 * n + 1 + (62 - 2 * n) = 63 by omega]
    rw [e1, e2]
    exact Nat.mul_le_mul_right_iff (Nat.two_pow_pos _)
  by_cases h : 4294967296 ≤ x * 2 ^ (31 - n) * (x * 2 ^ (31 - n)) / 2147483648
  · have := top_hi _ h 19
    simp only [key.1 h, iff_true]
    exact this
  · have := top_lo _ h 19
    have h2 : ¬ 2 ^ (2 * n + 1) ≤ x * x := fun c => h (key.2 c)
    simp only [h2, iff_false]
    have e : (2 : Nat) ^ 19 = 524288 := by decide
    rw [e] at this
    exact Nat.not_le.2 this

theorem frac_pow {x n : Nat} (hn : n ≤ 31) (hx : IsLog x n) (h : x = 0 ∨ x = 2 ^ n) : (iterF (x * 2 ^ (31 - n)) 20).2 = 0 := by
  rw [flat_pow]
  rcases h with rfl | rfl
  · left; simp
  · right; rw [← Nat.pow_add, show n + (31 - n) = 31 by omega]

/-- x & (x-1) is 0 at powers of two alone. -/
theorem and_pred {x n : Nat} (hx : IsLog x n) (h0 : 0 < x) (h : x &&& (x - 1) = 0) : x = 2 ^ n := by
  rcases hx with ⟨h1, rfl⟩ | ⟨h1, h2⟩
  · simp; omega
  · by_cases e : x = 2 ^ n
    · exact e
    · exfalso
      have hb : (x &&& (x - 1)).testBit n = true := by
        rw [Nat.testBit_and]
        have t : ∀ v, 2 ^ n ≤ v → v < 2 ^ (n + 1) → v.testBit n = true := by
          intro v hv hv2
          rw [Nat.testBit_eq_decide_div_mod_eq]
          rw [Nat.pow_succ] at hv2
          have hd : v / 2 ^ n = 1 := by
            have a1 : 1 ≤ v / 2 ^ n := (Nat.le_div_iff_mul_le (Nat.two_pow_pos n)).2 (by omega)
            have a2 : v / 2 ^ n < 2 := (Nat.div_lt_iff_lt_mul (Nat.two_pow_pos n)).2 (by omega)
            omega
          rw [hd]; rfl
        rw [t x h1 h2, t (x - 1) (by omega) (by omega)]; rfl
      rw [h] at hb
      simp at hb

theorem or_one (f : Nat) (h : f < 1048576) : bits .or .i64 ((f : Int) * 2) 1 = ((2 * f + 1 : Nat) : Int) := by
  have e : ((f : Int) * 2) = ((2 * f : Nat) : Int) := by omega
  have e1 : (1 : Int) = ((1 : Nat) : Int) := rfl
  rw [e, e1, (bits_nat .i64 62 (by decide) (fun n h0 h1 => by rw [IntKind.wrap_i64]; omega) (2 * f) 1 (by omega) (by decide)).2]
  congr 1
  have := Nat.two_pow_add_eq_or_of_lt (i := 1) (b := 1) (by decide) f
  simpa using this.symm

set_option maxRecDepth 100000 in
set_option maxHeartbeats 400000 in
theorem bn_any (x n : Nat) (hx : x < 4294967296) (hn : IsLog x n) (hn31 : n ≤ 31) (w : World) :
    Calls Yba.prog 6 #[.int .u64 x] w fun e w' => e = .returned (.int .i64 n) ∧ w' = w := by
  have HN := hid hn
  clear hn
  go_enter Yba.func6, Yba.ntmps6
  go_wp2
  go_loop [3] (fun vk => ∃ k : Nat, k ≤ n ∧ vk = .int .i64 k) (fun vk => n - (intOf vk).toNat)
  case atStart => exact ⟨0, Nat.zero_le _, rfl⟩
  case round =>
    obtain ⟨k, hk, rfl⟩ := hrel
    by_cases hkn : k < n
    · have hgo := HN.out.go hkn
      go_wp2
      go_round
      case rel => exact ⟨k + 1, by omega, by go_num⟩
      case measure => simp [intOf]; omega
    · obtain rfl : k = n := by omega
      have hst := HN.out.stop
      go_wp2
      go_ret
      exact ⟨rfl, rfl⟩

set_option maxRecDepth 100000 in
set_option maxHeartbeats 400000 in
theorem log2_any (x n : Nat) (hx : x < 4294967296) (hn : IsLog x n) (hn31 : n ≤ 31) (w : World) :
    Calls Yba.prog 7 #[.int .u64 x] w fun e w' => e = .returned (.int .i64 ((n * 1048576 + (iterF (x * 2 ^ (31 - n)) 20).2 : Nat) : Int)) ∧ w' = w := by
  have HN := hid hn
  clear hn
  go_enter Yba.func7, Yba.ntmps7
  go_wp2
  go_loop [3] (fun vk => ∃ k : Nat, k ≤ n ∧ vk = .int .i64 k) (fun vk => n - (intOf vk).toNat)
  case atStart => exact ⟨0, Nat.zero_le _, rfl⟩
  case round =>
    obtain ⟨k, hk, rfl⟩ := hrel
    by_cases hkn : k < n
    · have hgo := HN.out.go hkn
      go_wp2
      go_round
      case rel => exact ⟨k + 1, by omega, by go_num⟩
      case measure => simp [intOf]; omega
    · obtain rfl : k = n := by omega
      have hst := HN.out.stop
      have hy0 : x * 2 ^ (31 - k) < 4294967296 := by
        have h1 := Nat.mul_lt_mul_of_pos_right HN.out.lt (Nat.two_pow_pos (31 - k))
        rw [← Nat.pow_add, show k + 1 + (31 - k) = 32 by omega] at h1
        simpa using h1
      have hyw : IntKind.u64.wrap ((x : Int) * 2 ^ (31 - k)) = ((x * 2 ^ (31 - k) : Nat) : Int) := by
        have e : ((x : Int) * 2 ^ (31 - k)) = ((x * 2 ^ (31 - k) : Nat) : Int) := by simp
        rw [e]
        exact IntWalk.u64_in _ ⟨by omega, by omega⟩
      generalize hY : x * 2 ^ (31 - k) = y0 at hy0 hyw
      have HYE := hid hY
      clear hY
      have HY0 := hid hy0
      clear hy0
      go_wp2
      go_loop [4, 5, 6] (fun vy vf vi => ∃ i : Nat, i ≤ 20 ∧ vi = .int .i64 i ∧ vy = .int .u64 (iterF y0 i).1 ∧ vf = .int .i64 (iterF y0 i).2) (fun _ _ vi => 20 - (intOf vi).toNat)
      case atStart => exact ⟨0, by omega, rfl, rfl, rfl⟩
      case round =>
        obtain ⟨i, hi, rfl, rfl, rfl⟩ := hrel
        have hf1 := iterF_f y0 i
        have hf2 : 2 ^ i ≤ 2 ^ 20 := Nat.pow_le_pow_right (by omega) hi
        by_cases hi20 : i < 20
        · have hf3 : 2 ^ i ≤ 2 ^ 19 := Nat.pow_le_pow_right (by omega) (by omega)
          have hy1 := iterF_lt HY0.out i
          have e1 : iterF y0 (i + 1) = stepF (iterF y0 i) := rfl
          generalize hp : iterF y0 i = p at hf1 hy1 e1
          obtain ⟨y, f⟩ := p
          simp only at hf1 hy1
          have hsq := sq_lt hy1
          have hf : f < 524288 := by simp at hf3; omega
          have hmul : IntKind.u64.wrap ((y : Int) * (y : Int)) = ((y * y : Nat) : Int) := by
            have e : ((y : Int) * (y : Int)) = ((y * y : Nat) : Int) := by simp
            rw [e]; exact IntWalk.u64_in _ ⟨by omega, by omega⟩
          have E1 := hid e1
          generalize hS : y * y = S at hmul hsq
          have HS := hid hS
          have HSQ := hid hsq
          have HY1 := hid hy1
          clear e1 hp hf1 hf2 hf3 hS hsq hy1
          obtain ⟨q, hq⟩ : ∃ q : Nat, (S : Int) / 2147483648 = q := ⟨S / 2147483648, by omega⟩
          by_cases hb : (4294967296 : Int) ≤ q
          · have hor := or_one f (by omega)
            go_wp2
            go_round
            case rel => exact ⟨i + 1, by omega, by go_num, by rw [E1.out, stepF_hi HS.out (q := q) (by omega) (by omega)]; go_num, by rw [E1.out, stepF_hi HS.out (q := q) (by omega) (by omega)]; go_num⟩
            case measure => simp [intOf]; omega
          · go_wp2
            go_round
            case rel => exact ⟨i + 1, by omega, by go_num, by rw [E1.out, stepF_lo HS.out (q := q) (by omega) (by omega)], by rw [E1.out, stepF_lo HS.out (q := q) (by omega) (by omega)]; go_num⟩
            case measure => simp [intOf]; omega
        · obtain rfl : i = 20 := by omega
          generalize hfe : (iterF y0 20).2 = f at hf1
          have HFE := hid hfe
          generalize (iterF y0 20).1 = y
          have hf : f < 1048576 := hf1
          clear hf1 hf2 hfe
          go_wp2
          go_ret
          refine ⟨ret_int ?_, rfl⟩
          rw [HYE.out, HFE.out]
          omega
end Go.Proofs.Ybulkaftk
