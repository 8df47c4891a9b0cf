import Derived.Test.YbulkafumRows
import Derived.WalkKit
import Derived.ProofKit
import Derived.OpenShut
import Derived.ShutString
import Derived.ChangeOld
import Derived.Below
import Derived.WalkSpells
import Derived.Laws.IdiomStrings
import Derived.Lib.AppendStr
import Derived.Deep.DeepCutAuto
import Derived.Deep.CutBlock
import Derived.Laws.BitsAllLaws
namespace Go.Proofs.Ybulkafum.lawS1585ABuild
open Go.ChangeShapes Go.WideShapes Go.ChangeAt Go.RowKit
set_option linter.unusedVariables false
theorem hid {p : Prop} (h : p) : Hid p := h
theorem ret_int {k : IntKind} {a b : Int} (h : a = b) : Ending.returned (.int k a) = .returned (.int k b) := by rw [h]

/-- The digit's byte. -/
def hexc (nib : Nat) (up : Bool) : Nat := if nib < 10 then 48 + nib else if up then 55 + nib else 87 + nib

set_option maxRecDepth 100000 in
theorem hexc_or (nib : Nat) (up : Bool) (h : nib < 16) (h10 : ¬ nib < 10) : bits .or .u8 (hexc nib up : Int) 32 = ((87 + nib : Nat) : Int) := by
  have hs : nib = 10 ∨ nib = 11 ∨ nib = 12 ∨ nib = 13 ∨ nib = 14 ∨ nib = 15 := by omega
  rcases hs with rfl | rfl | rfl | rfl | rfl | rfl <;> cases up <;> decide

set_option maxRecDepth 100000 in
set_option maxHeartbeats 400000 in
theorem digit_any (nib : Nat) (up : Bool) (h : nib < 16) (w : World) : Calls Yba.prog 20 #[.int .u8 (hexc nib up)] w fun e w' => e = .returned (.int .u32 nib) ∧ w' = w := by
  by_cases h10 : nib < 10
  · have e : hexc nib up = 48 + nib := by unfold hexc; rw [if_pos h10]
    rw [e]
    go_enter Yba.func20, Yba.ntmps20
    go_wp2
    go_ret
    exact ⟨ret_int (by omega), rfl⟩
  · have hor := hexc_or nib up h h10
    have hb : 65 ≤ hexc nib up ∧ hexc nib up ≤ 102 := by unfold hexc; rw [if_neg h10]; split <;> omega
    obtain ⟨hb1, hb2⟩ := hb
    generalize hexc nib up = c at hor hb1 hb2
    go_enter Yba.func20, Yba.ntmps20
    go_wp2
    go_ret
    exact ⟨ret_int (by omega), rfl⟩

/-- Digit j of V, written with D digits; what the first k of them spell. -/
def nibAt (V D j : Nat) : Nat := V / 16 ^ (D - 1 - j) % 16
def pre (V D k : Nat) : Nat := V / 16 ^ (D - k)

theorem nib_lt (V D j : Nat) : nibAt V D j < 16 := Nat.mod_lt _ (by omega)
theorem pre_zero {V D : Nat} (h : V < 16 ^ D) : pre V D 0 = 0 := Nat.div_eq_of_lt h
theorem pre_all (V D : Nat) : pre V D D = V := by unfold pre; simp
theorem pre_step (V D k : Nat) (h : k < D) : pre V D (k + 1) = pre V D k * 16 + nibAt V D k := by
  unfold pre nibAt
  have e1 : D - k = (D - 1 - k) + 1 := by omega
  have e2 : D - (k + 1) = D - 1 - k := by omega
  rw [e1, e2, Nat.pow_succ, ← Nat.div_div_eq_div_mul]
  omega
theorem pre_le (V D k : Nat) : pre V D k ≤ V := Nat.div_le_self _ _

set_option maxRecDepth 100000 in
set_option maxHeartbeats 400000 in
theorem digits_any (s : ByteArray) (D V : Nat) (up : Nat → Bool) (hD : D ≤ 8) (hV : V < 16 ^ D) (hV2 : V < 4294967296) (hsz : D ≤ s.size) (hs : s.size ≤ 16777216) (hdig : ∀ j (h : j < D), (s[j]'(by omega)).toNat = hexc (nibAt V D j) (up j)) (w : World) :
    Calls Yba.prog 15 #[.string s, .int .u32 16, .int .i64 D] w fun e w' => e = .returned (.tuple #[.int .u32 V, .int .i64 D]) ∧ w' = w := by
  have HV := hid hV
  have HDG := hid hdig
  clear hV hdig
  go_enter Yba.func15, Yba.ntmps15
  go_wp2
  go_loop [8, 9] (fun vv vn => ∃ k : Nat, k ≤ D ∧ vn = .int .i64 k ∧ vv = .int .u32 (pre V D k)) (fun _ vn => D - (intOf vn).toNat)
  case atStart => exact ⟨0, Nat.zero_le _, rfl, by rw [pre_zero HV.out]; rfl⟩
  case round =>
    obtain ⟨k, hk, rfl, rfl⟩ := hrel
    by_cases hkD : k < D
    · have hks : k < s.size := by omega
      have hst := pre_step V D k hkD
      have hle := pre_le V D (k + 1)
      have hc := HDG.out k hkD
      have H20 := digit_any (nibAt V D k) (up k) (nib_lt V D k) w
      rw [← hc] at H20
      have hn := nib_lt V D k
      have HST := hid hst
      rw [hst] at hle
      generalize nibAt V D k = d at H20 hn hle HST
      generalize pre V D k = a at hle HST
      replace H20 := hid H20
      have hks' : (k : Int) < (s.size : Int) := by omega
      clear hst hc
      go_wp2_with (go_at_call 20; refine H20.out.mono ?_; rintro e w' ⟨rfl, rfl⟩)
      go_round
      case rel => exact ⟨k + 1, by omega, by go_num, by rw [HST.out]; go_num⟩
      case measure => simp [intOf]; omega
    · have hke : D = k := by omega
      subst hke
      go_wp2
      go_ret2
      exact ⟨by rw [pre_all]; rfl, rfl⟩

/-- The string is an escape of V in D digits behind the letter L, whatever follows. -/
structure Esc (s : ByteArray) (D V : Nat) (up : Nat → Bool) : Prop where
  size : D + 2 ≤ s.size
  small : s.size ≤ 16777216
  lt : V < 16 ^ D
  lt2 : V < 4294967296
  dig : ∀ j (h : j < D), (s[2 + j]'(by omega)).toNat = hexc (nibAt V D j) (up j)

theorem Esc.digits {s : ByteArray} {D V : Nat} {up : Nat → Bool} (h : Esc s D V up) (hD : D ≤ 8) (w : World) :
    Calls Yba.prog 15 #[.string (s.extract 2 s.size), .int .u32 16, .int .i64 D] w fun e w' => e = .returned (.tuple #[.int .u32 V, .int .i64 D]) ∧ w' = w := by
  have hs := h.size
  have hsm := h.small
  have he : (s.extract 2 s.size).size = s.size - 2 := by simp [ByteArray.size_extract]
  refine digits_any (s.extract 2 s.size) D V up hD h.lt h.lt2 (by omega) (by omega) ?_ w
  intro j hj
  rw [← h.dig j hj, ByteArray.getElem_extract]

set_option maxRecDepth 100000 in
set_option maxHeartbeats 400000 in
theorem escape8 (s : ByteArray) (V : Nat) (up : Nat → Bool) (h : Esc s 8 V up) (hx : s.extract 0 2 = { data := #[92, 85] }) (w : World) :
    Calls Yba.prog 8 #[.string s] w fun e w' => e = .returned (.tuple #[.int .u32 V, .int .i64 10, .nilIface]) ∧ w' = w := by
  have H15 := hid (h.digits (by omega) w)
  have hsz : (2 : Int) ≤ (s.size : Int) := by have := h.size; omega
  clear h
  go_enter Yba.func8, Yba.ntmps8
  go_wp2_with (first | (go_at_call 15; refine H15.out.mono ?_; rintro e w' ⟨rfl, rfl⟩) | go_in)
  go_ret3
  exact ⟨rfl, rfl⟩

set_option maxRecDepth 100000 in
set_option maxHeartbeats 400000 in
theorem escape4 (s : ByteArray) (V : Nat) (up : Nat → Bool) (h : Esc s 4 V up) (hx : s.extract 0 2 = { data := #[92, 117] }) (w : World) :
    Calls Yba.prog 8 #[.string s] w fun e w' => e = .returned (.tuple #[.int .u32 V, .int .i64 6, .nilIface]) ∧ w' = w := by
  have H15 := hid (h.digits (by omega) w)
  have hsz : (2 : Int) ≤ (s.size : Int) := by have := h.size; omega
  clear h
  go_enter Yba.func8, Yba.ntmps8
  go_wp2_with (first | (go_at_call 15; refine H15.out.mono ?_; rintro e w' ⟨rfl, rfl⟩) | go_in)
  go_ret3
  exact ⟨rfl, rfl⟩
end Go.Proofs.Ybulkafum.lawS1585ABuild
