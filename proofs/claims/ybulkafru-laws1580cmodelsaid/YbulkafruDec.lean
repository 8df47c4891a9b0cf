import Derived.Test.YbulkafruDecA
import Derived.LoopN
import Derived.Laws.Closers25b
namespace Go.Proofs.Ybulkafru
open Go.ChangeShapes Go.WideShapes Go.ChangeAt Go.RowKit
set_option linter.unusedVariables false

set_option maxRecDepth 100000 in
set_option maxHeartbeats 1000000 in
theorem cdec_some (g o n c : Nat) (l : List UInt8) (w : World) (hl : l.length = n) (hn : n ≤ 1024) (hcell : ∀ j (hj : j < l.length), w.cell? ⟨g, o + j, none⟩ = some (.int .u8 (l[j]).toNat)) :
    Calls Yba.prog 8 #[.slice (some ⟨g, o, none⟩) n c] w fun e w' => e = .returned (.tuple #[.int .i64 (dec l).1, .int .i64 ((dec l).2 : Nat)]) ∧ w' = w := by
  have HC := hid hcell
  have HL := hid hl
  clear hcell hl
  go_enter Yba.func8, Yba.ntmps8
  go_wp2
  go_loop [4, 5, 6] (fun vx vs vi => ∃ k acc : Nat, vi = .int .i64 k ∧ vs = .int .u64 ((7 * k : Nat) : Int) ∧ vx = .int .u64 acc ∧ k ≤ 10 ∧ k ≤ n ∧ (k ≤ 9 → acc < 2 ^ (7 * k)) ∧ acc < 18446744073709551616 ∧ Lib.uvarintDec l = Lib.uvarintFrom k acc (l.drop k))
    (fun _ _ vi => n - (intOf vi).toNat)
  case atStart => exact ⟨0, 0, rfl, rfl, rfl, by omega, by omega, by intro _; decide, by omega, rfl⟩
  case round =>
    obtain ⟨k, acc, rfl, rfl, rfl, hk10, hkn, hacc, hacc2, hdec⟩ := hrel
    have HD := hid hdec
    have HA := hid hacc
    clear hdec hacc
    by_cases hk : k < n
    · have hkl : k < l.length := by rw [HL.out]; exact hk
      have HK := hid hkl
      have hc := HC.out k hkl
      have hD2 := HD.out
      rw [List.drop_eq_getElem_cons hkl] at hD2
      generalize hbb : l[k]'hkl = b8 at hc hD2
      have HD2 := hid hD2
      have hb256 : b8.toNat < 256 := UInt8.toNat_lt _
      clear hbb hD2 hkl
      by_cases hk10' : k < 10
      · by_cases hb1 : b8.toNat < 128
        · by_cases hk9 : k < 9
          · have hX := or_join acc b8.toNat k (HA.out (by omega)) (by have h1 := sum_lt (HA.out (by omega)) hb1; rw [← pow_step] at h1; have h2 := pow_63 (show k + 1 ≤ 9 by omega); omega) hacc2
            have hXb : (acc + b8.toNat * 2 ^ (7 * k) : Nat) ≤ 9223372036854775807 := by have h1 := sum_lt (HA.out (by omega)) hb1; rw [← pow_step] at h1; have h2 := pow_63 (show k + 1 ≤ 9 by omega); omega
            have hF := (HD2.out).trans (from_stop hk9 hb1)
            generalize (acc + b8.toNat * 2 ^ (7 * k) : Nat) = X at hX hXb hF
            have hd := dec_of hF (by omega)
            have HDD := hid hd
            clear hd hF
            have hXb' : (X : Int) ≤ 9223372036854775807 := by omega
            generalize b8.toNat = b at hX hc hb256 hb1
            go_wp2
            go_ret2
            exact ⟨ret_two (by rw [HDD.out]) (by rw [HDD.out]; simp), rfl⟩
          · have E : Hid (k = 9) := (by omega : k = 9)
            have hk9a : 9 ≤ k := by omega
            have hk9b : k ≤ 9 := by omega
            have hkq : ((k : Int) == 9) = true := by rw [E.out]; rfl
            by_cases hb2 : 1 < b8.toNat
            · have hd := dec_short (l := l) (by rw [HD2.out, E.out, from_over hb2 hb1]; simp)
              have HDD := hid hd
              clear hd
              generalize b8.toNat = b at hc hb256 hb1 hb2
              go_wp2
              go_ret2
              exact ⟨ret_two (by rw [HDD.out]) (by rw [HDD.out]; simp), rfl⟩
            · have hP : 2 ^ (7 * k) = 9223372036854775808 := by rw [E.out]
              have hX := or_join acc b8.toNat k (HA.out (by omega)) (by rw [hP]; omega) hacc2
              have hF : Lib.uvarintDec l = (acc + b8.toNat * 2 ^ (7 * k), (k : Int) + 1) := by rw [HD2.out, hP, E.out]; exact from_nine (by omega)
              clear hP
              generalize (acc + b8.toNat * 2 ^ (7 * k) : Nat) = X at hX hF
              by_cases hXb : (X : Int) ≤ 9223372036854775807
              · have hd := dec_of hF hXb
                have HDD := hid hd
                clear hd hF
                generalize b8.toNat = b at hX hc hb256 hb1 hb2
                go_wp2
                go_ret2
                exact ⟨ret_two (by rw [HDD.out]) (by rw [HDD.out]; simp), rfl⟩
              · have hd := dec_big hF (by omega)
                have HDD := hid hd
                clear hd hF
                generalize b8.toNat = b at hX hc hb256 hb1 hb2
                go_wp2
                go_ret2
                exact ⟨ret_two (by rw [HDD.out]) (by rw [HDD.out]; simp), rfl⟩
        · obtain ⟨Y, hY, hY2, hY3, hF⟩ : ∃ Y : Nat, bits .or .u64 (acc : Int) (IntKind.u64.wrap (IntKind.u64.wrap (bits .and .u8 (b8.toNat : Int) 127) * 2 ^ (7 * k))) = (Y : Int) ∧ (k + 1 ≤ 9 → Y < 2 ^ (7 * (k + 1))) ∧ Y < 18446744073709551616 ∧ Lib.uvarintDec l = Lib.uvarintFrom (k + 1) Y (l.drop (k + 1)) := by
            have ea : IntKind.u64.wrap (bits .and .u8 (b8.toNat : Int) 127) = ((b8.toNat % 128 : Nat) : Int) := by
              rw [u8_and127 _ (by omega) (by omega), IntWalk.u64_in _ ⟨by omega, by omega⟩]; omega
            rw [ea]
            by_cases hk9 : k < 9
            · have h1 := sum_lt (HA.out (by omega)) (show b8.toNat % 128 < 128 by omega)
              rw [← pow_step] at h1
              have h2 := pow_63 (show k + 1 ≤ 9 by omega)
              exact ⟨_, or_join acc (b8.toNat % 128) k (HA.out (by omega)) (by omega) hacc2, fun _ => h1, by omega, HD2.out.trans (from_go (by omega) hb1)⟩
            · have hlo := bits_lo_u64 .or (acc : Int) (IntKind.u64.wrap (((b8.toNat % 128 : Nat) : Int) * 2 ^ (7 * k)))
              have hhi := bits_hi_u64 .or (acc : Int) (IntKind.u64.wrap (((b8.toNat % 128 : Nat) : Int) * 2 ^ (7 * k)))
              refine ⟨_, (Int.toNat_of_nonneg hlo).symm, fun h => by omega, by omega, ?_⟩
              have e9 : k = 9 := by omega
              rw [HD2.out, from_go (by omega) hb1]
              rw [e9]
              exact Lib.uvarintFrom_ten _ _ _
          have HF := hid hF
          have HY2 := hid hY2
          clear hF hY2
          generalize b8.toNat = b at hY hc hb256 hb1
          go_wp2
          go_round
          case rel => exact ⟨k + 1, Y, by go_num, by go_num, rfl, by omega, by omega, HY2.out, hY3, HF.out⟩
          case measure => simp [intOf]; omega
      · have hd := dec_short (l := l) (by rw [HD.out, show k = 10 from by omega]; exact from_ten _ _)
        have HDD := hid hd
        clear hd
        go_wp2
        go_ret2
        exact ⟨ret_two (by rw [HDD.out]) (by rw [HDD.out]; simp), rfl⟩
    · have hd := dec_short (l := l) (by rw [HD.out, List.drop_eq_nil_of_le (by rw [HL.out]; omega)]; simp [Lib.uvarintFrom])
      have HDD := hid hd
      clear hd
      go_wp2
      go_ret2
      exact ⟨ret_two (by rw [HDD.out]) (by rw [HDD.out]; simp), rfl⟩

set_option maxRecDepth 100000 in
set_option maxHeartbeats 400000 in
theorem cdec_empty (ao : Option Addr) (c : Nat) (w : World) :
    Calls Yba.prog 8 #[.slice ao 0 c] w fun e w' => e = .returned (.tuple #[.int .i64 (-1), .int .i64 0]) ∧ w' = w := by
  go_enter Yba.func8, Yba.ntmps8
  go_wp2
  refine wp_loop_rounds 1 ?_
  rw [rounds_succ]
  go_wp2
  go_ret2
  exact ⟨rfl, rfl⟩

theorem cdec_any (V : Nat) (v : Value) (l : List UInt8) (w : World) (h : Sl w V v l) (hn : l.length ≤ 1024) :
    Calls Yba.prog 8 #[v] w fun e w' => e = .returned (.tuple #[.int .i64 (dec l).1, .int .i64 ((dec l).2 : Nat)]) ∧ w' = w := by
  obtain ⟨ao, c, rfl, hc, h⟩ := h
  rcases h with rfl | ⟨g, o, rfl, hg, hcell⟩
  · rw [dec_nil]; exact cdec_empty ao c w
  · exact cdec_some g o l.length c l w rfl hn hcell
end Go.Proofs.Ybulkafru
