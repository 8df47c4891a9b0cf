import Derived.Test.YbulkafruRows
import Derived.Test.YbulkafruShelf
import Derived.WalkKit
import Derived.ProofKit
import Derived.OpenShut
import Derived.ShutString
import Derived.ChangeOld
import Derived.Below
import Derived.WalkSpells
import Derived.Deep.QuietTactic
import Derived.BigQuiet
import Derived.BigRegion
import Derived.Deep.DeepCutAuto
import Derived.Deep.CutBlock
namespace Go.Proofs.Ybulkafru
open Go.ChangeShapes Go.WideShapes Go.ChangeAt Go.RowKit
set_option linter.unusedVariables false

theorem hid {p : Prop} (h : p) : Hid p := h

/-- What 'uvarint' makes of the bytes l: the number (or -1) and how many bytes it took. -/
def dec (l : List UInt8) : Int × Nat :=
  if (Lib.uvarintDec l).2 ≤ 0 ∨ (9223372036854775807 : Int) < (Lib.uvarintDec l).1 then (-1, 0) else ((Lib.uvarintDec l).1, (Lib.uvarintDec l).2.toNat)

theorem from_le : ∀ (l : List UInt8) (i acc : Nat), (Lib.uvarintFrom i acc l).2 ≤ i + l.length
  | [], i, acc => by simp [Lib.uvarintFrom]
  | b :: r, i, acc => by
    have ih := from_le r (i + 1) (acc + b.toNat % 128 * 2 ^ (7 * i))
    unfold Lib.uvarintFrom
    simp only [List.length_cons]
    split
    · simp; omega
    · split
      · split
        · simp; omega
        · simp; omega
      · omega

theorem dec_le (l : List UInt8) : (Lib.uvarintDec l).2 ≤ l.length := by have := from_le l 0 0; simpa [Lib.uvarintDec] using this

theorem dec_bad {l : List UInt8} (h : (Lib.uvarintDec l).2 ≤ 0 ∨ (9223372036854775807 : Int) < (Lib.uvarintDec l).1) : dec l = (-1, 0) := by unfold dec; rw [if_pos h]
theorem dec_good {l : List UInt8} (h : ¬ ((Lib.uvarintDec l).2 ≤ 0 ∨ (9223372036854775807 : Int) < (Lib.uvarintDec l).1)) : dec l = (((Lib.uvarintDec l).1 : Int), (Lib.uvarintDec l).2.toNat) := by unfold dec; rw [if_neg h]
theorem dec_nil : dec [] = (-1, 0) := dec_bad (.inl (by simp [Lib.uvarintDec, Lib.uvarintFrom]))
theorem dec_used (l : List UInt8) : (dec l).2 ≤ l.length := by
  by_cases h : (Lib.uvarintDec l).2 ≤ 0 ∨ (9223372036854775807 : Int) < (Lib.uvarintDec l).1
  · rw [dec_bad h]; simp
  · rw [dec_good h]; have := dec_le l; simp only; omega
theorem dec_neg {l : List UInt8} (h : (dec l).1 < 0) : dec l = (-1, 0) := by
  by_cases h' : (Lib.uvarintDec l).2 ≤ 0 ∨ (9223372036854775807 : Int) < (Lib.uvarintDec l).1
  · exact dec_bad h'
  · rw [dec_good h'] at h; simp only at h; omega
theorem dec_range (l : List UInt8) : -1 ≤ (dec l).1 ∧ (dec l).1 ≤ 9223372036854775807 := by
  by_cases h : (Lib.uvarintDec l).2 ≤ 0 ∨ (9223372036854775807 : Int) < (Lib.uvarintDec l).1
  · rw [dec_bad h]; simp
  · rw [dec_good h]; simp only; omega

/-- The value v is a slice whose bytes are l; they do not lie in block V. -/
def Sl (w : World) (V : Nat) (v : Value) (l : List UInt8) : Prop :=
  ∃ ao c, v = .slice ao l.length c ∧ l.length ≤ c ∧ (l = [] ∨ ∃ g o, ao = some ⟨g, o, none⟩ ∧ g ≠ V ∧ ∀ j (hj : j < l.length), w.cell? ⟨g, o + j, none⟩ = some (.int .u8 (l[j]).toNat))

theorem Sl.nil (w : World) (V : Nat) (ao : Option Addr) (c : Nat) : Sl w V (.slice ao 0 c) [] := ⟨ao, c, rfl, Nat.zero_le _, .inl rfl⟩

theorem Sl.drop {w : World} {V g o n c : Nat} {l : List UInt8} (hg : g ≠ V) (hl : l.length = n) (hc : n ≤ c) (hcell : ∀ j (hj : j < l.length), w.cell? ⟨g, o + j, none⟩ = some (.int .u8 (l[j]).toNat)) (m : Nat) (hm : m ≤ n) (ao : Option Addr) (ha : m ≠ c → ao = some ⟨g, o + m, none⟩) :
    Sl w V (.slice ao (n - m) (c - m)) (l.drop m) := by
  refine ⟨ao, c - m, by rw [List.length_drop, hl], by rw [List.length_drop]; omega, ?_⟩
  by_cases e : m = n
  · left; rw [List.drop_eq_nil_iff]; omega
  · right
    refine ⟨g, o + m, ha (by omega), hg, fun j hj => ?_⟩
    rw [List.length_drop] at hj
    rw [List.getElem_drop, ← hcell (m + j) (by omega)]
    congr 2
    omega

theorem Sl.other {w w' : World} {V : Nat} {v : Value} {l : List UInt8} (h : Sl w V v l) (hw : ∀ b o, b ≠ V → w'.cell? ⟨b, o, none⟩ = w.cell? ⟨b, o, none⟩) : Sl w' V v l := by
  obtain ⟨ao, c, hv, hc, h⟩ := h
  refine ⟨ao, c, hv, hc, ?_⟩
  rcases h with h | ⟨g, o, ha, hg, hcell⟩
  · exact .inl h
  · exact .inr ⟨g, o, ha, hg, fun j hj => (hw g (o + j) hg).trans (hcell j hj)⟩

set_option maxRecDepth 100000 in
set_option maxHeartbeats 400000 in
theorem uvarint_bad (g o n c : Nat) (l : List UInt8) (w : World) (hl : l.length = n) (hcell : ∀ j (hj : j < l.length), w.cell? ⟨g, o + j, none⟩ = some (.int .u8 (l[j]).toNat))
    (hbad : (Lib.uvarintDec l).2 ≤ 0 ∨ (9223372036854775807 : Int) < (Lib.uvarintDec l).1) :
    Calls Yba.prog 10 #[.slice (some ⟨g, o, none⟩) n c] w fun e w' => e = .returned (.tuple #[.int .i64 (-1), .slice (some ⟨g, o, none⟩) n c]) ∧ w' = w := by
  have HC := hid hcell
  have H := hid (Yba.binary_Uvarint g o n c l w hl hcell)
  clear hcell hl
  generalize (Lib.uvarintDec l).1 = p at H hbad
  generalize (Lib.uvarintDec l).2 = r at H hbad
  go_enter Yba.func10, Yba.ntmps10
  by_cases hr : r ≤ 0
  · clear hbad
    go_wp2_with (go_at_call 11; refine H.out.mono ?_; rintro e w' ⟨rfl, rfl⟩)
    go_ret2
    exact ⟨rfl, rfl⟩
  · have hp : (9223372036854775807 : Int) < p := by omega
    clear hbad
    go_wp2_with (go_at_call 11; refine H.out.mono ?_; rintro e w' ⟨rfl, rfl⟩)
    go_ret2
    exact ⟨rfl, rfl⟩

set_option maxRecDepth 100000 in
set_option maxHeartbeats 400000 in
theorem uvarint_good (g o n c : Nat) (l : List UInt8) (w : World) (hl : l.length = n) (hc : n ≤ c) (hcell : ∀ j (hj : j < l.length), w.cell? ⟨g, o + j, none⟩ = some (.int .u8 (l[j]).toNat))
    (p m : Nat) (hp : (Lib.uvarintDec l).1 = p) (hm : (Lib.uvarintDec l).2 = (m : Int)) (hm0 : 0 < m) (hmn : m ≤ n) (hpl : (p : Int) ≤ 9223372036854775807) :
    Calls Yba.prog 10 #[.slice (some ⟨g, o, none⟩) n c] w fun e w' => ∃ ao, (m ≠ c → ao = some ⟨g, o + m, none⟩) ∧ e = .returned (.tuple #[.int .i64 p, .slice ao (n - m) (c - m)]) ∧ w' = w.drewN 1 := by
  have HC := hid hcell
  have H := Yba.binary_Uvarint g o n c l w hl hcell
  rw [hp, hm] at H
  replace H := hid H
  clear hcell hl hp hm
  have hmn' : (m : Int) ≤ (n : Int) := by omega
  have hm0' : ¬ (m : Int) ≤ 0 := by omega
  have hpw : IntKind.i64.wrap (p : Int) = p := IntWalk.i64_in _ ⟨by omega, by omega⟩
  go_enter Yba.func10, Yba.ntmps10
  go_wp2_with (go_at_call 11; refine H.out.mono ?_; rintro e w' ⟨rfl, rfl⟩)
  go_region
  go_wp2
  · go_ret2
    exact ⟨⟨_, rfl⟩, rfl⟩
  · go_ret2
    exact ⟨_, fun _ => rfl, rfl, rfl⟩

set_option maxRecDepth 100000 in
set_option maxHeartbeats 400000 in
theorem uvarint_empty (ao : Option Addr) (c : Nat) (w : World) :
    Calls Yba.prog 10 #[.slice ao 0 c] w fun e w' => e = .returned (.tuple #[.int .i64 (-1), .slice ao 0 c]) ∧ w' = w := by
  have H0 := Yba.binary_Uvarint_empty ao c w
  have e : Lib.uvarintDec [] = (0, 0) := rfl
  rw [e] at H0
  have H := hid H0
  clear H0 e
  go_enter Yba.func10, Yba.ntmps10
  go_wp2_with (go_at_call 11; refine H.out.mono ?_; rintro e w' ⟨rfl, rfl⟩)
  go_ret2
  exact ⟨rfl, rfl⟩

theorem uvarint_any (V : Nat) (v : Value) (l : List UInt8) (w : World) (h : Sl w V v l) :
    Calls Yba.prog 10 #[v] w fun e w' => ∃ v' nq, e = .returned (.tuple #[.int .i64 (dec l).1, v']) ∧ Sl w V v' (l.drop (dec l).2) ∧ w' = w.drewN nq := by
  obtain ⟨ao, c, rfl, hc, h⟩ := h
  rcases h with rfl | ⟨g, o, rfl, hg, hcell⟩
  · refine (uvarint_empty ao c w).mono ?_
    rintro e w' ⟨rfl, rfl⟩
    rw [dec_nil]
    exact ⟨_, 0, rfl, Sl.nil _ _ _ _, rfl⟩
  · by_cases hb : (Lib.uvarintDec l).2 ≤ 0 ∨ (9223372036854775807 : Int) < (Lib.uvarintDec l).1
    · refine (uvarint_bad g o l.length c l w rfl hcell hb).mono ?_
      rintro e w' ⟨rfl, rfl⟩
      rw [dec_bad hb]
      exact ⟨_, 0, rfl, ⟨_, _, rfl, hc, .inr ⟨g, o, rfl, hg, hcell⟩⟩, rfl⟩
    · have hle := dec_le l
      refine (uvarint_good g o l.length c l w rfl hc hcell (Lib.uvarintDec l).1 (Lib.uvarintDec l).2.toNat rfl (by omega) (by omega) (by omega) (by omega)).mono ?_
      rintro e w' ⟨ao, ha, rfl, rfl⟩
      rw [dec_good hb]
      exact ⟨_, 1, rfl, Sl.drop hg rfl hc hcell _ (by omega) ao ha, rfl⟩

/-! ### Several in a row -/
/-- Where the i-th number starts, and what it is (-1: none). -/
def pos (l : List UInt8) : Nat → Nat
  | 0 => 0
  | i + 1 => pos l i + (dec (l.drop (pos l i))).2
def val (l : List UInt8) (i : Nat) : Int := (dec (l.drop (pos l i))).1
def allok (l : List UInt8) : Nat → Bool
  | 0 => true
  | i + 1 => allok l i && decide (0 ≤ val l i)
/-- What v holds at i behind the call; what the call answers. -/
def cellv (l : List UInt8) (i : Nat) : Int := if allok l i = true then val l i else 0
def okv (l : List UInt8) (k : Nat) : Bool := allok l k && decide (pos l k = l.length)

theorem pos_le (l : List UInt8) : ∀ i, pos l i ≤ l.length
  | 0 => Nat.zero_le _
  | i + 1 => by
    have ih := pos_le l i
    have := dec_used (l.drop (pos l i))
    rw [List.length_drop] at this
    unfold pos
    omega
theorem allok_mono (l : List UInt8) {i j : Nat} (h : allok l i = true) (hj : j ≤ i) : allok l j = true := by
  induction i with
  | zero => obtain rfl : j = 0 := by omega
            exact h
  | succ i ih =>
    by_cases e : j = i + 1
    · subst e; exact h
    · unfold allok at h
      simp only [Bool.and_eq_true] at h
      exact ih h.1 (by omega)
theorem allok_val {l : List UInt8} {i j : Nat} (h : allok l i = true) (hj : j < i) : 0 ≤ val l j := by
  have := allok_mono l h (show j + 1 ≤ i by omega)
  unfold allok at this
  simp only [Bool.and_eq_true, decide_eq_true_eq] at this
  exact this.2
theorem allok_succ {l : List UInt8} {i : Nat} (h : allok l i = true) (h' : 0 ≤ val l i) : allok l (i + 1) = true := by unfold allok; simp [h, h']
theorem allok_stop {l : List UInt8} {i k : Nat} (h' : val l i < 0) (hk : i < k) : allok l k = false := by
  cases hh : allok l k with
  | false => rfl
  | true => have := allok_val hh hk; omega
theorem cellv_lt {l : List UInt8} {i j : Nat} (h : allok l i = true) (hj : j ≤ i) : cellv l j = val l j := by unfold cellv; rw [if_pos (allok_mono l h hj)]
theorem cellv_past {l : List UInt8} {i j : Nat} (h' : val l i < 0) (hj : i < j) : cellv l j = 0 := by unfold cellv; rw [allok_stop h' hj]; rfl

/-- Of the world w nothing but block V has turned. -/
def Only (V : Nat) (w w' : World) : Prop := (∀ b o, b ≠ V → w'.cell? ⟨b, o, none⟩ = w.cell? ⟨b, o, none⟩) ∧ (∀ a, w'.frozen? a = w.frozen? a) ∧ Below V w w' ∧ w'.heap.size = w.heap.size
theorem Only.refl (V : Nat) (w : World) : Only V w w := ⟨fun _ _ _ => rfl, fun _ => rfl, Below.refl _ _, rfl⟩
theorem Only.drewN {V : Nat} {w w' : World} (h : Only V w w') (n : Nat) : Only V w (w'.drewN n) := ⟨h.1, h.2.1, h.2.2.1.trans ⟨rfl, rfl, rfl, Nat.le_refl _, fun _ _ => rfl⟩, h.2.2.2⟩
theorem Only.drew {V : Nat} {w w' : World} (h : Only V w w') : Only V w w'.drew := ⟨h.1, h.2.1, h.2.2.1.drew, h.2.2.2⟩
theorem Only.setCell {V : Nat} {w w' : World} (h : Only V w w') (o : Nat) (u : Value) : Only V w (w'.setCell ⟨V, o, none⟩ u) :=
  ⟨fun b o' hb => (World.cell?_setCell_other _ _ _ _ (by simp; try omega)).trans (h.1 b o' hb), fun a => (World.frozen?_setCell _ _ _ _).trans (h.2.1 a), h.2.2.1.setCell (Nat.le_refl V) _, by simpa using h.2.2.2⟩

theorem set_cells {wr : World} {l : List UInt8} {V k i : Nat} (h : ∀ j, j < k → wr.cell? ⟨V, j, none⟩ = some (.int .i64 (if j < i then val l j else 0))) (hi : i < k) (nq : Nat) :
    ∀ j, j < k → ((wr.drewN nq).setCell ⟨V, i, none⟩ (.int .i64 (val l i))).cell? ⟨V, j, none⟩ = some (.int .i64 (if j < i + 1 then val l j else 0)) := by
  intro j hj
  by_cases e : j = i
  · subst e
    rw [if_pos (by omega)]
    exact World.cell?_setCell_same _ _ _ (h j hj)
  · rw [World.cell?_setCell_other _ _ _ _ (by simp; try omega)]
    have := h j hj
    by_cases e2 : j < i
    · rw [if_pos e2] at this; rw [if_pos (by omega)]; exact this
    · rw [if_neg e2] at this; rw [if_neg (by omega)]; exact this

set_option maxRecDepth 100000 in
set_option maxHeartbeats 400000 in
theorem uvarints_any (w : World) (b : Value) (l : List UInt8) (V k : Nat) (hk : k ≤ 4096) (hb : Sl w V b l) (hz : ∀ j, j < k → w.cell? ⟨V, j, none⟩ = some (.int .i64 0)) (hf : ∀ o, w.frozen? ⟨V, o, none⟩ = false) :
    Calls Yba.prog 7 #[b, .slice (some ⟨V, 0, none⟩) k k] w fun e w' => e = .returned (.bool (okv l k)) ∧ (∀ j, j < k → w'.cell? ⟨V, j, none⟩ = some (.int .i64 (cellv l j))) ∧ Only V w w' := by
  have HB := hid hb
  have HZ := hid hz
  have HF := hid hf
  clear hb hz hf
  go_enter Yba.func7, Yba.ntmps7
  go_wp2
  go_loopw [0, 8] (fun vb vi wr => ∃ i : Nat, i ≤ k ∧ vi = .int .i64 i ∧ allok l i = true ∧ Sl wr V vb (l.drop (pos l i)) ∧ (∀ j, j < k → wr.cell? ⟨V, j, none⟩ = some (.int .i64 (if j < i then val l j else 0))) ∧ Only V w wr) (fun _ vi _ => k - (intOf vi).toNat)
  case atStart => exact ⟨0, Nat.zero_le _, rfl, rfl, HB.out, by simpa using HZ.out, Only.refl _ _⟩
  case round =>
    obtain ⟨i, hi, rfl, hall, hsl, hcells, honly⟩ := hrel
    have HALL := hid hall
    have HC := hid hcells
    have HO := hid honly
    by_cases hik : i < k
    · have H := uvarint_any V u0 _ wr hsl
      have hci := hcells i hik
      have hfi : wr.frozen? ⟨V, i, none⟩ = false := (honly.2.1 _).trans (HF.out i)
      have HS := hid hsl
      clear hall hcells honly hsl
      obtain ⟨x, hx⟩ : ∃ x, x = val l i := ⟨_, rfl⟩
      rw [show (dec (l.drop (pos l i))).1 = x from hx.symm] at H
      have HX := hid hx
      replace H := hid H
      clear hx
      by_cases hneg : x < 0
      · go_wp2_with (go_at_call 10; refine H.out.mono ?_; rintro e w' ⟨v', nq, rfl, hsl', rfl⟩; replace hsl' := hid hsl')
        go_ret
        have hv : val l i < 0 := by rw [← HX.out]; exact hneg
        refine ⟨?_, fun j hj => ?_, (HO.out.drewN nq).setCell i _⟩
        · have e : okv l k = false := by unfold okv; rw [allok_stop hv hik]; rfl
          rw [e]
          rfl
        · rw [HX.out, set_cells HC.out hik nq j hj]
          by_cases e : j < i + 1
          · rw [if_pos e, cellv_lt HALL.out (by omega)]
          · rw [if_neg e, cellv_past hv (by omega)]
      · go_wp2_with (go_at_call 10; refine H.out.mono ?_; rintro e w' ⟨v', nq, rfl, hsl', rfl⟩; replace hsl' := hid hsl')
        go_roundw
        case rel =>
          have hv : 0 ≤ val l i := by rw [← HX.out]; exact hneg
          rw [HX.out]
          refine ⟨i + 1, by omega, by go_num, allok_succ HALL.out hv, ?_, set_cells HC.out hik nq, (HO.out.drewN nq).setCell i _⟩
          have e : l.drop (pos l (i + 1)) = List.drop (dec (List.drop (pos l i) l)).snd (List.drop (pos l i) l) := by
            rw [List.drop_drop]; rfl
          rw [e]
          exact hsl'.out.other (((Only.refl V wr).drewN nq).setCell i _).1
        case measure => simp [intOf]; omega
    · obtain ⟨ao, c, rfl, hc, _⟩ := hsl
      clear hall hcells honly
      generalize hm : (l.drop (pos l i)).length = m
      replace hm := hid hm
      go_wp2
      go_ret
      have hki : i = k := by omega
      subst hki
      have hlen := hm.out
      rw [List.length_drop] at hlen
      have hpl := pos_le l i
      refine ⟨?_, fun j hj => ?_, HO.out⟩
      · have e : okv l i = ((m : Int) == 0) := by
          unfold okv
          rw [HALL.out, Bool.true_and, Bool.eq_iff_iff]
          simp
          omega
        rw [e]
        rfl
      · rw [HC.out j hj, if_pos hj, cellv_lt HALL.out (by omega)]
end Go.Proofs.Ybulkafru
