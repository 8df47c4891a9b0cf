import Derived.Test.YbulkafruRound
namespace Go.Proofs.Ybulkafru.lawS1580CRoundTrip
open Go.ChangeShapes Go.WideShapes Go.ChangeAt Go.RowKit
open Go.ChangeMaps (open_string shut_string)
set_option linter.unusedVariables false

def nn (z : Int) : Nat := if z < 0 then (-z - 1).toNat else z.toNat

/-- The state of the first loop: 'vals' in block B, the bytes so far owned by vb. -/
def R1 (w wr : World) (ys : List Nat) (vb : Value) (i : Nat) : Prop :=
  wr.ownsRow (w.heap.size + 1) 5 1 vb (flat (ys.take i)).length (Lib.byteCells (flat (ys.take i))) ∧
  (∀ j, j < ys.length → wr.cell? ⟨w.heap.size, j, none⟩ = some (.int .i64 (if j < i then (ys.getD j 0 : Nat) else 0))) ∧
  (∀ o, wr.frozen? ⟨w.heap.size, o, none⟩ = false) ∧ Below w.heap.size w wr ∧ w.heap.size + 1 ≤ wr.heap.size

theorem not_i64 (z : Int) (h1 : -9223372036854775808 ≤ z) (h2 : z < 0) : bits .xor .i64 (-1) z = -z - 1 := by
  show IntKind.i64.wrap ((BitVec.ofInt 64 (-1) ^^^ BitVec.ofInt 64 z).toNat : Int) = _
  have e : BitVec.ofInt 64 (-1) = BitVec.allOnes 64 := by decide
  rw [e, BitVec.allOnes_xor, BitVec.toNat_not, BitVec.toNat_ofInt]
  have : (z % ((2 ^ 64 : Nat) : Int)).toNat = (z + 18446744073709551616).toNat := by
    congr 1
    show z % 18446744073709551616 = _
    omega
  rw [this, IntKind.wrap_i64]
  omega

theorem nn_lt (z : Int) (h1 : -9223372036854775808 ≤ z) (h2 : z ≤ 9223372036854775807) : nn z < 9223372036854775808 := by unfold nn; split <;> omega

theorem take_flat (ys : List Nat) (i : Nat) (hi : i < ys.length) : flat (ys.take (i + 1)) = flat (ys.take i) ++ Lib.uvarint (ys.getD i 0) := by
  have e : ys.getD i 0 = ys[i] := by simp [List.getD_eq_getElem?_getD, hi]
  rw [e, List.take_succ_eq_append_getElem hi]
  unfold flat
  rw [List.flatMap_append]
  simp only [List.flatMap_cons, List.flatMap_nil, List.append_nil]

theorem R1.step {w wr w2 : World} {ys : List Nat} {vb v' : Value} {i y : Nat} (h : R1 w wr ys vb i) (hi : i < ys.length) (hy : y = ys.getD i 0)
    (ho : w2.ownsRow (w.heap.size + 1) 5 1 v' ((flat (ys.take i)).length + (Lib.uvarint y).length) (Lib.byteCells (flat (ys.take i)) ++ Lib.byteCells (Lib.uvarint y)))
    (hb : Below (w.heap.size + 1) (wr.setCell ⟨w.heap.size, i, none⟩ (.int .i64 (y : Int))) w2) : R1 w w2 ys v' (i + 1) := by
  obtain ⟨h1, h2, h3, h4, h5⟩ := h
  refine ⟨?_, ?_, ?_, (h4.setCell (p := ⟨w.heap.size, i, none⟩) (Nat.le_refl _) _).trans (hb.mono (by omega)), ?_⟩
  · rw [take_flat ys i hi, ← hy, List.length_append, Lib.byteCells_append]; exact ho
  · intro j hj
    rw [hb.cell (p := ⟨w.heap.size, j, none⟩) (Nat.lt_succ_self _)]
    by_cases e : j = i
    · subst e
      rw [if_pos (by omega), ← hy]
      exact World.cell?_setCell_same _ _ _ (h2 j hj)
    · rw [World.cell?_setCell_other _ _ _ _ (by simp; try omega), h2 j hj]
      by_cases e2 : j < i
      · rw [if_pos e2, if_pos (by omega)]
      · rw [if_neg e2, if_neg (by omega)]
  · intro o
    rw [hb.frozen (p := ⟨w.heap.size, o, none⟩) (Nat.lt_succ_self _), World.frozen?_setCell]
    exact h3 o
  · have := hb.size
    simp at this
    omega

theorem Sl_of_own {wr : World} {base V n : Nat} {vb : Value} {l : List UInt8} (h : wr.ownsRow base 5 1 vb n (Lib.byteCells l)) (hn : l.length = n) (hV : wr.heap.size = V) : Sl wr V vb l := by
  subst hn
  rcases h.2 with ⟨rfl, h0⟩ | ⟨g, cap, cur, rfl, hg, hh, hc, _, hs, ht⟩
  · have : l = [] := List.length_eq_zero_iff.1 h0
    subst this
    exact Sl.nil _ _ _ _
  · have hlt : g < wr.heap.size := by
      by_cases e : g < wr.heap.size
      · exact e
      · rw [Array.getElem?_eq_none (by omega)] at hh; simp at hh
    refine ⟨_, cap, rfl, hc, .inr ⟨g, 0, rfl, by omega, fun j hj => ?_⟩⟩
    have := h.cellAt j (by omega)
    rw [Nat.zero_add, this]
    simp [Lib.byteCells, hj]

theorem cell_alloc_ne (w : World) (x : Obj) (b o : Nat) (h : b ≠ w.heap.size) : (w.alloc x).cell? ⟨b, o, none⟩ = w.cell? ⟨b, o, none⟩ := by
  refine World.cell?_of_block (w := w) (a := ⟨b, o, none⟩) ?_
  show (w.heap.push x)[b]? = _
  rw [Array.getElem?_push, if_neg (by omega)]

/-- The call of 'uvarints', 'v' just made. -/
theorem uvarints_made (w1 : World) (b : Value) (base n m : Nat) (ys : List Nat) (t : List UInt8) (C : Array Value) (hn : n ≤ 1024) (hyl : ys.length = n) (hx : ∀ x ∈ ys, x < 9223372036854775808)
    (ho : w1.ownsRow base 5 1 b m (Lib.byteCells (flat ys ++ t))) (hm : (flat ys ++ t).length = m) (hC : ∀ j, j < n → C[j]? = some (.int .i64 0)) :
    Calls Yba.prog 7 #[b, .slice (some ⟨w1.heap.size, 0, none⟩) n n] (w1.alloc (.cells C 3)) fun e w' => e = .returned (.bool (decide (t = []))) ∧ (∀ j, j < n → w'.cell? ⟨w1.heap.size, j, none⟩ = some (.int .i64 (ys.getD j 0 : Nat))) ∧ Only w1.heap.size (w1.alloc (.cells C 3)) w' := by
  refine (uvarints_any (w1.alloc (.cells C 3)) b (flat ys ++ t) w1.heap.size n (by omega) ?_ ?_ ?_).mono ?_
  · exact (Sl_of_own ho hm rfl).other (cell_alloc_ne w1 _)
  · intro j hj; rw [new_cell _ _ _ _ rfl]; exact hC j hj
  · intro o; exact new_free _ _ _ _ rfl o
  · rintro e w' ⟨rfl, hc, ho⟩
    subst hyl
    refine ⟨by rw [flat_ok ys t hx], fun j hj => ?_, ho⟩
    rw [hc j hj, flat_cellv ys t hx j hj]
    simp [List.getD_eq_getElem?_getD, hj]

set_option maxRecDepth 100000 in
set_option maxHeartbeats 1000000 in
theorem walk_mid (a0 : Option Addr) (n cap0 : Nat) (zs : List Int) (extra : Bool) (w : World) (hn : n ≤ 1024)
    (hA : n = 0 ∨ ∃ g o, a0 = some ⟨g, o, none⟩ ∧ g < w.heap.size ∧ ∀ j, j < n → w.cell? ⟨g, o + j, none⟩ = some (.int .i64 (zs.getD j 0)))
    (hr : ∀ j, -9223372036854775808 ≤ zs.getD j 0 ∧ zs.getD j 0 ≤ 9223372036854775807)
    (ys : List Nat) (hyl : ys.length = n) (hy : ∀ j, j < n → ys.getD j 0 = nn (zs.getD j 0)) :
    Calls Yba.prog 5 #[.slice a0 n cap0, .bool extra] w fun e w' => e = .returned (.bool true) ∧ Below w.heap.size w w' := by
  have HA := hid hA
  have HR := hid hr
  have HY := hid hy
  have HYL := hid hyl
  clear hA hr hy hyl
  obtain ⟨C, hCz, hmk⟩ := made_ints n (by omega)
  have HCz := hid hCz
  clear hCz
  have hgt : ¬ (1024 : Int) < n := by omega
  go_enter Yba.func5, Yba.ntmps5
  go_wp2
  go_loopw [6, 20] (fun vb vi wr => ∃ i : Nat, i ≤ n ∧ vi = .int .i64 i ∧ R1 w wr ys vb i) (fun _ vi _ => n - (intOf vi).toNat)
  case atStart =>
    refine ⟨0, Nat.zero_le _, rfl, World.ownsRow_nil _ _ _ _, ?_, ?_, (Below.refl _ _).alloc (Nat.le_refl _) _, by simp⟩
    · intro j hj
      rw [new_cell _ _ _ _ rfl, if_neg (by omega)]
      exact HCz.out j (by rw [← HYL.out]; exact hj)
    · intro o
      exact new_free _ _ _ _ rfl o
  case round =>
    obtain ⟨i, hi, rfl, hR⟩ := hrel
    have HRR := hid hR
    by_cases hin : i < n
    · obtain ⟨g, o, rfl, hg, hcell⟩ : ∃ g o, a0 = some ⟨g, o, none⟩ ∧ g < w.heap.size ∧ ∀ j, j < n → w.cell? ⟨g, o + j, none⟩ = some (.int .i64 (zs.getD j 0)) := by
        rcases HA.out with h | h
        · omega
        · exact h
      have hci : wr.cell? ⟨g, o + i, none⟩ = some (.int .i64 (zs.getD i 0)) := (hR.2.2.2.1.cell (p := ⟨g, o + i, none⟩) hg).trans (hcell i hin)
      have hvi := hR.2.1 i (by rw [HYL.out]; exact hin)
      have hfi := hR.2.2.1 i
      have hz := HR.out i
      have hyi := HY.out i hin
      generalize hzz : zs.getD i 0 = z at hci hz hyi
      obtain ⟨hz1, hz2⟩ := hz
      generalize hyy : ys.getD i 0 = y at hvi hyi
      have hylt := nn_lt z hz1 hz2
      rw [← hyi] at hylt
      have HYY := hid hyy.symm
      have hlen : (flat (ys.take i)).length ≤ 10 * 1024 := by
        have := flat_le (ys.take i) (fun x hx => by
          have hm := List.mem_of_mem_take hx
          obtain ⟨q, hq, rfl⟩ := List.getElem_of_mem hm
          have e : ys.getD q 0 = ys[q] := by simp [List.getD_eq_getElem?_getD, hq]
          rw [← e, HY.out q (by rw [← HYL.out]; exact hq)]
          exact nn_lt _ (HR.out q).1 (HR.out q).2)
        have h2 := List.length_take_le i ys
        omega
      clear hcell hR hzz hyy
      have hsg : IntKind.i64.signed = true := rfl
      by_cases hneg : z < 0
      · have hbx : bits .xor .i64 (-1) z = (y : Int) := by rw [not_i64 z hz1 hneg, hyi]; unfold nn; rw [if_pos hneg]; omega
        have hyw : IntKind.u64.wrap (y : Int) = y := IntWalk.u64_in _ ⟨by omega, by omega⟩
        clear hyi
        have hylt' : y < 9223372036854775808 := hylt
        have HL := hid hylt'
        clear hylt hylt'
        go_wp2_with fail
        refine (Yba.binary_AppendUvarint (w.heap.size + 1) _ y (by have := HL.out; omega) u6 _ _ (ownsRow_setCell_below HRR.out.1 (Nat.lt_succ_self _) _) (by have := HRR.out.2.2.2.2; simp; omega) (by omega)).mono ?_
        rintro e w2 ⟨v', rfl, hown2, hbel2⟩
        have HR2 := hid (HRR.out.step (by rw [HYL.out]; exact hin) HYY.out hown2 hbel2)
        clear hown2 hbel2 hvi hfi hci
        go_wp2
        go_roundw
        case rel => exact ⟨i + 1, by omega, by go_num, HR2.out⟩
        case measure => simp [intOf]; omega
      · have ez : z = (y : Int) := by rw [hyi]; unfold nn; rw [if_neg hneg]; omega
        subst ez
        clear hyi
        have HL := hid hylt
        clear hylt
        go_wp2_with fail
        refine (Yba.binary_AppendUvarint (w.heap.size + 1) _ y (by have := HL.out; omega) u6 _ _ (ownsRow_setCell_below HRR.out.1 (Nat.lt_succ_self _) _) (by have := HRR.out.2.2.2.2; simp; omega) (by omega)).mono ?_
        rintro e w2 ⟨v', rfl, hown2, hbel2⟩
        have HR2 := hid (HRR.out.step (by rw [HYL.out]; exact hin) HYY.out hown2 hbel2)
        clear hown2 hbel2 hvi hfi hci
        go_wp2
        go_roundw
        case rel => exact ⟨i + 1, by omega, by go_num, HR2.out⟩
        case measure => simp [intOf]; omega
    · have hni : n = i := by omega
      subst hni
      clear hR HA
      have hall : ∀ x ∈ ys, x < 9223372036854775808 := by
        intro x hx
        obtain ⟨q, hq, rfl⟩ := List.getElem_of_mem hx
        have e : ys.getD q 0 = ys[q] := by simp [List.getD_eq_getElem?_getD, hq]
        rw [← e, HY.out q (by rw [← HYL.out]; exact hq)]
        exact nn_lt _ (HR.out q).1 (HR.out q).2
      have hfl := flat_le ys hall
      rw [HYL.out] at hfl
      have htk : ys.take n = ys := List.take_of_length_le (by rw [HYL.out]; exact Nat.le_refl _)
      have hown := HRR.out.1
      rw [htk] at hown
      have HALL := hid hall
      have HOWN := hid hown
      clear hall htk hown
      generalize hN : (flat ys).length = N at hfl HOWN
      replace hN := hid hN
      cases extra with
      | true =>
        obtain ⟨i0, hi5, hz0, hz1, hz2⟩ := info_parts info5
        go_wp2_with (at_builtin; refine wpList_append_own _ rfl _ _ 44 rfl (w.heap.size + 1) 5 i0 (.int .u8 0) 1 1 Yba.underlying44 hi5 hz0 hz1 hz2 rfl (by decide) _ _ _ rfl (HOWN.out.alloc _) ⟨wr.heap.size, 0, none⟩ 1 1 [.int .u8 0] rfl rfl ?c1 ?c2 ?c3 ?c4 ?c5 ?_)
        case c1 =>
          intro j u hj
          match j, hj with
          | 0, hj => simp at hj; subst hj; simp [Addr.add]
        case c2 => intro u hu; simp at hu; subst hu; rfl
        case c3 => unfold maxLen; omega
        case c4 => omega
        case c5 => have := HRR.out.2.2.2.2; simp; omega
        intro v1 w1 hown1 hgrow1 _
        have hbw : Below w.heap.size w w1 := (HRR.out.2.2.2.1.alloc (by have := HRR.out.2.2.2.2; omega) _).grown hgrow1 (by have := HRR.out.2.2.2.2; simp; omega) (fun q hq => by have := (HOWN.out.lt q hq).1; omega)
        have e1 : Lib.byteCells (flat ys) ++ [Value.int .u8 0] = Lib.byteCells (flat ys ++ [0]) := by rw [Lib.byteCells_append]; rfl
        rw [e1] at hown1
        have H := hid (uvarints_made w1 v1 (w.heap.size + 1) n (N + 1) ys [0] C hn HYL.out HALL.out hown1 (by rw [List.length_append, hN.out]; rfl) HCz.out)
        clear hown1 hgrow1 e1 hz0 hz1 hz2 hi5
        go_wp2_with (go_at_call 7; refine H.out.mono ?_; rintro e w2 ⟨rfl, hc2, ho2⟩; replace hc2 := hid hc2; replace ho2 := hid ho2)
        go_ret
        exact ⟨rfl, (hbw.alloc (by have := hbw.size; omega) _).trans (ho2.out.2.2.1.mono hbw.size)⟩
      | false =>
        have e1 : flat ys = flat ys ++ [] := by simp
        have H := hid (uvarints_made wr u6 (w.heap.size + 1) n N ys [] C hn HYL.out HALL.out (by rw [← e1]; exact HOWN.out) (by rw [← e1]; exact hN.out) HCz.out)
        clear e1
        go_wp2_with (go_at_call 7; refine H.out.mono ?_; rintro e w2 ⟨rfl, hc2, ho2⟩; replace hc2 := hid hc2; replace ho2 := hid ho2)
        have hvals : ∀ j, j < n → w2.cell? ⟨w.heap.size, j, none⟩ = some (.int .i64 (ys.getD j 0 : Nat)) := by
          intro j hj
          have hlt := HRR.out.2.2.2.2
          rw [ho2.out.1 _ _ (by omega), cell_alloc_ne _ _ _ _ (by omega), HRR.out.2.1 j (by rw [HYL.out]; exact hj), if_pos hj]
        have hbw : Below w.heap.size w w2 := (HRR.out.2.2.2.1.alloc (by have := HRR.out.2.2.2.2; omega) _).trans (ho2.out.2.2.1.mono (by have := HRR.out.2.2.2.2; omega))
        replace hvals := hid hvals
        clear H
        go_loopw [55] (fun vi wx => ∃ i : Nat, i ≤ n ∧ vi = .int .i64 i ∧ ∃ nq, wx = w2.drewN nq) (fun vi _ => n - (intOf vi).toNat)
        case atStart => exact ⟨0, Nat.zero_le _, rfl, 0, rfl⟩
        case round =>
          obtain ⟨i, hi, rfl, nq, rfl⟩ := hrel
          by_cases hin2 : i < n
          · have hcV := hc2.out i hin2
            have hcB := hvals.out i hin2
            have hin3 : (i : Int) < (n : Int) := by omega
            generalize ys.getD i 0 = y at hcV hcB
            go_wp2
            go_region
            go_wp2
            go_roundw
            case rel => exact ⟨i + 1, by omega, by go_num, nq + 1, rfl⟩
            case measure => simp [intOf]; omega
          · go_wp2
            go_ret
            exact ⟨rfl, hbw.trans ⟨rfl, rfl, rfl, Nat.le_refl _, fun _ _ => rfl⟩⟩

set_option maxRecDepth 100000 in
set_option maxHeartbeats 400000 in
theorem walk_long (a0 : Option Addr) (n cap0 : Nat) (extra : Bool) (w : World) (hn : 1024 < n) :
    Calls Yba.prog 5 #[.slice a0 n cap0, .bool extra] w fun e w' => e = .returned (.bool true) ∧ Below w.heap.size w w' := by
  have hn' : (1024 : Int) < n := by omega
  go_enter Yba.func5, Yba.ntmps5
  go_wp2
  go_ret
  exact ⟨rfl, Below.refl _ _⟩

theorem range_i64 {z : Int} (h : (Lit.int .i64 z).wf = true ∨ z = 0) : -9223372036854775808 ≤ z ∧ z ≤ 9223372036854775807 := by
  rcases h with h | rfl
  · exact bounds_i64 h
  · omega

theorem walk (a0 : Option Addr) (len0 cap0 : Nat) (z0 : List Int) (a1 : Bool) (w : World) (w0 : IsRow .i64 w a0 len0 cap0 z0) :
    Calls Yba.prog 5 #[.slice a0 len0 cap0, .bool a1] w fun e w' => e = .returned (.bool true) ∧ Below w.heap.size w w' := by
  by_cases hn : 1024 < len0
  · exact walk_long a0 len0 cap0 a1 w hn
  · obtain ⟨hlc, hA, hwf⟩ := w0.open
    refine walk_mid a0 len0 cap0 z0 a1 w (by omega) hA (fun j => range_i64 (hwf j)) ((List.range len0).map fun j => nn (z0.getD j 0)) (by simp) ?_
    intro j hj
    rw [List.getD_eq_getElem?_getD, List.getElem?_map, List.getElem?_range hj]
    rfl

theorem own : ownKnob Yba.prog.godebug = none := by kernel_rfl
theorem laidOut : laidOutB Yba.prog = true := by kernel_rfl

set_option maxRecDepth 100000 in
theorem lifted (os : Os) (started : os.Started) (H : Type) (enc : TypeId × Value → H) :
    ReturnsInHanded {} Yba.checked os 5 .any (Rows.lawS1580CRoundTripSpec.pre6 enc Yba.prog Yba.f5 Rows.lawS1580CRoundTripRow.domain false) (Rows.lawS1580CRoundTripSpec.post enc Yba.prog Yba.f5 false true false false) := by
  refine returnsInHanded_of_change (C := Yba.checked) own started (by kernel_rfl) Yba.func5
    (ChangeSpec.witness6 (enc := enc) (C := Yba.checked) false ⟨#[], #[.slice none 0 0, .bool false], []⟩ 8 (by kernel_rfl) (by kernel_rfl) (by kernel_rfl) (by kernel_rfl)) ?_
  intro W base args ds gs before hval0 hW hcnd _
  have hval : ∀ (j : Nat) t v, Yba.f5.params[j]? = some t → args[j]? = some v → Value.okWide Yba.prog W .any base t v := hval0
  have hW' := hW
  obtain ⟨p, q, hA0, hV, rfl, hfz, hnd⟩ := hW
  have hA : DataW.TrodAll enc Yba.prog W 0 (fun _ => true) true Yba.f5.params.toList args.toList ds p := hA0
  rw [Yba.params5] at hA hval
  obtain ⟨v0, vs0, d0, ds0, p0, q0, hargs, rfl, rfl, h0, r0⟩ := trodAll_cons hA
  obtain ⟨v1, vs1, d1, ds1, p1, q1, rfl, rfl, rfl, h1, r1⟩ := trodAll_cons r0
  obtain ⟨rfl, rfl, rfl⟩ := trodAll_nil r1
  obtain rfl : args = #[v0, v1] := by cases args; simp_all
  obtain ⟨rfl, rfl⟩ := trodVars_none hV
  obtain ⟨a0, len0, cap0, rfl⟩ := okWide_slice Yba.underlying30 (hval 0 30 v0 rfl rfl)
  have k0 := h0
  have lt0 : ∀ x ∈ p0, x.block < W.heap.size := by obtain ⟨m, hm⟩ := k0; exact DataW.trod_lt m _ _ _ hm
  obtain ⟨z0, w0⟩ : ∃ zs, IsRow .i64 W a0 len0 cap0 zs := by
    obtain ⟨fuel, hf⟩ := h0
    rcases open_ints Yba.underlying30 Yba.underlying3 (by kernel_rfl) hf with ⟨hcs, _⟩ | ⟨x, l, c, zs, hcs, _, hl, hm, hz, _, hcell, hwz⟩
    · simp [Value.cells] at hcs
      obtain ⟨rfl, rfl, rfl⟩ := hcs
      exact ⟨[], .inl ⟨rfl, rfl, rfl, rfl⟩⟩
    · simp [Value.cells] at hcs
      obtain ⟨rfl, rfl, rfl⟩ := hcs
      exact ⟨zs, .inr ⟨_, rfl, hl, hm, by simpa using hz, hcell, hwz⟩⟩
  obtain ⟨a1, rfl, rfl, rfl⟩ := open_bool Yba.underlying4 (hval 1 4 v1 rfl rfl) h1
  clear hA0 hval0
  refine (walk a0 len0 cap0 z0 a1 W w0).mono fun e W' ⟨he, bel⟩ => ?_
  subst he
  exact ⟨_, rfl, _, _, _, [], _, [], hW', trodAll_mk1 (shut_bool Yba.underlying4 _), (trodAll_cons_mk (Below.trod laidOut (by kernel_rfl) (of_decide_eq_true (by kernel_rfl)) k0 bel lt0) (trodAll_cons_mk (shut_bool Yba.underlying4 _) trodAll_mk0)), rfl, bel.frame _, fun h => by cases h⟩

theorem over : Rows.lawS1580CRoundTripRow.holds Yba.pinned (OpenSpec.ofChange Rows.lawS1580CRoundTripSpec) :=
  OpenClaim.holds_of_wide 5 Yba.f5 rfl rfl rfl rfl rfl rfl rfl ⟨rfl, rfl, rfl, rfl, rfl⟩ rfl rfl rfl rfl rfl (by kernel_rfl) Yba.func5 (by kernel_rfl)
    (of_decide_eq_true (by kernel_rfl)) (by unfold Func.isWrapper; first | (rw [if_pos (by decide +kernel)]; kernel_rfl) | (rw [if_neg (by decide +kernel)]; exact ⟨rfl, rfl⟩))
    (fun os started H enc _ => lifted os started H enc)

/-- THE STATEMENT -/
theorem proved : Rows.LawS1580CRoundTripSaid := over
#print axioms proved
end Go.Proofs.Ybulkafru.lawS1580CRoundTrip
