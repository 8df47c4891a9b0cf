import Derived.Test.YbulkafruDec
import Derived.Laws.CopyOwn
import Derived.Lib.BufferWrite
namespace Go.Proofs.Ybulkafru.lawS1580CModel
open Go.ChangeShapes Go.WideShapes Go.ChangeAt Go.RowKit
open Go.ChangeMaps (open_string shut_string)
set_option linter.unusedVariables false

theorem slice_arg (a0 : Option Addr) (n cap0 V p : Nat) (l : List UInt8) (w : World) (h : Sl w V (.slice a0 n cap0) l) (hp : p ≤ n) :
    ∃ sv, (∀ W : World, (Instr.slice 44 (.slice a0 n cap0) (some (.int .i64 (p : Int))) none none).run Yba.prog W = .ok sv W) ∧ Sl w V sv (l.drop p) := by
  refine ⟨sliced a0 p n cap0 1, fun W => ?_, ?_⟩
  · have hr := run_slice_l (P := Yba.prog) W 44 a0 n cap0 Yba.underlying44 .i64 (p : Int) (by omega) (by omega)
    rw [hr]
    simp [Yba.sizeOf5, go_sem]
  · obtain ⟨ao, c, hv, hc, h⟩ := h
    simp only [Value.slice.injEq] at hv
    obtain ⟨rfl, rfl, rfl⟩ := hv
    rcases h with rfl | ⟨g, o, rfl, hg, hcell⟩
    · obtain rfl : p = 0 := by simpa using hp
      exact ⟨_, cap0 - 0, rfl, by simp, .inl rfl⟩
    · unfold sliced
      refine Sl.drop hg rfl hc hcell p hp _ ?_
      intro hne
      rw [if_neg (fun e => hne e.symm)]
      simp only [Option.map_some, Nat.mul_one, Addr.add]
      by_cases h0 : p = 0
      · subst h0; simp
      · rw [if_neg h0]

theorem size5 : (Yba.prog.info? 5).map (·.size) = some 1 := by kernel_rfl

/-- 'copy(bc, b)', bc just made, as long as b. -/
theorem copied (a0 : Option Addr) (n cap0 : Nat) (l : List UInt8) (w : World) (C : Array Value) (hl : l.length = n) (hC : ∀ j, j < n → C[j]? = some (.int .u8 0)) (h : Sl w w.heap.size (.slice a0 n cap0) l) :
    ∃ w2, (Builtin.copy_ #[44, 44] 3 #[.slice (some ⟨w.heap.size, 0, none⟩) n n, .slice a0 n cap0]).run Yba.prog (w.alloc (.cells C 5)) = .ok (.int .i64 (n : Int)) w2 ∧
      (∀ j (hj : j < l.length), w2.cell? ⟨w.heap.size, j, none⟩ = some (.int .u8 (l[j].toNat : Int))) ∧ Below w.heap.size w w2 ∧ w2.heap.size = w.heap.size + 1 := by
  have hba : Below w.heap.size w (w.alloc (.cells C 5)) := (Below.refl _ _).alloc (Nat.le_refl _) _
  obtain ⟨ao, c, hv, hc, h⟩ := h
  simp only [Value.slice.injEq] at hv
  obtain ⟨rfl, rfl, rfl⟩ := hv
  rcases h with rfl | ⟨g, o, rfl, hg, hcell⟩
  · refine ⟨_, run_copy_none (P := Yba.prog) _ 44 44 3 5 _ _ _ _ _ _ Yba.underlying44 size5 (by simp), fun j hj => by simp at hj, hba, by simp⟩
  · have hCl : l.length ≤ C.size := by
      by_cases h0 : l.length = 0
      · omega
      · have := hC (l.length - 1) (by omega)
        have := (Array.getElem?_eq_some_iff.1 this).1
        omega
    have hh : (w.alloc (.cells C 5)).heap[w.heap.size]? = some (.cells C 5 (0, 0)) := by show (w.heap.push _)[w.heap.size]? = _; simp
    have hr := run_copy_row (P := Yba.prog) (w.alloc (.cells C 5)) 44 44 3 5 w.heap.size 0 l.length l.length ⟨g, o, none⟩ l.length cap0 C 5 (Lib.byteCells l) Yba.underlying44 size5 hh (by simp [Lib.byteCells])
      (fun j v hj => by
        have hjl : j < l.length := by have := (List.getElem?_eq_some_iff.1 hj).1; simpa [Lib.byteCells] using this
        have e : (⟨g, o, none⟩ : Addr).add j = ⟨g, o + j, none⟩ := by unfold Addr.add; split <;> simp_all
        have hlt : g < w.heap.size := World.block_lt_of_cell? _ _ (hcell j hjl)
        rw [e, hba.cell (p := ⟨g, o + j, none⟩) hlt, hcell j hjl, ← hj]
        simp [Lib.byteCells, hjl])
      (by simp [Lib.byteCells]; exact hCl) (Lib.byteCells_one l)
    have e0 : (goInt (Lib.byteCells l).length : Value) = .int .i64 (l.length : Int) := by simp [Lib.byteCells]; rfl
    rw [e0] at hr
    refine ⟨_, hr, fun j hj => ?_, below_setRow hba (Nat.le_refl _) _, by simp⟩
    have h2 : ((w.alloc (.cells C 5)).setRow w.heap.size (List.take 0 C.toList ++ Lib.byteCells l ++ List.drop (0 + (Lib.byteCells l).length) C.toList).toArray).heap[w.heap.size]? = some (.cells (List.take 0 C.toList ++ Lib.byteCells l ++ List.drop (0 + (Lib.byteCells l).length) C.toList).toArray 5 (0, 0)) := by
      simp only [World.setRow, Array.getElem?_modify, hh]
      simp
    rw [cell_of_row _ _ _ _ _ _ h2]
    simp [Lib.byteCells]
    rw [List.getElem?_append_left (by simpa using hj)]
    simp [hj]

theorem Sl.keep {w w' : World} {V : Nat} {v : Value} {l : List UInt8} (h : Sl w V v l) (hb : Below w.heap.size w w') : Sl w' V v l := by
  obtain ⟨ao, c, hv, hc, h⟩ := h
  refine ⟨ao, c, hv, hc, ?_⟩
  rcases h with h | ⟨g, o, ha, hg, hcell⟩
  · exact .inl h
  · exact .inr ⟨g, o, ha, hg, fun j hj => (hb.cell (p := ⟨g, o + j, none⟩) (World.block_lt_of_cell? _ _ (hcell j hj))).trans (hcell j hj)⟩

set_option maxRecDepth 100000 in
set_option maxHeartbeats 1000000 in
theorem walk_mid (a0 : Option Addr) (n cap0 : Nat) (l : List UInt8) (a1 : Int) (w : World) (hn : n ≤ 1024) (hl : l.length = n) (ha0 : 0 ≤ a1) (ha1 : a1 ≤ 255)
    (hS : ∀ V, w.heap.size ≤ V → Sl w V (.slice a0 n cap0) l) :
    Calls Yba.prog 4 #[.slice a0 n cap0, .int .u8 a1] w fun e w' => e = .returned (.bool true) ∧ Below w.heap.size w w' := by
  have HS := hid hS
  have HL := hid hl
  clear hS hl
  obtain ⟨C, hCz, hmk⟩ := made_bytes n (by omega)
  obtain ⟨k, hk⟩ : ∃ k : Nat, a1 % 8 = k := ⟨(a1 % 8).toNat, by omega⟩
  have hk8 : k < 8 := by omega
  obtain ⟨C2, hC2z, hmk2⟩ := made_ints k (by omega)
  have HCz := hid hCz
  have HC2 := hid hC2z
  clear hCz hC2z
  have hgt : ¬ (1024 : Int) < n := by omega
  go_enter Yba.func4, Yba.ntmps4
  obtain ⟨w2, hcp, hbc, hb2, hsz2⟩ := copied a0 n cap0 l w C HL.out HCz.out (HS.out _ (Nat.le_refl _))
  have HBC := hid hbc
  clear hbc
  have H7 := hid (uvarints_any (w2.alloc (.cells C2 3)) (.slice (some ⟨w.heap.size, 0, none⟩) n n) l (w.heap.size + 1) k (by omega)
    ⟨some ⟨w.heap.size, 0, none⟩, n, by rw [HL.out], by rw [HL.out]; exact Nat.le_refl _, .inr ⟨w.heap.size, 0, rfl, by omega, fun j hj => by
      rw [Nat.zero_add, ← HBC.out j hj]
      exact World.cell?_of_block (w := w2) (Below.heap_alloc w2 _ w.heap.size (by omega))⟩⟩
    (fun j hj => by rw [new_cell _ _ _ _ hsz2]; exact HC2.out j hj) (fun o => new_free _ _ _ _ hsz2 o))
  go_wp2_with fail
  refine H7.out.mono ?_
  rintro e w4 ⟨rfl, hv4, ho4⟩
  have hsz4 : w4.heap.size = w.heap.size + 2 := by rw [ho4.2.2.2]; simp; omega
  have hb4 : Below w.heap.size w w4 := (hb2.alloc (by omega) _).trans (ho4.2.2.1.mono (by omega))
  replace hv4 := hid hv4
  clear ho4 H7 HBC hcp hsz2 hb2 hk hmk HCz
  generalize hok : okv l k = ok
  replace hok := hid hok
  go_upto_block 0 with fail
  go_cut [10, 11] from 16 (fun s10 s11 wc => ∃ (p : Nat) (okb : Bool), s10 = .int .i64 p ∧ s11 = .bool okb ∧ (okb = false → ok = false) ∧ (okb = true → p = pos l k ∧ allok l k = true) ∧
    (∀ j, j < k → wc.cell? ⟨w.heap.size + 2, j, none⟩ = some (.int .i64 (cellv l j))) ∧ Only (w.heap.size + 2) (w4.alloc (.cells C2 3)) wc)
  case first =>
    go_wp2_with fail
    go_loopw [10, 11, 12] (fun vp vo vi wr => ∃ i : Nat, i ≤ k ∧ vi = .int .i64 i ∧ vp = .int .i64 (pos l i : Nat) ∧ vo = .bool true ∧ allok l i = true ∧ (∀ j, j < k → wr.cell? ⟨w.heap.size + 2, j, none⟩ = some (.int .i64 (if j < i then val l j else 0))) ∧
      Only (w.heap.size + 2) (w4.alloc (.cells C2 3)) wr) (fun _ _ vi _ => k - (intOf vi).toNat)
    case atStart =>
      refine ⟨0, Nat.zero_le _, rfl, rfl, rfl, rfl, ?_, Only.refl _ _⟩
      intro j hj
      rw [new_cell _ _ _ _ hsz4, if_neg (by omega)]
      exact HC2.out j hj
    case round =>
      obtain ⟨i, hi, rfl, rfl, rfl, hall, hcells, honly⟩ := hrel
      have HALL := hid hall
      have HC := hid hcells
      have HO := hid honly
      have hpl := pos_le l i
      rw [HL.out] at hpl
      by_cases hik : i < k
      · have hbr : Below w.heap.size w wr := (hb4.alloc (by omega) _).trans (honly.2.2.1.mono (by omega))
        obtain ⟨sv, hsv, hsl⟩ := slice_arg a0 n cap0 (w.heap.size + 2) (pos l i) l w (HS.out _ (by omega)) hpl
        have H8 := cdec_any _ sv _ wr (Sl.keep hsl hbr) (by rw [List.length_drop, HL.out]; omega)
        have hci := hcells i hik
        have hfi : wr.frozen? ⟨w.heap.size + 2, i, none⟩ = false := (honly.2.1 _).trans (new_free _ _ _ _ hsz4 i)
        clear hall hcells honly hsl hbr
        obtain ⟨x, hx⟩ : ∃ x, x = val l i := ⟨_, rfl⟩
        obtain ⟨u, hu⟩ : ∃ u, u = (dec (l.drop (pos l i))).2 := ⟨_, rfl⟩
        rw [show (dec (l.drop (pos l i))).1 = x from hx.symm, ← hu] at H8
        have hp1 : pos l i + u = pos l (i + 1) := by rw [hu]; rfl
        have hpl1 := pos_le l (i + 1)
        rw [← hp1, HL.out] at hpl1
        have HX := hid hx
        have HP := hid hp1
        replace H8 := hid H8
        clear hx hu hp1
        generalize pos l i = p at hsv hpl hpl1 HP
        by_cases hneg : x < 0
        · go_wp2_with (go_at_call 8; refine H8.out.mono ?_; rintro e w' ⟨rfl, rfl⟩)
          go_meet
          case rel =>
            have hv : val l i < 0 := by rw [← HX.out]; exact hneg
            refine ⟨_, false, rfl, rfl, fun _ => ?_, fun h => by simp at h, fun j hj => ?_, HO.out.setCell i _⟩
            · rw [← hok.out]; unfold okv; rw [allok_stop hv hik]; rfl
            · rw [HX.out]
              refine (set_cells HC.out hik 0 j hj).trans ?_
              by_cases e : j < i + 1
              · rw [if_pos e, cellv_lt HALL.out (by omega)]
              · rw [if_neg e, cellv_past hv (by omega)]
        · go_wp2_with (go_at_call 8; refine H8.out.mono ?_; rintro e w' ⟨rfl, rfl⟩)
          go_roundw
          case rel =>
            have hv : 0 ≤ val l i := by rw [← HX.out]; exact hneg
            rw [HX.out]
            refine ⟨i + 1, by omega, by go_num, by rw [← HP.out]; go_num, rfl, allok_succ HALL.out hv, set_cells HC.out hik 0, HO.out.setCell i _⟩
          case measure => simp [intOf]; omega
      · have hki : i = k := by omega
        subst hki
        clear hall hcells honly
        go_wp2_with fail
        go_meet
        case rel =>
          refine ⟨_, true, rfl, rfl, fun h => by simp at h, fun _ => ⟨rfl, HALL.out⟩, fun j hj => ?_, HO.out⟩
          rw [HC.out j hj, if_pos hj, cellv_lt HALL.out (by omega)]
  case rest =>
    obtain ⟨p, okb, rfl, rfl, hok0, hok1, hwant, honly⟩ := hcut
    have hvs : ∀ j, j < k → wc.cell? ⟨w.heap.size + 1, j, none⟩ = some (.int .i64 (cellv l j)) := by
      intro j hj
      rw [honly.1 _ _ (by omega), ← hv4.out j hj]
      exact World.cell?_of_block (w := w4) (Below.heap_alloc w4 _ (w.heap.size + 1) (by omega))
    have hbw : Below w.heap.size w wc := (hb4.alloc (by omega) _).trans (honly.2.2.1.mono (by omega))
    have HVS := hid hvs
    have HW := hid hwant
    clear hvs hwant honly hmk2 hv4 HC2
    cases okb with
    | false =>
      have := hok0 rfl
      subst this
      clear hok0 hok1
      go_wp2
      go_loopw [15] (fun vi wx => ∃ i : Nat, i ≤ k ∧ vi = .int .i64 i ∧ ∃ nq, wx = wc.drewN nq) (fun vi _ => k - (intOf vi).toNat)
      case atStart => exact ⟨0, Nat.zero_le _, rfl, 0, rfl⟩
      case round =>
        obtain ⟨i, hi, rfl, nq, rfl⟩ := hrel
        by_cases hik : i < k
        · have hcV := HVS.out i hik
          have hcB := HW.out i hik
          have hin3 : (i : Int) < (k : Int) := by omega
          generalize cellv l i = y at hcV hcB
          go_wp2
          go_region
          go_wp2
          go_roundw
          case rel => exact ⟨i + 1, by omega, by go_num, nq + 1, rfl⟩
          case measure => simp [intOf]; omega
        · go_wp2
          go_ret
          exact ⟨rfl, hbw.trans ⟨rfl, rfl, rfl, Nat.le_refl _, fun _ _ => rfl⟩⟩
    | true =>
      obtain ⟨hp, hal⟩ := hok1 rfl
      have hoe : ok = decide (p = n) := by rw [← hok.out, hp]; unfold okv; rw [hal, HL.out]; rfl
      clear hok0 hok1 hok hp
      by_cases hpn : p = n
      · have h1 : ok = true := by rw [hoe]; simpa using hpn
        have h2 : ((p : Int) == (n : Int)) = true := by rw [hpn]; exact beq_self_eq_true _
        clear hoe hpn
        subst h1
        go_wp2
        go_loopw [15] (fun vi wx => ∃ i : Nat, i ≤ k ∧ vi = .int .i64 i ∧ ∃ nq, wx = wc.drewN nq) (fun vi _ => k - (intOf vi).toNat)
        case atStart => exact ⟨0, Nat.zero_le _, rfl, 0, rfl⟩
        case round =>
          obtain ⟨i, hi, rfl, nq, rfl⟩ := hrel
          by_cases hik : i < k
          · have hcV := HVS.out i hik
            have hcB := HW.out i hik
            have hin3 : (i : Int) < (k : Int) := by omega
            generalize cellv l i = y at hcV hcB
            go_wp2
            go_region
            go_wp2
            go_roundw
            case rel => exact ⟨i + 1, by omega, by go_num, nq + 1, rfl⟩
            case measure => simp [intOf]; omega
          · go_wp2
            go_ret
            exact ⟨rfl, hbw.trans ⟨rfl, rfl, rfl, Nat.le_refl _, fun _ _ => rfl⟩⟩
      · have h1 : ok = false := by rw [hoe]; simpa using hpn
        have h2 : ((p : Int) == (n : Int)) = false := by rw [beq_eq_false_iff_ne]; omega
        clear hoe hpn
        subst h1
        go_wp2
        go_loopw [15] (fun vi wx => ∃ i : Nat, i ≤ k ∧ vi = .int .i64 i ∧ ∃ nq, wx = wc.drewN nq) (fun vi _ => k - (intOf vi).toNat)
        case atStart => exact ⟨0, Nat.zero_le _, rfl, 0, rfl⟩
        case round =>
          obtain ⟨i, hi, rfl, nq, rfl⟩ := hrel
          by_cases hik : i < k
          · have hcV := HVS.out i hik
            have hcB := HW.out i hik
            have hin3 : (i : Int) < (k : Int) := by omega
            generalize cellv l i = y at hcV hcB
            go_wp2
            go_region
            go_wp2
            go_roundw
            case rel => exact ⟨i + 1, by omega, by go_num, nq + 1, rfl⟩
            case measure => simp [intOf]; omega
          · go_wp2
            go_ret
            exact ⟨rfl, hbw.trans ⟨rfl, rfl, rfl, Nat.le_refl _, fun _ _ => rfl⟩⟩

set_option maxRecDepth 100000 in
set_option maxHeartbeats 400000 in
theorem walk_long (a0 : Option Addr) (n cap0 : Nat) (a1 : Int) (w : World) (hn : 1024 < n) :
    Calls Yba.prog 4 #[.slice a0 n cap0, .int .u8 a1] w fun e w' => e = .returned (.bool true) ∧ Below w.heap.size w w' := by
  have hn' : (1024 : Int) < n := by omega
  go_enter Yba.func4, Yba.ntmps4
  go_wp2
  go_ret
  exact ⟨rfl, Below.refl _ _⟩

theorem range_u8' {z : Int} (h : (Lit.int .u8 z).wf = true ∨ z = 0) : 0 ≤ z ∧ z ≤ 255 := by
  rcases h with h | rfl
  · exact bounds_u8 h
  · omega

theorem walk (a0 : Option Addr) (len0 cap0 : Nat) (z0 : List Int) (a1 : Int) (w : World) (w0 : IsRow .u8 w a0 len0 cap0 z0) (w1 : (Lit.int .u8 a1).wf = true) :
    Calls Yba.prog 4 #[.slice a0 len0 cap0, .int .u8 a1] w fun e w' => e = .returned (.bool true) ∧ Below w.heap.size w w' := by
  by_cases hn : 1024 < len0
  · exact walk_long a0 len0 cap0 a1 w hn
  · obtain ⟨hlc, hA, hwf⟩ := w0.open
    have hb := bounds_u8 w1
    have hlen : ((List.range len0).map fun j => UInt8.ofNat (z0.getD j 0).toNat).length = len0 := by simp
    refine walk_mid a0 len0 cap0 ((List.range len0).map fun j => UInt8.ofNat (z0.getD j 0).toNat) a1 w (by omega) hlen hb.1 hb.2 ?_
    intro V hV
    refine ⟨a0, cap0, by rw [hlen], by rw [hlen]; exact hlc, ?_⟩
    rcases hA with h0 | ⟨g, o, rfl, hg, hcell⟩
    · left; subst h0; rfl
    · refine .inr ⟨g, o, rfl, by omega, fun j hj => ?_⟩
      rw [hlen] at hj
      rw [hcell j hj]
      have hr := range_u8' (hwf j)
      simp only [List.getElem_map, List.getElem_range, UInt8.toNat_ofNat']
      congr 2
      omega

theorem own : ownKnob Yba.prog.godebug = none := by kernel_rfl
theorem laidOut : laidOutB Yba.prog = true := by kernel_rfl

set_option maxRecDepth 100000 in
theorem lifted (os : Os) (started : os.Started) (H : Type) (enc : TypeId × Value → H) :
    ReturnsInHanded {} Yba.checked os 4 .any (Rows.lawS1580CModelSpec.pre6 enc Yba.prog Yba.f4 Rows.lawS1580CModelRow.domain false) (Rows.lawS1580CModelSpec.post enc Yba.prog Yba.f4 false true false false) := by
  refine returnsInHanded_of_change (C := Yba.checked) own started (by kernel_rfl) Yba.func4
    (ChangeSpec.witness6 (enc := enc) (C := Yba.checked) false ⟨#[], #[.slice none 0 0, .int .u8 0], []⟩ 8 (by kernel_rfl) (by kernel_rfl) (by kernel_rfl) (by kernel_rfl)) ?_
  intro W base args ds gs before hval0 hW hcnd _
  have hval : ∀ (j : Nat) t v, Yba.f4.params[j]? = some t → args[j]? = some v → Value.okWide Yba.prog W .any base t v := hval0
  have hW' := hW
  obtain ⟨p, q, hA0, hV, rfl, hfz, hnd⟩ := hW
  have hA : DataW.TrodAll enc Yba.prog W 0 (fun _ => true) true Yba.f4.params.toList args.toList ds p := hA0
  rw [Yba.params4] at hA hval
  obtain ⟨v0, vs0, d0, ds0, p0, q0, hargs, rfl, rfl, h0, r0⟩ := trodAll_cons hA
  obtain ⟨v1, vs1, d1, ds1, p1, q1, rfl, rfl, rfl, h1, r1⟩ := trodAll_cons r0
  obtain ⟨rfl, rfl, rfl⟩ := trodAll_nil r1
  obtain rfl : args = #[v0, v1] := by cases args; simp_all
  obtain ⟨rfl, rfl⟩ := trodVars_none hV
  obtain ⟨a0, len0, cap0, rfl⟩ := okWide_slice Yba.underlying44 (hval 0 44 v0 rfl rfl)
  have k0 := h0
  have lt0 : ∀ x ∈ p0, x.block < W.heap.size := by obtain ⟨m, hm⟩ := k0; exact DataW.trod_lt m _ _ _ hm
  obtain ⟨z0, w0⟩ : ∃ zs, IsRow .u8 W a0 len0 cap0 zs := by
    obtain ⟨fuel, hf⟩ := h0
    rcases open_ints Yba.underlying44 Yba.underlying5 (by kernel_rfl) hf with ⟨hcs, _⟩ | ⟨x, l, c, zs, hcs, _, hl, hm, hz, _, hcell, hwz⟩
    · simp [Value.cells] at hcs
      obtain ⟨rfl, rfl, rfl⟩ := hcs
      exact ⟨[], .inl ⟨rfl, rfl, rfl, rfl⟩⟩
    · simp [Value.cells] at hcs
      obtain ⟨rfl, rfl, rfl⟩ := hcs
      exact ⟨zs, .inr ⟨_, rfl, hl, hm, by simpa using hz, hcell, hwz⟩⟩
  obtain ⟨a1, rfl, rfl, rfl, w1⟩ := open_int Yba.underlying5 (hval 1 5 v1 rfl rfl) h1
  clear hA0 hval0
  refine (walk a0 len0 cap0 z0 a1 W w0 w1).mono fun e W' ⟨he, bel⟩ => ?_
  subst he
  exact ⟨_, rfl, _, _, _, [], _, [], hW', trodAll_mk1 (shut_bool Yba.underlying4 _), (trodAll_cons_mk (Below.trod laidOut (by kernel_rfl) (of_decide_eq_true (by kernel_rfl)) k0 bel lt0) (trodAll_cons_mk (shut_int Yba.underlying5 w1) trodAll_mk0)), rfl, bel.frame _, fun h => by cases h⟩

theorem over : Rows.lawS1580CModelRow.holds Yba.pinned (OpenSpec.ofChange Rows.lawS1580CModelSpec) :=
  OpenClaim.holds_of_wide 4 Yba.f4 rfl rfl rfl rfl rfl rfl rfl ⟨rfl, rfl, rfl, rfl, rfl⟩ rfl rfl rfl rfl rfl (by kernel_rfl) Yba.func4 (by kernel_rfl)
    (of_decide_eq_true (by kernel_rfl)) (by unfold Func.isWrapper; first | (rw [if_pos (by decide +kernel)]; kernel_rfl) | (rw [if_neg (by decide +kernel)]; exact ⟨rfl, rfl⟩))
    (fun os started H enc _ => lifted os started H enc)

/-- THE STATEMENT -/
theorem proved : Rows.LawS1580CModelSaid := over
#print axioms proved
end Go.Proofs.Ybulkafru.lawS1580CModel
