import Derived.Test.YbulkafumHex
namespace Go.Proofs.Ybulkafum.lawS1585ABuild
open Go.ChangeShapes Go.WideShapes Go.ChangeAt Go.RowKit
open Go.ChangeMaps (open_string shut_string)
set_option linter.unusedVariables false

theorem info5 : (Yba.prog.info? 5).map (fun i => (i.zero, i.size, i.bytes)) = some (some (.int .u8 0), 1, 1) := by kernel_rfl

/-- Bytes as cells. -/
def bc (l : List UInt8) : List Value := l.map fun b => Value.int .u8 (b.toNat : Int)
theorem bc_length (l : List UInt8) : (bc l).length = l.length := by simp [bc]
theorem bc_append (a b : List UInt8) : bc (a ++ b) = bc a ++ bc b := by simp [bc]

/-- Digit t, as a byte. -/
def digB (V D : Nat) (up : Nat → Bool) (t : Nat) : UInt8 := UInt8.ofNat (hexc (nibAt V D t) (up t))
def digs (V D : Nat) (up : Nat → Bool) (j : Nat) : List UInt8 := (List.range j).map (digB V D up)
theorem hexc_lt (d : Nat) (b : Bool) (h : d < 16) : hexc d b < 256 := by unfold hexc; split <;> (try split) <;> omega
theorem digB_toNat (V D : Nat) (up : Nat → Bool) (t : Nat) : (digB V D up t).toNat = hexc (nibAt V D t) (up t) := by
  unfold digB
  rw [UInt8.toNat_ofNat']
  exact Nat.mod_eq_of_lt (hexc_lt _ _ (nib_lt _ _ _))
theorem digs_succ (V D : Nat) (up : Nat → Bool) (j : Nat) : digs V D up (j + 1) = digs V D up j ++ [digB V D up j] := by
  unfold digs; rw [List.range_succ, List.map_append]; rfl
theorem digs_length (V D : Nat) (up : Nat → Bool) (j : Nat) : (digs V D up j).length = j := by simp [digs]

/-- Is the bit of digit t set in 'upper'? -/
def upB (u D t : Nat) : Bool := (bits .and .u8 ((u : Int) / 2 ^ (D - 1 - t)) 1 == 1)

/-- The state of the loop behind j digits. -/
def R (w wr : World) (V u D : Nat) (L : UInt8) (vb : Value) (j : Nat) : Prop :=
  wr.ownsRow w.heap.size 5 1 vb (2 + j) (bc ([92, L] ++ digs V D (upB u D) j)) ∧ Below w.heap.size w wr

theorem R.step {w wr w2 : World} {V u D j c : Nat} {L : UInt8} {vb v' : Value} {O : Obj} (h : R w wr V u D L vb j) (hc : c = hexc (nibAt V D j) (upB u D j))
    (ho : w2.ownsRow w.heap.size 5 1 v' (2 + j + 1) (bc ([92, L] ++ digs V D (upB u D) j) ++ [Value.int .u8 (c : Int)])) (hg : (wr.alloc O).grownBy w2 vb.ownBlock) : R w w2 V u D L v' (j + 1) := by
  have hs := h.2.size
  refine ⟨?_, (h.2.alloc hs O).grown hg (by simp; omega) (fun k hk => (h.1.lt k hk).1)⟩
  rw [digs_succ, ← List.append_assoc, bc_append]
  have e : bc [digB V D (upB u D) j] = [Value.int .u8 (c : Int)] := by
    unfold bc
    simp only [List.map_cons, List.map_nil, digB_toNat, hc]
  rw [e]
  exact ho

theorem nib_bits (V D j i : Nat) (hV : V < 4294967296) (hi : i = D - 1 - j) : bits .and .u32 ((V : Int) / 2 ^ (i * 4)) 15 = ((nibAt V D j : Nat) : Int) := by
  have e : ((V : Int) / 2 ^ (i * 4)) = ((V / 2 ^ (i * 4) : Nat) : Int) := by simp
  have hle := Nat.div_le_self V (2 ^ (i * 4))
  have e2 : (16 : Nat) ^ (D - 1 - j) = 2 ^ (i * 4) := by rw [← hi, Nat.mul_comm, Nat.pow_mul]
  have h15 : (15 : Int) = 2 ^ 4 - 1 := by decide
  unfold nibAt
  rw [e2, e]
  generalize V / 2 ^ (i * 4) = q at hle
  rw [h15, bits_mask .u32 32 (by decide) (fun n h0 h1 => IntWalk.u32_in n ⟨h0, by omega⟩) 4 (by decide) _ (by omega) (by omega)]
  simp

/-- 'string(b)', b owned. -/
theorem conv_own {w : World} {base n : Nat} {v : Value} {l : List UInt8} (h : w.ownsRow base 5 1 v n (bc l)) (hn : l.length = n) (h0 : 0 < n) : (convert 30 9 v).run Yba.prog w = .ok (.string ⟨l.toArray⟩) w := by
  subst hn
  rcases h.2 with ⟨_, h'⟩ | ⟨g, cap, cur, rfl, _⟩
  · omega
  · refine run_convert_bytes_back (P := Yba.prog) w 30 9 5 ⟨g, 0, none⟩ cap l Yba.underlying30 Yba.underlying5 Yba.underlying9 ?_
    intro j hj
    have e : (⟨g, 0, none⟩ : Addr).add j = ⟨g, j, none⟩ := by unfold Addr.add; split <;> simp_all
    rw [e, h.cellAt j (by omega)]
    simp [bc, hj]

theorem esc_of (V D : Nat) (up : Nat → Bool) (L : UInt8) (tail : List UInt8) (hV : V < 16 ^ D) (hV2 : V < 4294967296) (hD : D ≤ 8) (ht : tail.length ≤ 1048576) : Esc ⟨([92, L] ++ digs V D up D ++ tail).toArray⟩ D V up := by
  have hsz : (⟨([92, L] ++ digs V D up D ++ tail).toArray⟩ : ByteArray).size = 2 + D + tail.length := by
    show ([92, L] ++ digs V D up D ++ tail).toArray.size = _
    simp [digs_length]; omega
  refine ⟨by omega, by omega, hV, hV2, ?_⟩
  intro j hj
  have e : (⟨([92, L] ++ digs V D up D ++ tail).toArray⟩ : ByteArray)[2 + j]'(by omega) = digB V D up j := by
    show ([92, L] ++ digs V D up D ++ tail).toArray[2 + j]'_ = _
    rw [List.getElem_toArray, List.getElem_append_left (by simp [digs_length]; omega), List.getElem_append_right (by simp)]
    simp [digs]
  rw [e, digB_toNat]

theorem esc_head (l : List UInt8) (L : UInt8) : (⟨([92, L] ++ l).toArray⟩ : ByteArray).extract 0 2 = { data := #[92, L] } := by
  apply ByteArray.ext
  simp [ByteArray.data_extract]


set_option maxRecDepth 100000 in
theorem index_hi (d : Nat) (h : d < 16) (W : World) : (Instr.index 9 (.string { data := #[48, 49, 50, 51, 52, 53, 54, 55, 56, 57, 65, 66, 67, 68, 69, 70] }) (.int .u32 (d : Int))).run Yba.prog W = .ok (.int .u8 ((hexc d true : Nat) : Int)) W := by
  have hs : d = 0 ∨ d = 1 ∨ d = 2 ∨ d = 3 ∨ d = 4 ∨ d = 5 ∨ d = 6 ∨ d = 7 ∨ d = 8 ∨ d = 9 ∨ d = 10 ∨ d = 11 ∨ d = 12 ∨ d = 13 ∨ d = 14 ∨ d = 15 := by omega
  rw [run_index_string W 9 _ .u32 (d : Int) Yba.underlying9, dif_pos ⟨by omega, by show (d : Int) < 16; omega⟩]
  rcases hs with rfl | rfl | rfl | rfl | rfl | rfl | rfl | rfl | rfl | rfl | rfl | rfl | rfl | rfl | rfl | rfl <;> rfl
set_option maxRecDepth 100000 in
theorem index_lo (d : Nat) (h : d < 16) (W : World) : (Instr.index 9 (.string { data := #[48, 49, 50, 51, 52, 53, 54, 55, 56, 57, 97, 98, 99, 100, 101, 102] }) (.int .u32 (d : Int))).run Yba.prog W = .ok (.int .u8 ((hexc d false : Nat) : Int)) W := by
  have hs : d = 0 ∨ d = 1 ∨ d = 2 ∨ d = 3 ∨ d = 4 ∨ d = 5 ∨ d = 6 ∨ d = 7 ∨ d = 8 ∨ d = 9 ∨ d = 10 ∨ d = 11 ∨ d = 12 ∨ d = 13 ∨ d = 14 ∨ d = 15 := by omega
  rw [run_index_string W 9 _ .u32 (d : Int) Yba.underlying9, dif_pos ⟨by omega, by show (d : Int) < 16; omega⟩]
  rcases hs with rfl | rfl | rfl | rfl | rfl | rfl | rfl | rfl | rfl | rfl | rfl | rfl | rfl | rfl | rfl | rfl <;> rfl

set_option maxRecDepth 100000 in
set_option maxHeartbeats 1000000 in
theorem walk8 (V u : Nat) (tail : ByteArray) (hV : V < 16 ^ 8) (hV2 : V < 4294967296) (hu : u < 256) (ht : tail.size ≤ 1048576) (x : Int) (hx : x = (V : Int)) (w : World) :
    Calls Yba.prog 4 #[.int .u32 (V : Int), .bool true, .int .u8 (u : Int), .string tail] w fun e w' => e = .returned (.bool true) ∧ Below w.heap.size w w' := by
  have HV := hid hV
  clear hV hx
  have hgt : ¬ (1048576 : Int) < tail.size := by omega
  obtain ⟨i0, hi5, hz0, hz1, hz2⟩ := info_parts info5
  have I5 := hid hi5
  have Z0 := hid hz0
  have Z1 := hid hz1
  have Z2 := hid hz2
  clear hi5 hz0 hz1 hz2
  go_enter Yba.func4, Yba.ntmps4
  go_wp2_with (at_make; refine wpList_make_own _ rfl _ _ 30 rfl w.heap.size 5 i0 _ 1 Yba.underlying30 I5.out Z0.out Z1.out .i64 .i64 _ (2 + 8 + tail.size) rfl rfl ?c1 ?c2 ?c3 (Nat.le_refl _) ?_)
  case c2 => rw [Z2.out]; omega
  case c3 => unfold maxLen; omega
  intro w1 hown1 hgrow1
  have hs1 : w.heap.size ≤ w1.heap.size := hgrow1.size
  have hb1 : Below w.heap.size w w1 := (Below.refl _ _).grown hgrow1 (Nat.le_refl _) (fun k hk => by simp at hk)
  have HO1 := hid hown1
  clear hown1 hgrow1
  go_wp2_with (at_builtin; refine wpList_append_own _ rfl _ _ 30 rfl w.heap.size 5 i0 (.int .u8 0) 1 1 Yba.underlying30 I5.out Z0.out Z1.out Z2.out rfl (by decide) _ _ _ rfl (HO1.out.alloc _) ⟨w1.heap.size, 0, none⟩ 2 2 [.int .u8 92, .int .u8 85] rfl rfl ?d1 ?d2 ?d3 ?d4 ?d5 ?_)
  case d1 =>
    intro q y hq
    match q, hq with
    | 0, hq => simp at hq; subst hq; simp [Addr.add]
    | 1, hq => simp at hq; subst hq; simp [Addr.add]
  case d2 => intro y hy; simp at hy; rcases hy with rfl | rfl <;> rfl
  case d3 => unfold maxLen; omega
  case d4 => omega
  case d5 => simp; omega
  intro v2 w2 hown2 hgrow2 _
  have HR2 : Hid (R w w2 V u 8 85 v2 0) := ⟨hown2, (hb1.alloc hs1 _).grown hgrow2 (by simp; omega) (fun k hk => (HO1.out.lt k hk).1)⟩
  clear hown2 hgrow2 HO1 hb1 hs1
  go_wp2
  go_loopw [11, 12] (fun vb vi wr => ∃ j : Nat, j ≤ 8 ∧ vi = .int .i64 (7 - (j : Int)) ∧ R w wr V u 8 85 vb j) (fun _ vi _ => (intOf vi + 1).toNat)
  case atStart => exact ⟨0, by omega, by go_num, HR2.out⟩
  case round =>
    obtain ⟨j, hj, rfl, hR⟩ := hrel
    have HR := hid hR
    have hsr : w.heap.size ≤ wr.heap.size := hR.2.size
    clear hR HR2
    by_cases hjD : j < 8
    · obtain ⟨i, hi⟩ : ∃ i : Nat, (7 : Int) - (j : Int) = i := ⟨7 - j, by omega⟩
      have hi7 : i ≤ 7 := by omega
      have hin : i = 8 - 1 - j := by omega
      have hnib := nib_bits V 8 j i hV2 hin
      have hd := nib_lt V 8 j
      have hbe : upB u 8 j = (bits .and .u8 ((u : Int) / 2 ^ i) 1 == 1) := by unfold upB; rw [hin]
      obtain ⟨d, hde⟩ : ∃ d, d = nibAt V 8 j := ⟨_, rfl⟩
      rw [← hde] at hnib hd
      obtain ⟨b, hbb⟩ : ∃ b, b = upB u 8 j := ⟨_, rfl⟩
      have hup : (bits .and .u8 ((u : Int) / 2 ^ i) 1 == 1) = b := by rw [hbb, hbe]
      have HDE := hid hde.symm
      have HB := hid hbb.symm
      clear hin hbe hde hbb
      by_cases hbt : b = true
      · have hidx : ∀ W : World, (Instr.index 9 (.string { data := #[48, 49, 50, 51, 52, 53, 54, 55, 56, 57, 65, 66, 67, 68, 69, 70] }) (.int .u32 (d : Int))).run Yba.prog W = .ok (.int .u8 ((hexc d true : Nat) : Int)) W := fun W => index_hi d hd W
        have hcb : hexc d true = hexc (nibAt V 8 j) (upB u 8 j) := by rw [HDE.out, HB.out, hbt]
        have HCB := hid hcb
        clear hcb
        generalize hexc d true = c at hidx HCB
        subst hbt
        go_wp2_with (at_builtin; refine wpList_append_own _ rfl _ _ 30 rfl w.heap.size 5 i0 (.int .u8 0) 1 1 Yba.underlying30 I5.out Z0.out Z1.out Z2.out rfl (by decide) _ _ _ rfl (HR.out.1.alloc _) ⟨wr.heap.size, 0, none⟩ 1 1 [.int .u8 (c : Int)] rfl rfl ?etrue1 ?etrue2 ?etrue3 ?etrue4 ?etrue5 ?_)
        case etrue1 =>
          intro q y hq
          match q, hq with
          | 0, hq => simp at hq; subst hq; simp [Addr.add]
        case etrue2 => intro y hy; simp at hy; subst hy; rfl
        case etrue3 => unfold maxLen; omega
        case etrue4 => omega
        case etrue5 => simp; omega
        intro v' w' hown' hgrow' _
        have R2 := hid (HR.out.step HCB.out hown' hgrow')
        clear hown' hgrow' hidx
        go_wp2
        go_roundw
        case rel => exact ⟨j + 1, by omega, by go_num, R2.out⟩
        case measure => simp [intOf]; omega
      · have hbt : b = false := by simpa using hbt
        have hidx : ∀ W : World, (Instr.index 9 (.string { data := #[48, 49, 50, 51, 52, 53, 54, 55, 56, 57, 97, 98, 99, 100, 101, 102] }) (.int .u32 (d : Int))).run Yba.prog W = .ok (.int .u8 ((hexc d false : Nat) : Int)) W := fun W => index_lo d hd W
        have hcb : hexc d false = hexc (nibAt V 8 j) (upB u 8 j) := by rw [HDE.out, HB.out, hbt]
        have HCB := hid hcb
        clear hcb
        generalize hexc d false = c at hidx HCB
        subst hbt
        go_wp2_with (at_builtin; refine wpList_append_own _ rfl _ _ 30 rfl w.heap.size 5 i0 (.int .u8 0) 1 1 Yba.underlying30 I5.out Z0.out Z1.out Z2.out rfl (by decide) _ _ _ rfl (HR.out.1.alloc _) ⟨wr.heap.size, 0, none⟩ 1 1 [.int .u8 (c : Int)] rfl rfl ?efalse1 ?efalse2 ?efalse3 ?efalse4 ?efalse5 ?_)
        case efalse1 =>
          intro q y hq
          match q, hq with
          | 0, hq => simp at hq; subst hq; simp [Addr.add]
        case efalse2 => intro y hy; simp at hy; subst hy; rfl
        case efalse3 => unfold maxLen; omega
        case efalse4 => omega
        case efalse5 => simp; omega
        intro v' w' hown' hgrow' _
        have R2 := hid (HR.out.step HCB.out hown' hgrow')
        clear hown' hgrow' hidx
        go_wp2
        go_roundw
        case rel => exact ⟨j + 1, by omega, by go_num, R2.out⟩
        case measure => simp [intOf]; omega
    · have hje : j = 8 := by omega
      subst hje
      go_wp2_with (at_builtin; refine Lib.wpList_append_own_string _ rfl _ _ 30 9 rfl w.heap.size 5 i0 Yba.underlying30 Yba.underlying9 I5.out Z0.out Z1.out Z2.out _ _ _ rfl HR.out.1 tail rfl ?f1 ?f2 ?f3 ?_)
      case f1 => unfold maxLen; omega
      case f2 => omega
      case f3 => exact hsr
      intro v3 w3 hown3 hgrow3 _
      have hb3 : Below w.heap.size w w3 := HR.out.2.grown hgrow3 hsr (fun k hk => (HR.out.1.lt k hk).1)
      have htl : tail.data.toList.length = tail.size := by simp
      have hconv := conv_own (l := [92, 85] ++ digs V 8 (upB u 8) 8 ++ tail.data.toList) (by rw [bc_append]; exact hown3) (by simp [digs_length]; omega) (by omega)
      have hE := esc_of V 8 (upB u 8) 85 tail.data.toList HV.out hV2 (by omega) (by omega)
      have H8 := hid (escape8 _ V _ hE (by rw [List.append_assoc]; exact esc_head _ 85) w3)
      clear hown3 hgrow3 hE htl
      generalize (⟨([92, 85] ++ digs V 8 (upB u 8) 8 ++ tail.data.toList).toArray⟩ : ByteArray) = S at hconv H8
      go_wp2_with (go_at_call 8; refine H8.out.mono ?_; rintro e w' ⟨rfl, rfl⟩)
      go_ret
      exact ⟨rfl, hb3⟩

set_option maxRecDepth 100000 in
set_option maxHeartbeats 1000000 in
theorem walk4 (V u : Nat) (tail : ByteArray) (hV : V < 16 ^ 4) (hV2 : V < 4294967296) (hu : u < 256) (ht : tail.size ≤ 1048576) (x : Int) (hx : bits .and .u32 x 65535 = (V : Int)) (w : World) :
    Calls Yba.prog 4 #[.int .u32 x, .bool false, .int .u8 (u : Int), .string tail] w fun e w' => e = .returned (.bool true) ∧ Below w.heap.size w w' := by
  have HV := hid hV
  clear hV
  have hgt : ¬ (1048576 : Int) < tail.size := by omega
  obtain ⟨i0, hi5, hz0, hz1, hz2⟩ := info_parts info5
  have I5 := hid hi5
  have Z0 := hid hz0
  have Z1 := hid hz1
  have Z2 := hid hz2
  clear hi5 hz0 hz1 hz2
  go_enter Yba.func4, Yba.ntmps4
  go_wp2_with (at_make; refine wpList_make_own _ rfl _ _ 30 rfl w.heap.size 5 i0 _ 1 Yba.underlying30 I5.out Z0.out Z1.out .i64 .i64 _ (2 + 4 + tail.size) rfl rfl ?c1 ?c2 ?c3 (Nat.le_refl _) ?_)
  case c2 => rw [Z2.out]; omega
  case c3 => unfold maxLen; omega
  intro w1 hown1 hgrow1
  have hs1 : w.heap.size ≤ w1.heap.size := hgrow1.size
  have hb1 : Below w.heap.size w w1 := (Below.refl _ _).grown hgrow1 (Nat.le_refl _) (fun k hk => by simp at hk)
  have HO1 := hid hown1
  clear hown1 hgrow1
  go_wp2_with (at_builtin; refine wpList_append_own _ rfl _ _ 30 rfl w.heap.size 5 i0 (.int .u8 0) 1 1 Yba.underlying30 I5.out Z0.out Z1.out Z2.out rfl (by decide) _ _ _ rfl (HO1.out.alloc _) ⟨w1.heap.size, 0, none⟩ 2 2 [.int .u8 92, .int .u8 117] rfl rfl ?d1 ?d2 ?d3 ?d4 ?d5 ?_)
  case d1 =>
    intro q y hq
    match q, hq with
    | 0, hq => simp at hq; subst hq; simp [Addr.add]
    | 1, hq => simp at hq; subst hq; simp [Addr.add]
  case d2 => intro y hy; simp at hy; rcases hy with rfl | rfl <;> rfl
  case d3 => unfold maxLen; omega
  case d4 => omega
  case d5 => simp; omega
  intro v2 w2 hown2 hgrow2 _
  have HR2 : Hid (R w w2 V u 4 117 v2 0) := ⟨hown2, (hb1.alloc hs1 _).grown hgrow2 (by simp; omega) (fun k hk => (HO1.out.lt k hk).1)⟩
  clear hown2 hgrow2 HO1 hb1 hs1
  go_wp2
  go_loopw [11, 12] (fun vb vi wr => ∃ j : Nat, j ≤ 4 ∧ vi = .int .i64 (3 - (j : Int)) ∧ R w wr V u 4 117 vb j) (fun _ vi _ => (intOf vi + 1).toNat)
  case atStart => exact ⟨0, by omega, by go_num, HR2.out⟩
  case round =>
    obtain ⟨j, hj, rfl, hR⟩ := hrel
    have HR := hid hR
    have hsr : w.heap.size ≤ wr.heap.size := hR.2.size
    clear hR HR2
    by_cases hjD : j < 4
    · obtain ⟨i, hi⟩ : ∃ i : Nat, (3 : Int) - (j : Int) = i := ⟨3 - j, by omega⟩
      have hi7 : i ≤ 3 := by omega
      have hin : i = 4 - 1 - j := by omega
      have hnib := nib_bits V 4 j i hV2 hin
      have hd := nib_lt V 4 j
      have hbe : upB u 4 j = (bits .and .u8 ((u : Int) / 2 ^ i) 1 == 1) := by unfold upB; rw [hin]
      obtain ⟨d, hde⟩ : ∃ d, d = nibAt V 4 j := ⟨_, rfl⟩
      rw [← hde] at hnib hd
      obtain ⟨b, hbb⟩ : ∃ b, b = upB u 4 j := ⟨_, rfl⟩
      have hup : (bits .and .u8 ((u : Int) / 2 ^ i) 1 == 1) = b := by rw [hbb, hbe]
      have HDE := hid hde.symm
      have HB := hid hbb.symm
      clear hin hbe hde hbb
      by_cases hbt : b = true
      · have hidx : ∀ W : World, (Instr.index 9 (.string { data := #[48, 49, 50, 51, 52, 53, 54, 55, 56, 57, 65, 66, 67, 68, 69, 70] }) (.int .u32 (d : Int))).run Yba.prog W = .ok (.int .u8 ((hexc d true : Nat) : Int)) W := fun W => index_hi d hd W
        have hcb : hexc d true = hexc (nibAt V 4 j) (upB u 4 j) := by rw [HDE.out, HB.out, hbt]
        have HCB := hid hcb
        clear hcb
        generalize hexc d true = c at hidx HCB
        subst hbt
        go_wp2_with (at_builtin; refine wpList_append_own _ rfl _ _ 30 rfl w.heap.size 5 i0 (.int .u8 0) 1 1 Yba.underlying30 I5.out Z0.out Z1.out Z2.out rfl (by decide) _ _ _ rfl (HR.out.1.alloc _) ⟨wr.heap.size, 0, none⟩ 1 1 [.int .u8 (c : Int)] rfl rfl ?etrue1 ?etrue2 ?etrue3 ?etrue4 ?etrue5 ?_)
        case etrue1 =>
          intro q y hq
          match q, hq with
          | 0, hq => simp at hq; subst hq; simp [Addr.add]
        case etrue2 => intro y hy; simp at hy; subst hy; rfl
        case etrue3 => unfold maxLen; omega
        case etrue4 => omega
        case etrue5 => simp; omega
        intro v' w' hown' hgrow' _
        have R2 := hid (HR.out.step HCB.out hown' hgrow')
        clear hown' hgrow' hidx
        go_wp2
        go_roundw
        case rel => exact ⟨j + 1, by omega, by go_num, R2.out⟩
        case measure => simp [intOf]; omega
      · have hbt : b = false := by simpa using hbt
        have hidx : ∀ W : World, (Instr.index 9 (.string { data := #[48, 49, 50, 51, 52, 53, 54, 55, 56, 57, 97, 98, 99, 100, 101, 102] }) (.int .u32 (d : Int))).run Yba.prog W = .ok (.int .u8 ((hexc d false : Nat) : Int)) W := fun W => index_lo d hd W
        have hcb : hexc d false = hexc (nibAt V 4 j) (upB u 4 j) := by rw [HDE.out, HB.out, hbt]
        have HCB := hid hcb
        clear hcb
        generalize hexc d false = c at hidx HCB
        subst hbt
        go_wp2_with (at_builtin; refine wpList_append_own _ rfl _ _ 30 rfl w.heap.size 5 i0 (.int .u8 0) 1 1 Yba.underlying30 I5.out Z0.out Z1.out Z2.out rfl (by decide) _ _ _ rfl (HR.out.1.alloc _) ⟨wr.heap.size, 0, none⟩ 1 1 [.int .u8 (c : Int)] rfl rfl ?efalse1 ?efalse2 ?efalse3 ?efalse4 ?efalse5 ?_)
        case efalse1 =>
          intro q y hq
          match q, hq with
          | 0, hq => simp at hq; subst hq; simp [Addr.add]
        case efalse2 => intro y hy; simp at hy; subst hy; rfl
        case efalse3 => unfold maxLen; omega
        case efalse4 => omega
        case efalse5 => simp; omega
        intro v' w' hown' hgrow' _
        have R2 := hid (HR.out.step HCB.out hown' hgrow')
        clear hown' hgrow' hidx
        go_wp2
        go_roundw
        case rel => exact ⟨j + 1, by omega, by go_num, R2.out⟩
        case measure => simp [intOf]; omega
    · have hje : j = 4 := by omega
      subst hje
      go_wp2_with (at_builtin; refine Lib.wpList_append_own_string _ rfl _ _ 30 9 rfl w.heap.size 5 i0 Yba.underlying30 Yba.underlying9 I5.out Z0.out Z1.out Z2.out _ _ _ rfl HR.out.1 tail rfl ?f1 ?f2 ?f3 ?_)
      case f1 => unfold maxLen; omega
      case f2 => omega
      case f3 => exact hsr
      intro v3 w3 hown3 hgrow3 _
      have hb3 : Below w.heap.size w w3 := HR.out.2.grown hgrow3 hsr (fun k hk => (HR.out.1.lt k hk).1)
      have htl : tail.data.toList.length = tail.size := by simp
      have hconv := conv_own (l := [92, 117] ++ digs V 4 (upB u 4) 4 ++ tail.data.toList) (by rw [bc_append]; exact hown3) (by simp [digs_length]; omega) (by omega)
      have hE := esc_of V 4 (upB u 4) 117 tail.data.toList HV.out hV2 (by omega) (by omega)
      have H8 := hid (escape4 _ V _ hE (by rw [List.append_assoc]; exact esc_head _ 117) w3)
      clear hown3 hgrow3 hE htl
      generalize (⟨([92, 117] ++ digs V 4 (upB u 4) 4 ++ tail.data.toList).toArray⟩ : ByteArray) = S at hconv H8
      go_wp2_with (go_at_call 8; refine H8.out.mono ?_; rintro e w' ⟨rfl, rfl⟩)
      go_ret
      exact ⟨rfl, hb3⟩

set_option maxRecDepth 100000 in
set_option maxHeartbeats 400000 in
theorem walk_long (a0 : Int) (a1 : Bool) (a2 : Int) (a3 : ByteArray) (w : World) (h : 1048576 < a3.size) :
    Calls Yba.prog 4 #[.int .u32 a0, .bool a1, .int .u8 a2, .string a3] w fun e w' => e = .returned (.bool true) ∧ Below w.heap.size w w' := by
  have h' : (1048576 : Int) < a3.size := by omega
  go_enter Yba.func4, Yba.ntmps4
  go_wp2
  go_ret
  exact ⟨rfl, Below.refl _ _⟩

theorem mask16 (x : Nat) (h : x < 4294967296) : bits .and .u32 (x : Int) 65535 = ((x % 65536 : Nat) : Int) := by
  have e : (65535 : Int) = 2 ^ 16 - 1 := by decide
  rw [e, bits_mask .u32 32 (by decide) (fun n h0 h1 => IntWalk.u32_in n ⟨h0, by omega⟩) 16 (by decide) _ (by omega) (by omega)]
  omega

theorem walk (a0 : Int) (a1 : Bool) (a2 : Int) (a3 : ByteArray) (w0 : (Lit.int .u32 a0).wf = true) (w2 : (Lit.int .u8 a2).wf = true) (w : World) :
    Calls Yba.prog 4 #[.int .u32 a0, .bool a1, .int .u8 a2, .string a3] w fun e w' => e = .returned (.bool true) ∧ Below w.heap.size w w' := by
  by_cases h : 1048576 < a3.size
  · exact walk_long a0 a1 a2 a3 w h
  · have hb := bounds_u32 w0
    have hc := bounds_u8 w2
    obtain ⟨x, rfl⟩ := Int.eq_ofNat_of_zero_le hb.1
    obtain ⟨u, rfl⟩ := Int.eq_ofNat_of_zero_le hc.1
    cases a1 with
    | true => exact walk8 x u a3 (by omega) (by omega) (by omega) (by omega) x rfl w
    | false => exact walk4 (x % 65536) u a3 (by omega) (by omega) (by omega) (by omega) x (mask16 x (by omega)) w

theorem own : ownKnob Yba.prog.godebug = none := by kernel_rfl

set_option maxRecDepth 100000 in
theorem lifted (os : Os) (started : os.Started) (H : Type) (enc : TypeId × Value → H) :
    ReturnsInHanded {} Yba.checked os 4 .any (Rows.lawS1585ABuildSpec.pre6 enc Yba.prog Yba.f4 Rows.lawS1585ABuildRow.domain false) (Rows.lawS1585ABuildSpec.post enc Yba.prog Yba.f4 false true false false) := by
  refine returnsInHanded_of_change (C := Yba.checked) own started (by kernel_rfl) Yba.func4
    (ChangeSpec.witness6 (enc := enc) (C := Yba.checked) false ⟨#[], #[.int .u32 0, .bool false, .int .u8 0, .string ByteArray.empty], []⟩ 8 (by kernel_rfl) (by kernel_rfl) (by kernel_rfl) (by kernel_rfl)) ?_
  intro W base args ds gs before hval0 hW hcnd _
  have hval : ∀ (j : Nat) t v, Yba.f4.params[j]? = some t → args[j]? = some v → Value.okWide Yba.prog W .any base t v := hval0
  have hW' := hW
  obtain ⟨p, q, hA0, hV, rfl, hfz, hnd⟩ := hW
  have hA : DataW.TrodAll enc Yba.prog W 0 (fun _ => true) true Yba.f4.params.toList args.toList ds p := hA0
  rw [Yba.params4] at hA hval
  obtain ⟨v0, vs0, d0, ds0, p0, q0, hargs, rfl, rfl, h0, r0⟩ := trodAll_cons hA
  obtain ⟨v1, vs1, d1, ds1, p1, q1, rfl, rfl, rfl, h1, r1⟩ := trodAll_cons r0
  obtain ⟨v2, vs2, d2, ds2, p2, q2, rfl, rfl, rfl, h2, r2⟩ := trodAll_cons r1
  obtain ⟨v3, vs3, d3, ds3, p3, q3, rfl, rfl, rfl, h3, r3⟩ := trodAll_cons r2
  obtain ⟨rfl, rfl, rfl⟩ := trodAll_nil r3
  obtain rfl : args = #[v0, v1, v2, v3] := by cases args; simp_all
  obtain ⟨rfl, rfl⟩ := trodVars_none hV
  obtain ⟨a0, rfl, rfl, rfl, w0⟩ := open_int Yba.underlying22 (hval 0 22 v0 rfl rfl) h0
  obtain ⟨a1, rfl, rfl, rfl⟩ := open_bool Yba.underlying4 (hval 1 4 v1 rfl rfl) h1
  obtain ⟨a2, rfl, rfl, rfl, w2⟩ := open_int Yba.underlying5 (hval 2 5 v2 rfl rfl) h2
  obtain ⟨a3, rfl, rfl, rfl, w3⟩ := open_string Yba.underlying9 (hval 3 9 v3 rfl rfl) h3
  clear hA0 hval0
  simp only [List.append_nil] at hW'
  refine (walk a0 a1 a2 a3 w0 w2 W).mono fun e W' ⟨he, bel⟩ => ?_
  subst he
  exact ⟨_, rfl, _, _, _, [], [], [], hW', trodAll_mk1 (shut_bool Yba.underlying4 _), (trodAll_cons_mk (shut_int Yba.underlying22 w0) (trodAll_cons_mk (shut_bool Yba.underlying4 a1) (trodAll_cons_mk (shut_int Yba.underlying5 w2) (trodAll_cons_mk (shut_string Yba.underlying9 w3) trodAll_mk0)))), rfl, bel.frame _, fun h => by cases h⟩

theorem over : Rows.lawS1585ABuildRow.holds Yba.pinned (OpenSpec.ofChange Rows.lawS1585ABuildSpec) :=
  OpenClaim.holds_of_wide 4 Yba.f4 rfl rfl rfl rfl rfl rfl rfl ⟨rfl, rfl, rfl, rfl, rfl⟩ rfl rfl rfl rfl rfl (by kernel_rfl) Yba.func4 (by kernel_rfl)
    (of_decide_eq_true (by kernel_rfl)) (by unfold Func.isWrapper; first | (rw [if_pos (by decide +kernel)]; kernel_rfl) | (rw [if_neg (by decide +kernel)]; exact ⟨rfl, rfl⟩))
    (fun os started H enc _ => lifted os started H enc)

/-- THE STATEMENT -/
theorem proved : Rows.LawS1585ABuildSaid :=
  over
#print axioms proved
end Go.Proofs.Ybulkafum.lawS1585ABuild
