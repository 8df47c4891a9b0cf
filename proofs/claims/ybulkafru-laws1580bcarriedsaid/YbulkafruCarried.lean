import Derived.Test.YbulkafruCarriedA
namespace Go.Proofs.Ybulkafru.lawS1580BCarried
open Go.ChangeShapes Go.WideShapes Go.ChangeAt Go.RowKit
open Go.ChangeMaps (open_string shut_string)
set_option linter.unusedVariables false
theorem hid {p : Prop} (h : p) : Hid p := h

theorem met (w wr : World) (k : Nat) (a4 a6 a7 : Int) (C : Array Value) (F By : Int) (h0 : C[0]? = some (.int .i64 F)) (h4 : C[4]? = some (.int .i64 a4)) (h5 : C[5]? = some (.int .i64 By))
    (hs : Snd wr w.heap.size k (fun i => if i < k then wrap64 (a6 + i) else 0) (fun i => if i < k then wrap64 (a7 - i) else 0))
    (hE : wr.cell? ⟨w.heap.size + 1, 3, none⟩ = some (.slice (some ⟨w.heap.size, 0, none⟩) k k)) (hb : Below w.heap.size w wr) (hsz : wr.heap.size = w.heap.size + 2) :
    ∃ F By : Int, (wr.alloc (.cells C 47)).cell? ⟨w.heap.size + 2, 0, none⟩ = some (.int .i64 F) ∧ (wr.alloc (.cells C 47)).cell? ⟨w.heap.size + 2, 4, none⟩ = some (.int .i64 a4) ∧ (wr.alloc (.cells C 47)).cell? ⟨w.heap.size + 2, 5, none⟩ = some (.int .i64 By) ∧
        Snd (wr.alloc (.cells C 47)) w.heap.size k (fun i => wrap64 (a6 + i)) (fun i => wrap64 (a7 - i)) ∧ (wr.alloc (.cells C 47)).cell? ⟨w.heap.size + 1, 3, none⟩ = some (.slice (some ⟨w.heap.size, 0, none⟩) k k) ∧ Below w.heap.size w (wr.alloc (.cells C 47)) ∧ (wr.alloc (.cells C 47)).heap.size = w.heap.size + 3 := by
  have hbb : Below wr.heap.size wr (wr.alloc (.cells C 47)) := (Below.refl _ _).alloc (Nat.le_refl _) _
  have e : ∀ o, (wr.alloc (.cells C 47)).cell? ⟨w.heap.size + 2, o, none⟩ = C[o]? := fun o => by rw [← hsz]; exact World.cell?_alloc_mark wr C 47 (0, 0) o
  refine ⟨F, By, (e 0).trans h0, (e 4).trans h4, (e 5).trans h5, ?_, (hbb.cell (p := ⟨w.heap.size + 1, 3, none⟩) (by simp; omega)).trans hE, hb.alloc (by omega) _, by simp; omega⟩
  exact (hs.congr (fun i hi => if_pos hi) (fun i hi => if_pos hi)).below hbb (by omega)

theorem upd_step (f : Nat → Int) (k i : Nat) : upd (fun i => if i < k then f i else 0) k (f k) i = if i < k + 1 then f i else 0 := by
  unfold upd
  by_cases e : i = k
  · subst e; simp
  · by_cases e2 : i < k
    · simp [e, e2, show i < k + 1 from by omega]
    · simp [e, e2, show ¬ i < k + 1 from by omega]

theorem gg_ne (g : Nat → Int) {q i : Nat} {F N : Int} (h : ¬ i = q) : gg g q F N i = g i := by
  unfold gg upd; split
  · exact if_neg h
  · rfl
theorem cc_ne (c : Nat → Int) {q i : Nat} {By N : Int} (h : ¬ i = q) : cc c q By N i = c i := by
  unfold cc upd; split
  · exact if_neg h
  · rfl
theorem gg_hit (g : Nat → Int) {q : Nat} {F N : Int} (h : N = 0) (h2 : F = 1 + (q : Int)) : gg g q F N q = wrap64 (g q + 1) := by
  unfold gg upd; rw [if_pos ⟨h, h2⟩]; exact if_pos rfl
theorem gg_miss (g : Nat → Int) {q : Nat} {F N : Int} (h : ¬ (N = 0 ∧ F = 1 + (q : Int))) : gg g q F N q = g q := by
  unfold gg; rw [if_neg h]
theorem cc_hit (c : Nat → Int) {q : Nat} {By N : Int} (h : ¬ N = 0) (h2 : By = 1 + (q : Int)) : cc c q By N q = N := by
  unfold cc upd; rw [if_pos ⟨h, h2⟩]; exact if_pos rfl
theorem cc_miss (c : Nat → Int) {q : Nat} {By N : Int} (h : ¬ (N ≠ 0 ∧ By = 1 + (q : Int))) : cc c q By N q = c q := by
  unfold cc; rw [if_neg h]

set_option maxRecDepth 100000 in
set_option maxHeartbeats 1000000 in
theorem walk (a0 a1 a2 a3 a4 a5 a6 a7 : Int) (h0 : 0 ≤ a0 ∧ a0 ≤ 255) (h1 : 0 ≤ a1 ∧ a1 ≤ 255) (h2 : 0 ≤ a2 ∧ a2 ≤ 255) (w : World) :
    Calls Yba.prog 3 #[.int .u8 a0, .int .u8 a1, .int .u8 a2, .int .i64 a3, .int .i64 a4, .int .i64 a5, .int .i64 a6, .int .i64 a7] w fun e w' => e = .returned (.bool true) ∧ Below w.heap.size w w' := by
  obtain ⟨h00, h01⟩ := h0
  obtain ⟨h10, h11⟩ := h1
  obtain ⟨h20, h21⟩ := h2
  obtain ⟨n, hn⟩ : ∃ n : Nat, 1 + a0 % 16 = n := ⟨(1 + a0 % 16).toNat, by omega⟩
  have hn1 : 1 ≤ n := by omega
  have hn2 : n ≤ 16 := by omega
  obtain ⟨q, hq⟩ : ∃ q : Nat, a1 % (n : Int) = q := ⟨(a1 % n).toNat, by have := Int.emod_nonneg a1 (b := n) (by omega); omega⟩
  have hqn : q < n := by have := Int.emod_lt_of_pos a1 (b := n) (by omega); omega
  obtain ⟨C, hCs, hCz, hmk⟩ := made n hn2
  have HCz : Hid (zeroAt C n) := hCz
  clear hCz hCs
  go_enter Yba.func3, Yba.ntmps3
  go_wp2
  clear hq hn hmk
  go_loopw [47] (fun i wr => ∃ k : Nat, k ≤ n ∧ i = .int .i64 k ∧ Snd wr w.heap.size n (fun i => if i < k then wrap64 (a6 + i) else 0) (fun i => if i < k then wrap64 (a7 - i) else 0) ∧
      wr.cell? ⟨w.heap.size + 1, 3, none⟩ = some (.slice (some ⟨w.heap.size, 0, none⟩) n n) ∧ Below w.heap.size w wr ∧ wr.heap.size = w.heap.size + 2) (fun i _ => n - (intOf i).toNat)
  case atStart => 
    refine ⟨0, by omega, rfl, ?_, ?_, ?_, ?_⟩
    · simp only [Nat.not_lt_zero, if_false]
      exact (Snd.start w HCz.out).below ((Below.refl _ _).alloc (Nat.le_refl _) _) (by simp)
    · have e : (w.alloc (Obj.cells C 43)).heap.size = w.heap.size + 1 := by simp
      rw [← e]; exact World.cell?_alloc_mark (w.alloc (Obj.cells C 43)) _ 34 (0, 0) 3
    · exact ((Below.refl _ _).alloc (Nat.le_refl _) _).alloc (by simp) _
    · simp
  case round =>
    obtain ⟨k, hk, rfl, hsnd, hE, hb, hsz⟩ := hrel
    have HS : Hid (Snd wr w.heap.size n (fun i => if i < k then wrap64 (a6 + i) else 0) (fun i => if i < k then wrap64 (a7 - i) else 0)) := hsnd
    clear hsnd HCz
    by_cases hlt : k < n
    · have hfz := HS.out.2
      obtain ⟨_, _, _, _, hg, hc, _⟩ := HS.out.1 k hlt
      have H1 := hid (HS.out.set12 hlt (wrap64 (a6 + k)))
      have hc' := (H1.out.1 k hlt).2.2.2.2.2.1
      go_wp2
      go_roundw
      case rel =>
        refine ⟨k + 1, by omega, by go_num, (H1.out.set13 hlt (wrap64 (a7 - k))).congr ?_ ?_, ?_, (hb.setCell (p := ⟨w.heap.size, _, none⟩) (Nat.le_refl _) _).setCell (p := ⟨w.heap.size, _, none⟩) (Nat.le_refl _) _, by simpa using hsz⟩
        · intro i hi; exact upd_step (fun i => wrap64 (a6 + i)) k i
        · intro i hi; exact upd_step (fun i => wrap64 (a7 - i)) k i
        · rw [World.cell?_setCell_other _ _ _ _ (by simp), World.cell?_setCell_other _ _ _ _ (by simp)]; exact hE
      case measure => simp [intOf]; omega
    · have hkn : n = k := by omega
      subst hkn
      go_upto_block 2 with fail
      go_cut [] from 29 (fun wc => ∃ F By : Int, wc.cell? ⟨w.heap.size + 2, 0, none⟩ = some (.int .i64 F) ∧ wc.cell? ⟨w.heap.size + 2, 4, none⟩ = some (.int .i64 a4) ∧ wc.cell? ⟨w.heap.size + 2, 5, none⟩ = some (.int .i64 By) ∧
        Snd wc w.heap.size n (fun i => wrap64 (a6 + i)) (fun i => wrap64 (a7 - i)) ∧ wc.cell? ⟨w.heap.size + 1, 3, none⟩ = some (.slice (some ⟨w.heap.size, 0, none⟩) n n) ∧ Below w.heap.size w wc ∧ wc.heap.size = w.heap.size + 3)
      case first =>
        go_wp2
        all_goals
          go_meet
          case rel => exact met w wr n a4 a6 a7 _ _ _ rfl rfl rfl HS.out hE hb hsz
      case rest =>
        obtain ⟨F, By, h0, h4, h5, hsnd, hEc, hbc, hszc⟩ := hcut
        have HS2 := hid hsnd
        clear hsnd HS hE hb hsz
        go_wp2
        go_region
        go_wp2_with fail
        refine (carried_any wc.drew w.heap.size (w.heap.size + 1) (w.heap.size + 2) n q _ _ F a4 By hqn hn2 (by omega) (by omega) HS2.out hEc h0 h4 h5).mono ?_
        rintro e w2 ⟨rfl, hto⟩
        have g0 : w2.cell? ⟨w.heap.size + 2, 0, none⟩ = some (.int .i64 F) := (hto.2.1 _ _ (by omega)).trans h0
        have g4 : w2.cell? ⟨w.heap.size + 2, 4, none⟩ = some (.int .i64 a4) := (hto.2.1 _ _ (by omega)).trans h4
        have g5 : w2.cell? ⟨w.heap.size + 2, 5, none⟩ = some (.int .i64 By) := (hto.2.1 _ _ (by omega)).trans h5
        have gE : w2.cell? ⟨w.heap.size + 1, 3, none⟩ = some (.slice (some ⟨w.heap.size, 0, none⟩) n n) := (hto.2.1 _ _ (by omega)).trans hEc
        have HT := hid hto
        have hbT : Below w.heap.size w w2 := hbc.drew.trans hto.2.2.1
        clear hto h0 h4 h5 hEc hbc hszc HS2
        go_wp2
        go_loop [25] (fun i => ∃ k : Nat, k ≤ n ∧ i = .int .i64 k) (fun i => n - (intOf i).toNat)
        case atStart => exact ⟨0, by omega, rfl⟩
        case round =>
          obtain ⟨i, hi, rfl⟩ := hrel
          clear g0 g4 g5
          by_cases hin : i < n
          · obtain ⟨c0, c3, c4, c7, c12, c13, c14⟩ := HT.out.1.1 i hin
            by_cases hiq : i = q
            · subst hiq
              by_cases e1 : a4 = 0
              · have b1 : (a4 == 0) = true := by simpa using e1
                have b2 : (a4 != 0) = false := by simpa using e1
                rw [cc_miss _ (by rintro ⟨h, _⟩; exact h e1)] at c13
                by_cases e2 : F = 1 + (i : Int)
                · have b3 : (F == 1 + (i : Int)) = true := by simpa using e2
                  rw [gg_hit _ e1 e2] at c12
                  clear e1 e2 HT
                  go_wp2
                  go_round
                  case rel => exact ⟨i + 1, by omega, by go_num⟩
                  case measure => simp [intOf]; omega
                · have b3 : (F == 1 + (i : Int)) = false := by simpa using e2
                  rw [gg_miss _ (by rintro ⟨_, h⟩; exact e2 h)] at c12
                  clear e1 e2 HT
                  go_wp2
                  go_round
                  case rel => exact ⟨i + 1, by omega, by go_num⟩
                  case measure => simp [intOf]; omega
              · have b1 : (a4 == 0) = false := by simpa using e1
                have b2 : (a4 != 0) = true := by simpa using e1
                rw [gg_miss _ (by rintro ⟨h, _⟩; exact e1 h)] at c12
                by_cases e2 : By = 1 + (i : Int)
                · have b3 : (By == 1 + (i : Int)) = true := by simpa using e2
                  rw [cc_hit _ e1 e2] at c13
                  clear e1 e2 HT
                  go_wp2
                  go_round
                  case rel => exact ⟨i + 1, by omega, by go_num⟩
                  case measure => simp [intOf]; omega
                · have b3 : (By == 1 + (i : Int)) = false := by simpa using e2
                  rw [cc_miss _ (by rintro ⟨_, h⟩; exact e2 h)] at c13
                  clear e1 e2 HT
                  go_wp2
                  go_round
                  case rel => exact ⟨i + 1, by omega, by go_num⟩
                  case measure => simp [intOf]; omega
            · have hiq' : ((i : Int) == (q : Int)) = false := by rw [beq_eq_false_iff_ne]; omega
              rw [gg_ne _ hiq] at c12
              rw [cc_ne _ hiq] at c13
              go_wp2
              go_round
              case rel => exact ⟨i + 1, by omega, by go_num⟩
              case measure => simp [intOf]; omega
          · go_wp2
            go_ret
            exact ⟨rfl, hbT⟩
theorem own : ownKnob Yba.prog.godebug = none := by kernel_rfl

set_option maxRecDepth 100000 in
theorem lifted (os : Os) (started : os.Started) (H : Type) (enc : TypeId × Value → H) :
    ReturnsInHanded {} Yba.checked os 3 .any (Rows.lawS1580BCarriedSpec.pre6 enc Yba.prog Yba.f3 Rows.lawS1580BCarriedRow.domain false) (Rows.lawS1580BCarriedSpec.post enc Yba.prog Yba.f3 false true false false) := by
  refine returnsInHanded_of_change (C := Yba.checked) own started (by kernel_rfl) Yba.func3
    (ChangeSpec.witness6 (enc := enc) (C := Yba.checked) false ⟨#[], #[.int .u8 0, .int .u8 0, .int .u8 0, .int .i64 0, .int .i64 0, .int .i64 0, .int .i64 0, .int .i64 0], []⟩ 8 (by kernel_rfl) (by kernel_rfl) (by kernel_rfl) (by kernel_rfl)) ?_
  intro W base args ds gs before hval0 hW hcnd _
  have hval : ∀ (j : Nat) t v, Yba.f3.params[j]? = some t → args[j]? = some v → Value.okWide Yba.prog W .any base t v := hval0
  have hW' := hW
  obtain ⟨p, q, hA0, hV, rfl, hfz, hnd⟩ := hW
  have hA : DataW.TrodAll enc Yba.prog W 0 (fun _ => true) true Yba.f3.params.toList args.toList ds p := hA0
  rw [Yba.params3] at hA hval
  obtain ⟨v0, vs0, d0, ds0, p0, q0, hargs, rfl, rfl, h0, r0⟩ := trodAll_cons hA
  obtain ⟨v1, vs1, d1, ds1, p1, q1, rfl, rfl, rfl, h1, r1⟩ := trodAll_cons r0
  obtain ⟨v2, vs2, d2, ds2, p2, q2, rfl, rfl, rfl, h2, r2⟩ := trodAll_cons r1
  obtain ⟨v3, vs3, d3, ds3, p3, q3, rfl, rfl, rfl, h3, r3⟩ := trodAll_cons r2
  obtain ⟨v4, vs4, d4, ds4, p4, q4, rfl, rfl, rfl, h4, r4⟩ := trodAll_cons r3
  obtain ⟨v5, vs5, d5, ds5, p5, q5, rfl, rfl, rfl, h5, r5⟩ := trodAll_cons r4
  obtain ⟨v6, vs6, d6, ds6, p6, q6, rfl, rfl, rfl, h6, r6⟩ := trodAll_cons r5
  obtain ⟨v7, vs7, d7, ds7, p7, q7, rfl, rfl, rfl, h7, r7⟩ := trodAll_cons r6
  obtain ⟨rfl, rfl, rfl⟩ := trodAll_nil r7
  obtain rfl : args = #[v0, v1, v2, v3, v4, v5, v6, v7] := by cases args; simp_all
  obtain ⟨rfl, rfl⟩ := trodVars_none hV
  obtain ⟨a0, rfl, rfl, rfl, w0⟩ := open_int Yba.underlying5 (hval 0 5 v0 rfl rfl) h0
  obtain ⟨a1, rfl, rfl, rfl, w1⟩ := open_int Yba.underlying5 (hval 1 5 v1 rfl rfl) h1
  obtain ⟨a2, rfl, rfl, rfl, w2⟩ := open_int Yba.underlying5 (hval 2 5 v2 rfl rfl) h2
  obtain ⟨a3, rfl, rfl, rfl, w3⟩ := open_int Yba.underlying3 (hval 3 3 v3 rfl rfl) h3
  obtain ⟨a4, rfl, rfl, rfl, w4⟩ := open_int Yba.underlying3 (hval 4 3 v4 rfl rfl) h4
  obtain ⟨a5, rfl, rfl, rfl, w5⟩ := open_int Yba.underlying3 (hval 5 3 v5 rfl rfl) h5
  obtain ⟨a6, rfl, rfl, rfl, w6⟩ := open_int Yba.underlying3 (hval 6 3 v6 rfl rfl) h6
  obtain ⟨a7, rfl, rfl, rfl, w7⟩ := open_int Yba.underlying3 (hval 7 3 v7 rfl rfl) h7
  clear hA0 hval0
  simp only [List.append_nil] at hW'
  refine (walk a0 a1 a2 a3 a4 a5 a6 a7 (bounds_u8 w0) (bounds_u8 w1) (bounds_u8 w2) W).mono fun e W' ⟨he, bel⟩ => ?_
  subst he
  exact ⟨_, rfl, _, _, _, [], [], [], hW', trodAll_mk1 (shut_bool Yba.underlying4 _), (trodAll_cons_mk (shut_int Yba.underlying5 w0) (trodAll_cons_mk (shut_int Yba.underlying5 w1) (trodAll_cons_mk (shut_int Yba.underlying5 w2) (trodAll_cons_mk (shut_int Yba.underlying3 w3) (trodAll_cons_mk (shut_int Yba.underlying3 w4) (trodAll_cons_mk (shut_int Yba.underlying3 w5) (trodAll_cons_mk (shut_int Yba.underlying3 w6) (trodAll_cons_mk (shut_int Yba.underlying3 w7) trodAll_mk0)))))))), rfl, bel.frame _, fun h => by cases h⟩

theorem over : Rows.lawS1580BCarriedRow.holds Yba.pinned (OpenSpec.ofChange Rows.lawS1580BCarriedSpec) :=
  OpenClaim.holds_of_wide 3 Yba.f3 rfl rfl rfl rfl rfl rfl rfl ⟨rfl, rfl, rfl, rfl, rfl⟩ rfl rfl rfl rfl rfl (by kernel_rfl) Yba.func3 (by kernel_rfl)
    (of_decide_eq_true (by kernel_rfl)) (by unfold Func.isWrapper; first | (rw [if_pos (by decide +kernel)]; kernel_rfl) | (rw [if_neg (by decide +kernel)]; exact ⟨rfl, rfl⟩))
    (fun os started H enc _ => lifted os started H enc)

/-- THE STATEMENT -/
theorem proved : Rows.LawS1580BCarriedSaid :=
  over
#print axioms proved
end Go.Proofs.Ybulkafru.lawS1580BCarried
