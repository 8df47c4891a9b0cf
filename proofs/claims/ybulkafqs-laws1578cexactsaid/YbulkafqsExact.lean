import Derived.Test.YbulkafqsBase
namespace Go.Proofs.Ybulkafqs.lawS1578CExact
open Go.ChangeShapes Go.WideShapes Go.ChangeAt Go.RowKit
open Go.ChangeMaps (open_string shut_string)
set_option linter.unusedVariables false

theorem own : ownKnob Yba.prog.godebug = none := by kernel_rfl

set_option maxRecDepth 100000 in
set_option maxHeartbeats 400000 in
theorem walk_short (a0 : ByteArray) (h : a0.size = 0 ∨ 1024 < a0.size) (w : World) :
    Calls Yba.prog 3 #[.string a0] w fun e w' => e = .returned (.bool true) ∧ Below w.heap.size w w' := by
  rcases h with h | h
  · go_enter Yba.func3, Yba.ntmps3
    go_wp2
    go_ret
    exact ⟨rfl, Below.refl _ _⟩
  · have h0 : ((a0.size : Int) == 0) = false := by rw [beq_eq_false_iff_ne]; omega
    go_enter Yba.func3, Yba.ntmps3
    go_wp2
    go_ret
    exact ⟨rfl, Below.refl _ _⟩

set_option maxRecDepth 100000 in
set_option maxHeartbeats 400000 in
theorem walk_mid (s : ByteArray) (n : Nat) (hn : s.size = n + 1) (hle : n < 1024) (w : World) :
    Calls Yba.prog 3 #[.string s] w fun e w' => e = .returned (.bool true) ∧ Below w.heap.size w w' := by
  have h0 : ((n : Int) + 1 == 0) = false := by simp; omega
  go_enter Yba.func3, Yba.ntmps3
  go_wp2_with fail
  refine (prefixEnd_any s n hn (by omega) _).mono ?_
  rintro e w1 ⟨cap, rfl, hcap, hcell, hlast, hb, hsz⟩
  go_wp2
  go_loopw [5] (fun i wr => ∃ k : Nat, k ≤ n ∧ i = .int .i64 k ∧ (∀ j (h : j < n), wr.cell? ⟨w.heap.size, j, none⟩ = some (.int .u8 ((s[j]'(by omega)).toNat : Int))) ∧
      wr.cell? ⟨w.heap.size, n, none⟩ = some (.int .u8 ((((s[n]'(by omega)).toNat : Int) + 1) % 256)) ∧ Below w.heap.size w wr) (fun i _ => n - (intOf i).toNat)
  case atStart => exact ⟨0, by omega, rfl, hcell, hlast, hb⟩
  case round =>
    obtain ⟨k, hk, rfl, hc, hl, hbr⟩ := hrel
    clear hcell hlast hb hsz
    have HC : Hid (∀ j (h : j < n), wr.cell? ⟨w.heap.size, j, none⟩ = some (.int .u8 ((s[j]'(by omega)).toNat : Int))) := hc
    by_cases hlt : k < n
    · have hck := hc k hlt
      have hkn : (k : Int) < (n : Int) + 1 := by omega
      clear hc
      go_wp2
      go_region
      go_wp2
      go_roundw
      case rel => exact ⟨k + 1, by omega, by go_num, HC.out, hl, hbr.drew⟩
      case measure => simp [intOf]; omega
    · obtain rfl : k = n := by omega
      have hwk : IntKind.i64.wrap (k : Int) = k := IntWalk.i64_in _ ⟨by omega, by omega⟩
      have hkn : (k : Int) < (k : Int) + 1 := by omega
      clear hc
      go_wp2
      go_region
      go_wp2
      go_ret
      refine ⟨?_, hbr.drew⟩
      simp

theorem walk (a0 : ByteArray) (w : World) :
    Calls Yba.prog 3 #[.string a0] w fun e w' => e = .returned (.bool true) ∧ Below w.heap.size w w' := by
  by_cases h : a0.size = 0 ∨ 1024 < a0.size
  · exact walk_short a0 h w
  · exact walk_mid a0 (a0.size - 1) (by omega) (by omega) w

set_option maxRecDepth 100000 in
theorem lifted (os : Os) (started : os.Started) (H : Type) (enc : TypeId × Value → H) :
    ReturnsInHanded {} Yba.checked os 3 .any (Rows.lawS1578CExactSpec.pre6 enc Yba.prog Yba.f3 Rows.lawS1578CExactRow.domain false) (Rows.lawS1578CExactSpec.post enc Yba.prog Yba.f3 false true false false) := by
  refine returnsInHanded_of_change (C := Yba.checked) own started (by kernel_rfl) Yba.func3
    (ChangeSpec.witness6 (enc := enc) (C := Yba.checked) false ⟨#[], #[.string ByteArray.empty], []⟩ 8 (by kernel_rfl) (by kernel_rfl) (by kernel_rfl) (by kernel_rfl)) ?_
  intro W base args ds gs before hval0 hW hcnd _
  have hval : ∀ (j : Nat) t v, Yba.f3.params[j]? = some t → args[j]? = some v → Value.okWide Yba.prog W .any base t v := hval0
  have hW' := hW
  obtain ⟨p, q, hA0, hV, rfl, hfz, hnd⟩ := hW
  have hA : DataW.TrodAll enc Yba.prog W 0 (fun _ => true) true Yba.f3.params.toList args.toList ds p := hA0
  rw [Yba.params3] at hA hval
  obtain ⟨v0, vs0, d0, ds0, p0, q0, hargs, rfl, rfl, h0, r0⟩ := trodAll_cons hA
  obtain ⟨rfl, rfl, rfl⟩ := trodAll_nil r0
  obtain rfl : args = #[v0] := by cases args; simp_all
  obtain ⟨rfl, rfl⟩ := trodVars_none hV
  obtain ⟨a0, rfl, rfl, rfl, w0⟩ := open_string Yba.underlying9 (hval 0 9 v0 rfl rfl) h0
  clear hA0 hval0
  simp only [List.append_nil] at hW'
  refine (walk a0 W).mono fun e W' ⟨he, bel⟩ => ?_
  subst he
  exact ⟨_, rfl, _, _, _, [], [], [], hW', trodAll_mk1 (shut_bool Yba.underlying4 _), (trodAll_cons_mk (shut_string Yba.underlying9 w0) trodAll_mk0), rfl, bel.frame _, fun h => by cases h⟩

theorem over : Rows.lawS1578CExactRow.holds Yba.pinned (OpenSpec.ofChange Rows.lawS1578CExactSpec) :=
  OpenClaim.holds_of_wide 3 Yba.f3 rfl rfl rfl rfl rfl rfl rfl ⟨rfl, rfl, rfl, rfl, rfl⟩ rfl rfl rfl rfl rfl (by kernel_rfl) Yba.func3 (by kernel_rfl)
    (of_decide_eq_true (by kernel_rfl)) (by unfold Func.isWrapper; first | (rw [if_pos (by decide +kernel)]; kernel_rfl) | (rw [if_neg (by decide +kernel)]; exact ⟨rfl, rfl⟩))
    (fun os started H enc _ => lifted os started H enc)

/-- THE STATEMENT -/
theorem proved : Rows.LawS1578CExactSaid :=
  over
#print axioms proved
end Go.Proofs.Ybulkafqs.lawS1578CExact
