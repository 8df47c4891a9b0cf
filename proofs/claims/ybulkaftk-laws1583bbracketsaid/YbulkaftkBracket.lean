import Derived.Test.YbulkaftkLog
namespace Go.Proofs.Ybulkaftk.lawS1583BBracket
open Go.ChangeShapes Go.WideShapes Go.ChangeAt Go.RowKit
open Go.ChangeMaps (open_string shut_string)
set_option linter.unusedVariables false

theorem isLog (x : Nat) (hx : x < 4294967296) : IsLog x (Nat.log2 x) ∧ Nat.log2 x ≤ 31 := by
  by_cases h : x = 0
  · subst h
    exact ⟨.inl ⟨by omega, by decide⟩, by decide⟩
  · refine ⟨.inr ⟨Nat.log2_self_le h, Nat.lt_log2_self⟩, ?_⟩
    have := (Nat.log2_lt h (k := 32)).2 (by simpa using hx)
    omega

theorem and_zero {x n : Nat} (hx : x < 4294967296) (hlog : IsLog x n) (h : bits .and .u64 (x : Int) (IntKind.u64.wrap ((x : Int) - 1)) = 0) : x = 0 ∨ x = 2 ^ n := by
  by_cases h0 : x = 0
  · exact .inl h0
  · right
    have e : ((x : Int) - 1) = ((x - 1 : Nat) : Int) := by omega
    rw [e, IntWalk.u64_in _ ⟨by omega, by omega⟩, (bits_nat .u64 64 (by decide) (fun n h0 h1 => IntWalk.u64_in n ⟨h0, by omega⟩) x (x - 1) (by simp; omega) (by simp; omega)).1] at h
    exact and_pred hlog (by omega) (by omega)

theorem top_eq {x n f : Nat} (hn : n ≤ 31) (h : 524288 ≤ f ↔ 2 ^ (2 * n + 1) ≤ x * x) :
    (decide ((524288 : Int) ≤ (n : Int) * 1048576 + (f : Int) - (n : Int) * 1048576) == decide (IntKind.u64.wrap (2 ^ (2 * n + 1)) ≤ (x : Int) * (x : Int))) = true := by
  have hp : (2 : Nat) ^ (2 * n + 1) ≤ 2 ^ 63 := Nat.pow_le_pow_right (by omega) (by omega)
  have hw : IntKind.u64.wrap (2 ^ (2 * n + 1)) = ((2 ^ (2 * n + 1) : Nat) : Int) := by
    have e : ((2 : Int) ^ (2 * n + 1)) = ((2 ^ (2 * n + 1) : Nat) : Int) := by simp
    rw [e]
    have h63 : (2 : Nat) ^ 63 = 9223372036854775808 := by decide
    rw [h63] at hp
    generalize (2 : Nat) ^ (2 * n + 1) = P at hp
    exact IntWalk.u64_in _ ⟨by omega, by omega⟩
  have e2 : ((x : Int) * (x : Int)) = ((x * x : Nat) : Int) := by simp
  rw [hw, e2, beq_iff_eq, decide_eq_decide]
  constructor
  · intro a; have := h.1 (by omega); omega
  · intro a; have := h.2 (by omega); omega

theorem ret_bool {a : Bool} (h : a = true) : Ending.returned (.bool a) = .returned (.bool true) := by rw [h]

set_option maxRecDepth 100000 in
set_option maxHeartbeats 400000 in
theorem walk_nat (x : Nat) (hx : x < 4294967296) (w : World) :
    Calls Yba.prog 3 #[.int .u32 x] w fun e w' => e = .returned (.bool true) ∧ w' = w := by
  obtain ⟨hlog, hn31⟩ := isLog x hx
  generalize Nat.log2 x = n at hlog hn31
  have H6 := hid (bn_any x n hx hlog hn31 w)
  have H7 := log2_any x n hx hlog hn31 w
  have hf1 := iterF_f (x * 2 ^ (31 - n)) 20
  have htop := top_iff hn31 hlog
  have hpow := frac_pow hn31 hlog
  generalize (iterF (x * 2 ^ (31 - n)) 20).2 = f at H7 hf1 htop hpow
  have hf : f < 1048576 := hf1
  replace H7 := hid H7
  have hsq := sq_lt hx
  have hmul : IntKind.u64.wrap ((x : Int) * (x : Int)) = ((x * x : Nat) : Int) := by
    have e : ((x : Int) * (x : Int)) = ((x * x : Nat) : Int) := by simp
    rw [e]; exact IntWalk.u64_in _ ⟨by omega, by omega⟩
  have HLOG := hid hlog
  have HTOP := hid htop
  have HPOW := hid hpow
  have HSQ := hid hsq
  clear hf1 htop hpow hlog hsq
  go_enter Yba.func3, Yba.ntmps3
  go_wp2_with (first | (go_at_call 6; refine H6.out.mono ?_; rintro e w' ⟨rfl, rfl⟩) | (go_at_call 7; refine H7.out.mono ?_; rintro e w' ⟨rfl, rfl⟩))
  · exfalso
    have h1 : bits .and .u64 (x : Int) (IntKind.u64.wrap ((x : Int) - 1)) = 0 := by assumption
    have h2 : ((n : Int) * 1048576 + (f : Int) != (n : Int) * 1048576) = true := by assumption
    have h3 := HPOW.out (and_zero hx HLOG.out h1)
    subst h3
    simp at h2
  · go_ret
    exact ⟨ret_bool (top_eq hn31 HTOP.out), rfl⟩
  · go_ret
    exact ⟨ret_bool (top_eq hn31 HTOP.out), rfl⟩

theorem walk (a0 : Int) (w0 : (Lit.int .u32 a0).wf = true) (w : World) :
    Calls Yba.prog 3 #[.int .u32 a0] w fun e w' => e = .returned (.bool true) ∧ Grown w w' := by
  have hb := bounds_u32 w0
  obtain ⟨x, rfl⟩ := Int.eq_ofNat_of_zero_le hb.1
  refine (walk_nat x (by omega) w).mono ?_
  rintro e w' ⟨rfl, rfl⟩
  exact ⟨rfl, Grown.refl _⟩

theorem own : ownKnob Yba.prog.godebug = none := by kernel_rfl

set_option maxRecDepth 100000 in
theorem lifted (os : Os) (started : os.Started) (H : Type) (enc : TypeId × Value → H) :
    ReturnsInHanded {} Yba.checked os 3 .any (Rows.lawS1583BBracketSpec.pre6 enc Yba.prog Yba.f3 Rows.lawS1583BBracketRow.domain false) (Rows.lawS1583BBracketSpec.post enc Yba.prog Yba.f3 false true false false) := by
  refine returnsInHanded_of_change (C := Yba.checked) own started (by kernel_rfl) Yba.func3
    (ChangeSpec.witness6 (enc := enc) (C := Yba.checked) false ⟨#[], #[.int .u32 0], []⟩ 8 (by kernel_rfl) (by kernel_rfl) (by kernel_rfl) (by kernel_rfl)) ?_
  intro W base args ds gs before hval0 hW hcnd _
  have hval : ∀ (j : Nat) t v, Yba.f3.params[j]? = some t → args[j]? = some v → Value.okWide Yba.prog W .any base t v := hval0
  have hW' := hW
  obtain ⟨p, q, hA0, hV, rfl, hfz, hnd⟩ := hW
  have hA : DataW.TrodAll enc Yba.prog W 0 (fun _ => true) true Yba.f3.params.toList args.toList ds p := hA0
  rw [Yba.params3] at hA hval
  obtain ⟨v0, vs0, d0, ds0, p0, q0, hargs, rfl, rfl, h0, r0⟩ := trodAll_cons hA
  obtain ⟨rfl, rfl, rfl⟩ := trodAll_nil r0
  obtain rfl : args = #[v0] := by cases args; simp_all
  obtain ⟨rfl, rfl⟩ := trodVars_none hV
  obtain ⟨a0, rfl, rfl, rfl, w0⟩ := open_int Yba.underlying22 (hval 0 22 v0 rfl rfl) h0
  clear hA0 hval0
  simp only [List.append_nil] at hW'
  refine (walk a0 w0 W).mono fun e W' ⟨he, hg⟩ => ?_
  subst he
  exact ⟨_, rfl, post_of_same (pa := []) (pv := []) hW' (fun _ _ _ => (trodAll_cons_mk (shut_bool Yba.underlying4 _) trodAll_mk0)) (fun sp _ => (trodAll_cons_mk (shut_int Yba.underlying22 w0) trodAll_mk0)) (fun _ _ => rfl) rfl
    (hg.frame _) hg.2.1 (ok_one (by kernel_rfl) rfl (okWide_bool_mk Yba.underlying4 _))⟩

theorem over : Rows.lawS1583BBracketRow.holds Yba.pinned (OpenSpec.ofChange Rows.lawS1583BBracketSpec) :=
  OpenClaim.holds_of_wide 3 Yba.f3 rfl rfl rfl rfl rfl rfl rfl ⟨rfl, rfl, rfl, rfl, rfl⟩ rfl rfl rfl rfl rfl (by kernel_rfl) Yba.func3 (by kernel_rfl)
    (of_decide_eq_true (by kernel_rfl)) (by unfold Func.isWrapper; first | (rw [if_pos (by decide +kernel)]; kernel_rfl) | (rw [if_neg (by decide +kernel)]; exact ⟨rfl, rfl⟩))
    (fun os started H enc _ => lifted os started H enc)

/-- THE STATEMENT -/
theorem proved : Rows.LawS1583BBracketSaid :=
  over
#print axioms proved
end Go.Proofs.Ybulkaftk.lawS1583BBracket
