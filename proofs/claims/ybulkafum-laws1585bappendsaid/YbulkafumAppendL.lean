import Derived.Test.YbulkafumAppend
import Derived.SizedLaws
import Derived.SliceStrings
import Derived.Deep.Grids
namespace Go.Proofs.Ybulkafum.lawS1585BAppend
open Go.ChangeShapes Go.WideShapes Go.ChangeAt Go.RowKit
open Go.ChangeMaps (open_string shut_string)
set_option linter.unusedVariables false

theorem own : ownKnob Yba.prog.godebug = none := by kernel_rfl
theorem laidOut : laidOutB Yba.prog = true := by kernel_rfl

/-- What the walk is told of a slice that came in: nil, or a row of cells. -/
def Came (w : World) (a : Option Addr) (len : Nat) (f : Nat → Value) : Prop := ∀ j, j < len → ∃ x, a = some x ∧ w.cell? (x.add j) = some (f j)

theorem Came.at {w : World} {a : Option Addr} {len : Nat} {f : Nat → Value} (h : Came w a len f) : len = 0 ∨ ∃ g o, a = some ⟨g, o, none⟩ ∧ 0 < len ∧ ∀ j, j < len → w.cell? ⟨g, o + j, none⟩ = some (f j) := by
  by_cases h0 : len = 0
  · exact .inl h0
  · right
    obtain ⟨x, hx, hc⟩ := h 0 (by omega)
    obtain ⟨g, o, spot⟩ := x
    have hspot : spot = none := by simpa [Addr.add] using World.cell?_spot hc
    subst hspot
    refine ⟨g, o, hx, by omega, fun j hj => ?_⟩
    obtain ⟨y, hy, hc'⟩ := h j hj
    rw [hx] at hy
    simp only [Option.some.injEq] at hy
    subst hy
    rw [← Go.WideShapes.add_plain]
    exact hc'

theorem mem_weights {H : Type} (ss : List ByteArray) (s : ByteArray) (h : s ∈ ss) : s.size ∈ DataW.weightsAll (H := H) Yba.prog 9 (strs ss) := by
  induction ss with
  | nil => simp at h
  | cons a l ih =>
    simp only [strs, List.map_cons, DataW.weightsAll, List.mem_append]
    rcases List.mem_cons.1 h with rfl | h'
    · left
      have e : s.data.toList.length = s.size := by simp
      simp [DataW.weights]
    · right
      exact ih h'

set_option maxRecDepth 100000 in
set_option maxHeartbeats 400000 in
theorem walk_long (a0 a1 a2 : Option Addr) (m c0 l1 c1 l2 c2 : Nat) (x : Int) (w : World) (hm : 1024 < m) :
    Calls Yba.prog 5 #[.slice a0 m c0, .slice a1 l1 c1, .slice a2 l2 c2, .int .u32 x] w fun e w' => e = .returned (.bool true) ∧ Below w.heap.size w w' := by
  have hm' : (1024 : Int) < m := by omega
  go_enter Yba.func5, Yba.ntmps5
  go_wp2
  go_ret
  exact ⟨rfl, Below.refl _ _⟩

theorem walk (a0 a1 a2 : Option Addr) (m c0 l1 c1 l2 c2 : Nat) (x : Int) (w : World) (ss : Nat → ByteArray) (zs : Nat → Int) (bs : Nat → Bool)
    (h0 : Came w a0 m fun j => .string (ss j)) (h1 : Came w a1 l1 fun j => .int .u8 (zs j)) (h2 : Came w a2 l2 fun j => .bool (bs j)) (hs : ∀ j, j < m → (ss j).size ≤ 140737488351232) (hx : (Lit.int .u32 x).wf = true) :
    Calls Yba.prog 5 #[.slice a0 m c0, .slice a1 l1 c1, .slice a2 l2 c2, .int .u32 x] w fun e w' => e = .returned (.bool true) ∧ Below w.heap.size w w' := by
  by_cases hm : 1024 < m
  · exact walk_long a0 a1 a2 m c0 l1 c1 l2 c2 x w hm
  · have hb := bounds_u32 hx
    obtain ⟨X, rfl⟩ := Int.eq_ofNat_of_zero_le hb.1
    refine walk_mid a0 a1 a2 m c0 l1 c1 l2 c2 X w (by omega) (fun i => if i = 0 then { data := #[120] } else ss (i - 1)) (fun i => if l1 = 0 then 0 else zs (i % l1)) (fun i => if l2 = 0 then false else bs (i % l2)) rfl ?_ ?_ ?_ ?_ (by omega)
    · intro i hi
      rcases h0.at with h | ⟨g, o, hg, _, hc⟩
      · omega
      · exact ⟨g, o, hg, by rw [hc i hi]; simp⟩
    · rcases h1.at with h | ⟨g, o, hg, hl, hc⟩
      · exact .inl ⟨h, fun i => by simp [h]⟩
      · exact .inr ⟨g, o, hg, hl, fun i => by rw [hc (i % l1) (Nat.mod_lt _ hl), if_neg (by omega)]⟩
    · rcases h2.at with h | ⟨g, o, hg, hl, hc⟩
      · exact .inl ⟨h, fun i => by simp [h]⟩
      · exact .inr ⟨g, o, hg, hl, fun i => by rw [hc (i % l2) (Nat.mod_lt _ hl), if_neg (by omega)]⟩
    · intro i hi
      by_cases h : i = 0
      · subst h; simp; decide
      · simp only [if_neg h]; exact hs _ (by omega)

set_option maxRecDepth 100000 in
theorem lifted (os : Os) (started : os.Started) (H : Type) (enc : TypeId × Value → H) :
    ReturnsInHanded {} Yba.checked os 5 .any (Rows.lawS1585BAppendSpec.pre6 enc Yba.prog Yba.f5 Rows.lawS1585BAppendRow.domain false) (Rows.lawS1585BAppendSpec.post enc Yba.prog Yba.f5 false true false false) := by
  refine returnsInHanded_of_change_sized (C := Yba.checked) own started (by kernel_rfl) Yba.func5
    (ChangeSpec.witness6 (enc := enc) (C := Yba.checked) false ⟨#[], #[.slice none 0 0, .slice none 0 0, .slice none 0 0, .int .u32 0], []⟩ 8 (by kernel_rfl) (by kernel_rfl) (by kernel_rfl) (by kernel_rfl)) ?_
  intro W base args ds gs before hval0 hW hcnd hsz0 _
  have hval : ∀ (j : Nat) t v, Yba.f5.params[j]? = some t → args[j]? = some v → Value.okWide Yba.prog W .any base t v := hval0
  have hsz : (DataW.weightsEach Yba.prog (Yba.f5.params.toList ++ Rows.lawS1585BAppendSpec.plain.varTypes Yba.prog) (ds ++ gs)).all (· ≤ reachBytes) = true := hsz0
  have hW' := hW
  obtain ⟨p, q, hA0, hV, rfl, hfz, hnd⟩ := hW
  have hA : DataW.TrodAll enc Yba.prog W 0 (fun _ => true) true Yba.f5.params.toList args.toList ds p := hA0
  rw [Yba.params5] at hA hval hsz
  obtain ⟨v0, vs0, d0, ds0, p0, q0, hargs, rfl, rfl, h0, r0⟩ := trodAll_cons hA
  obtain ⟨v1, vs1, d1, ds1, p1, q1, rfl, rfl, rfl, h1, r1⟩ := trodAll_cons r0
  obtain ⟨v2, vs2, d2, ds2, p2, q2, rfl, rfl, rfl, h2, r2⟩ := trodAll_cons r1
  obtain ⟨v3, vs3, d3, ds3, p3, q3, rfl, rfl, rfl, h3, r3⟩ := trodAll_cons r2
  obtain ⟨rfl, rfl, rfl⟩ := trodAll_nil r3
  obtain rfl : args = #[v0, v1, v2, v3] := by cases args; simp_all
  obtain ⟨rfl, rfl⟩ := trodVars_none hV
  obtain ⟨a0, len0, cap0, rfl⟩ := okWide_slice Yba.underlying33 (hval 0 33 v0 rfl rfl)
  obtain ⟨a1, len1, cap1, rfl⟩ := okWide_slice Yba.underlying30 (hval 1 30 v1 rfl rfl)
  obtain ⟨a2, len2, cap2, rfl⟩ := okWide_slice Yba.underlying34 (hval 2 34 v2 rfl rfl)
  have k0 := h0
  have k1 := h1
  have k2 := h2
  have lt0 : ∀ x ∈ p0, x.block < W.heap.size := by obtain ⟨m, hm⟩ := k0; exact DataW.trod_lt m _ _ _ hm
  have lt1 : ∀ x ∈ p1, x.block < W.heap.size := by obtain ⟨m, hm⟩ := k1; exact DataW.trod_lt m _ _ _ hm
  have lt2 : ∀ x ∈ p2, x.block < W.heap.size := by obtain ⟨m, hm⟩ := k2; exact DataW.trod_lt m _ _ _ hm
  obtain ⟨ss, w0, ws⟩ : ∃ ss : Nat → ByteArray, (Came W a0 len0 fun j => .string (ss j)) ∧ ∀ j, j < len0 → (ss j).size ≤ 140737488351232 := by
    obtain ⟨fuel, hf⟩ := h0
    rcases open_strings Yba.underlying33 Yba.underlying9 (by kernel_rfl) hf with ⟨hcs, _⟩ | ⟨x, l, c, ss, hcs, _, hl, hm, hz, hx, hcell, hws⟩
    · simp [Value.cells] at hcs
      obtain ⟨rfl, rfl, rfl⟩ := hcs
      exact ⟨fun _ => ByteArray.empty, fun j hj => by omega, fun j hj => by omega⟩
    · simp [Value.cells] at hcs
      obtain ⟨rfl, rfl, rfl⟩ := hcs
      simp only [if_true] at hz
      have hd : d0 = .slice (strs (ss.take len0)) (strs (ss.drop len0)) := by
        have := congrArg Prod.fst hx
        exact this
      refine ⟨fun j => ss.getD j ByteArray.empty, fun j hj => ⟨x, rfl, hcell j (by omega)⟩, fun j hj => ?_⟩
      have hj' : j < ss.length := by omega
      have hmem : ss.getD j ByteArray.empty ∈ ss.take len0 := by
        have e : ss.getD j ByteArray.empty = ss[j] := by simp [List.getD_eq_getElem?_getD, hj']
        rw [e]
        exact List.mem_take_iff_getElem.2 ⟨j, by omega, rfl⟩
      have h9 := mem_weights (H := H) _ _ hmem
      have := List.all_eq_true.1 hsz _ (DataW.weights_mem_each (j := 0) (t := 33) rfl rfl (ss.getD j ByteArray.empty).size (by
        rw [hd]
        simp only [DataW.weights, Yba.underlying33, List.mem_cons, List.mem_append]
        exact .inr (.inl h9)))
      simpa [reachBytes] using this
  obtain ⟨zs, w1⟩ : ∃ zs : Nat → Int, Came W a1 len1 fun j => .int .u8 (zs j) := by
    obtain ⟨fuel, hf⟩ := h1
    rcases open_ints Yba.underlying30 Yba.underlying5 (by kernel_rfl) hf with ⟨hcs, _⟩ | ⟨x, l, c, zs, hcs, _, hl, hm, hz, _, hcell, hwz⟩
    · simp [Value.cells] at hcs
      obtain ⟨rfl, rfl, rfl⟩ := hcs
      exact ⟨fun _ => 0, fun j hj => by omega⟩
    · simp [Value.cells] at hcs
      obtain ⟨rfl, rfl, rfl⟩ := hcs
      have hz' : zs.length = cap1 := by simpa using hz
      exact ⟨fun j => zs.getD j 0, fun j hj => ⟨x, rfl, hcell j (by omega)⟩⟩
  obtain ⟨bs, w2⟩ : ∃ bs : Nat → Bool, Came W a2 len2 fun j => .bool (bs j) := by
    obtain ⟨fuel, hf⟩ := h2
    rcases Deep.open_bools Yba.underlying34 Yba.underlying4 (by kernel_rfl) hf with ⟨hcs, _⟩ | ⟨x, l, c, B, hcs, _, hl, hm, _, hcell⟩
    · simp [Value.cells] at hcs
      obtain ⟨rfl, rfl, rfl⟩ := hcs
      exact ⟨fun _ => false, fun j hj => by omega⟩
    · simp [Value.cells] at hcs
      obtain ⟨rfl, rfl, rfl⟩ := hcs
      exact ⟨B, fun j hj => ⟨x, rfl, hcell j (by omega)⟩⟩
  obtain ⟨a3, rfl, rfl, rfl, w3⟩ := open_int Yba.underlying22 (hval 3 22 v3 rfl rfl) h3
  clear hA0 hval0 hsz0
  refine (walk a0 a1 a2 len0 cap0 len1 cap1 len2 cap2 a3 W ss zs bs w0 w1 w2 ws w3).mono fun e W' ⟨he, bel⟩ => ?_
  subst he
  exact ⟨_, rfl, _, _, _, [], _, [], hW', trodAll_mk1 (shut_bool Yba.underlying4 _), (trodAll_cons_mk (Below.trod laidOut (by kernel_rfl) (of_decide_eq_true (by kernel_rfl)) k0 bel lt0) (trodAll_cons_mk (Below.trod laidOut (by kernel_rfl) (of_decide_eq_true (by kernel_rfl)) k1 bel lt1) (trodAll_cons_mk (Below.trod laidOut (by kernel_rfl) (of_decide_eq_true (by kernel_rfl)) k2 bel lt2) (trodAll_cons_mk (shut_int Yba.underlying22 w3) trodAll_mk0)))), rfl, bel.frame _, fun h => by cases h⟩

theorem over : Rows.lawS1585BAppendRow.holds Yba.pinned (OpenSpec.ofChange Rows.lawS1585BAppendSpec) :=
  OpenClaim.holds_of_wide 5 Yba.f5 rfl rfl rfl rfl rfl rfl rfl ⟨rfl, rfl, rfl, rfl, rfl⟩ rfl rfl rfl rfl rfl (by kernel_rfl) Yba.func5 (by kernel_rfl)
    (of_decide_eq_true (by kernel_rfl)) (by unfold Func.isWrapper; first | (rw [if_pos (by decide +kernel)]; kernel_rfl) | (rw [if_neg (by decide +kernel)]; exact ⟨rfl, rfl⟩))
    (fun os started H enc _ => lifted os started H enc)

/-- THE STATEMENT -/
theorem proved : Rows.LawS1585BAppendSaid := over
#print axioms proved
end Go.Proofs.Ybulkafum.lawS1585BAppend
