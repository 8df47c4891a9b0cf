import Derived.Test.YbulkafqsBase
import Derived.Lib.BytesEntry
namespace Go.Proofs.Ybulkafqs.lawS1578CBound
open Go.ChangeShapes Go.WideShapes Go.ChangeAt Go.RowKit
open Go.ChangeMaps (open_string shut_string)
set_option linter.unusedVariables false

theorem own : ownKnob Yba.prog.godebug = none := by kernel_rfl

/-- The cells at a hold the bytes l. -/
def Bytes (w : World) (b : Nat) (l : List UInt8) : Prop := ∀ j (h : j < l.length), w.cell? ⟨b, j, none⟩ = some (.int .u8 (l[j].toNat : Int))

theorem run_load (P : Program) (w : World) (b : Nat) (l : List UInt8) (h : Bytes w b l) :
    (Extern.Bytes.loadBytes ⟨b, 0, none⟩ l.length .empty).run P w = .ok ⟨l.toArray⟩ w := by
  have hl := Lib.run_loadBytesX (P := P) w (l.map fun c => (c.toNat : Int)) ⟨b, 0, none⟩ .empty (fun j x hj => by
    have hjl : j < l.length := by
      have := (List.getElem?_eq_some_iff.1 hj).1
      simpa using this
    have e : (⟨b, 0, none⟩ : Addr).add j = ⟨b, j, none⟩ := by unfold Addr.add; split <;> simp_all
    rw [e, h j hjl]
    simp [List.getElem?_eq_getElem hjl] at hj
    rw [← hj])
  rw [List.length_map] at hl
  rw [hl]
  congr 1
  apply ByteArray.ext
  have e0 : ByteArray.empty.data = #[] := rfl
  rw [e0]
  simp [Lib.bytesOf, Function.comp_def]

theorem run_compare (P : Program) (w : World) (b1 b2 c1 c2 n m : Nat) (x y : List UInt8) (hn : x.length = n) (hm : y.length = m) (h1 : Bytes w b1 x) (h2 : Bytes w b2 y) :
    (Extern.BytealgCompare.compare #[.slice (some ⟨b1, 0, none⟩) n c1, .slice (some ⟨b2, 0, none⟩) m c2]).run P w = .ok (.int .i64 (Lib.compareBytes x y)) w := by
  subst hn hm
  change Sem.run P (do pure (goInt (Extern.BytealgCompare.cmp (← Extern.Bytes.bytesOf (.slice (some ⟨b1, 0, none⟩) x.length c1)) (← Extern.Bytes.bytesOf (.slice (some ⟨b2, 0, none⟩) y.length c2))))) w = _
  simp only [Extern.Bytes.bytesOf, Sem.run_bind, Sem.run_pure, run_load P w b1 x h1, run_load P w b2 y h2, Result.andThen]
  rw [Lib.cmp_eq]
  rfl

set_option maxRecDepth 100000 in
theorem compare_any (w : World) (b1 b2 c1 c2 n m : Nat) (x y : List UInt8) (hn : x.length = n) (hm : y.length = m) (h1 : Bytes w b1 x) (h2 : Bytes w b2 y) :
    Calls Yba.prog 6 #[.slice (some ⟨b1, 0, none⟩) n c1, .slice (some ⟨b2, 0, none⟩) m c2] w fun e w' => e = .returned (.int .i64 (Lib.compareBytes x y)) ∧ w' = w := by
  have hr := run_compare Yba.prog w b1 b2 c1 c2 n m x y hn hm h1 h2
  go_enter Yba.func6, Yba.ntmps6
  go_wp2
  rw [run_callFunc_extern Yba.func7 (by kernel_rfl) (by kernel_rfl) (by kernel_rfl) (e := Extern.BytealgCompare.compare) (by kernel_rfl), hr]
  simp only [Result.andThen]
  rw [Oper.upon_value]
  go_wp2
  go_ret
  exact ⟨rfl, rfl⟩

theorem cmp_less (l t : List UInt8) : Lib.compareBytes (l ++ [47] ++ t) (l ++ [48]) = -1 := by
  induction l with
  | nil => simp [Lib.compareBytes]
  | cons a l ih =>
    simp only [List.cons_append, Lib.compareBytes] at ih ⊢
    rw [if_neg (UInt8.lt_irrefl a), if_neg (UInt8.lt_irrefl a)]
    exact ih

theorem hid {p : Prop} (h : p) : Hid p := h

theorem end_bytes (s : ByteArray) (w w1 : World) (hcell : ∀ j (h : j < s.size), w1.cell? ⟨w.heap.size, j, none⟩ = some (.int .u8 (((s ++ ⟨#[47]⟩)[j]'(by simp [ByteArray.size_append]; omega)).toNat : Int)))
    (hlast : w1.cell? ⟨w.heap.size, s.size, none⟩ = some (.int .u8 (((((s ++ ⟨#[47]⟩)[s.size]'(by simp [ByteArray.size_append]; decide)).toNat : Int) + 1) % 256))) : Bytes w1 w.heap.size (s.data.toList ++ [48]) := by
  have e : s.data.toList.length = s.size := by simp
  intro j h
  simp only [List.length_append, List.length_cons, List.length_nil, e] at h
  by_cases hj : j < s.size
  · rw [hcell j hj]
    have e1 : (s ++ ⟨#[47]⟩)[j]'(by simp [ByteArray.size_append]; omega) = s[j] := by
      rw [ByteArray.getElem_append_left hj]
    rw [e1, List.getElem_append_left (by omega)]
    rfl
  · have hj' : j = s.size := by omega
    subst hj'
    rw [hlast]
    have e1 : (s ++ ⟨#[47]⟩)[s.size]'(by simp [ByteArray.size_append]; decide) = 47 := by
      rw [ByteArray.getElem_append_right (Nat.le_refl _)]
      simp
      rfl
    rw [e1, List.getElem_append_right (by omega)]
    simp

theorem prefixEnd_slash (s : ByteArray) (hs : s.size ≤ 1024) (w : World) :
    Calls Yba.prog 5 #[.string (s ++ { data := #[47] })] w fun e w' => ∃ cap, e = .returned (.slice (some ⟨w.heap.size, 0, none⟩) (s.size + 1) cap) ∧
      Hid (Bytes w' w.heap.size (s.data.toList ++ [48])) ∧ Below w.heap.size w w' ∧ w'.heap.size = w.heap.size + 1 := by
  have hn : (s ++ ({ data := #[47] } : ByteArray)).size = s.size + 1 := by rw [ByteArray.size_append]; rfl
  generalize hp : (s ++ ({ data := #[47] } : ByteArray)) = p at hn
  refine (prefixEnd_any p s.size hn (by omega) w).mono ?_
  subst hp
  rintro e w1 ⟨cap, rfl, hcap, hcell, hlast, hb, hsz⟩
  exact ⟨cap, rfl, end_bytes s w w1 hcell hlast, hb, hsz⟩

theorem back_bytes (s : ByteArray) (w1 : World) (b cap : Nat) (h : Bytes w1 b (s.data.toList ++ [48])) :
    (convert 22 9 (.slice (some ⟨b, 0, none⟩) (s.size + 1) cap)).run Yba.prog w1 = .ok (.string (s ++ ⟨#[48]⟩)) w1 := by
  have e : s.data.toList.length = s.size := by simp
  have hr := run_convert_bytes_back (P := Yba.prog) w1 22 9 5 ⟨b, 0, none⟩ cap (s.data.toList ++ [48]) Yba.underlying22 Yba.underlying5 Yba.underlying9 (fun j hj => by
    have e : (⟨b, 0, none⟩ : Addr).add j = ⟨b, j, none⟩ := by unfold Addr.add; split <;> simp_all
    rw [e]; exact h j hj)
  rw [List.length_append, e] at hr
  rw [show s.size + 1 = s.size + [(48 : UInt8)].length from rfl, hr]
  congr 2

theorem new_bytes (s : ByteArray) (w : World) (C : Array Value) (cap : Nat) (h : ∀ j (h : j < s.size), C[j]? = some (.int .u8 (s[j].toNat : Int))) :
    Bytes (w.alloc (.cells C 5 (cap, cap + 1))) w.heap.size s.data.toList := by
  intro j hj
  rw [World.cell?_alloc_mark, h j (by simpa using hj)]
  simp; rfl

set_option maxRecDepth 100000 in
set_option maxHeartbeats 400000 in
theorem walk_long (s t : ByteArray) (h : 1024 < s.size ∨ 1024 < t.size) (w : World) :
    Calls Yba.prog 4 #[.string s, .string t] w fun e w' => e = .returned (.bool true) ∧ Below w.heap.size w w' := by
  by_cases h1 : 1024 < s.size
  · have h1' : (1024 : Int) < s.size := by omega
    go_enter Yba.func4, Yba.ntmps4
    go_wp2
    go_ret
    exact ⟨rfl, Below.refl _ _⟩
  · have h2 : ¬ (1024 : Int) < s.size := by omega
    have h3 : (1024 : Int) < t.size := by omega
    go_enter Yba.func4, Yba.ntmps4
    go_wp2
    go_ret
    exact ⟨rfl, Below.refl _ _⟩

theorem less_tail (w : World) (b1 b2 c1 c2 : Nat) (s t : ByteArray) (h1 : Bytes w b1 (s ++ { data := #[47] } ++ t : ByteArray).data.toList) (h2 : Bytes w b2 (s.data.toList ++ [48])) :
    Calls Yba.prog 6 #[.slice (some ⟨b1, 0, none⟩) (s.size + 1 + t.size) c1, .slice (some ⟨b2, 0, none⟩) (s.size + 1) c2] w fun e w' => e = .returned (.int .i64 (-1)) ∧ w' = w := by
  have e1 : (s ++ { data := #[47] } ++ t : ByteArray).data.toList = s.data.toList ++ [47] ++ t.data.toList := by simp [ByteArray.data_append]
  rw [e1] at h1
  rw [← cmp_less s.data.toList t.data.toList]
  exact compare_any w b1 b2 c1 c2 _ _ _ _ (by simp; omega) (by simp) h1 h2

theorem less_bare (w : World) (b1 b2 c1 c2 : Nat) (s : ByteArray) (h1 : Bytes w b1 (s ++ { data := #[47] } : ByteArray).data.toList) (h2 : Bytes w b2 (s.data.toList ++ [48])) :
    Calls Yba.prog 6 #[.slice (some ⟨b1, 0, none⟩) (s.size + 1) c1, .slice (some ⟨b2, 0, none⟩) (s.size + 1) c2] w fun e w' => e = .returned (.int .i64 (-1)) ∧ w' = w := by
  have e1 : (s ++ { data := #[47] } : ByteArray).data.toList = s.data.toList ++ [47] ++ [] := by simp [ByteArray.data_append]
  rw [e1] at h1
  rw [← cmp_less s.data.toList []]
  exact compare_any w b1 b2 c1 c2 _ _ _ _ (by simp) (by simp) h1 h2

theorem Bytes.alloc {w : World} {b : Nat} {l : List UInt8} (h : Bytes w b l) (hb : b < w.heap.size) (o : Obj) : Bytes (w.alloc o) b l :=
  fun j hj => by rw [← h j hj]; exact World.cell?_of_block (w := w) (Below.heap_alloc w o b hb)
theorem Bytes.drew {w : World} {b : Nat} {l : List UInt8} (h : Bytes w b l) : Bytes w.drew b l := h

set_option maxRecDepth 100000 in
set_option maxHeartbeats 400000 in
theorem walk_mid (s t : ByteArray) (h1 : s.size ≤ 1024) (h2 : t.size ≤ 1024) (w : World) :
    Calls Yba.prog 4 #[.string s, .string t] w fun e w' => e = .returned (.bool true) ∧ Below w.heap.size w w' := by
  have g1 : ¬ (1024 : Int) < s.size := by omega
  have g2 : ¬ (1024 : Int) < t.size := by omega
  go_enter Yba.func4, Yba.ntmps4
  go_wp2_with fail
  refine (prefixEnd_slash s h1 _).mono ?_
  rintro e w1 ⟨cap, rfl, HB1, hb, hsz⟩
  have hback : (convert 22 9 (.slice (some ⟨w.heap.size, 0, none⟩) (s.size + 1) cap)).run Yba.prog w1 = .ok (.string (s ++ ⟨#[48]⟩)) w1 := back_bytes s w1 w.heap.size cap HB1.out
  obtain ⟨cap2, C2, hcap2, hC2, hcells2, hconv2⟩ := conv_bytes ((s ++ ⟨#[47]⟩) ++ t) w1
  have HB2 := new_bytes _ w1 C2 cap2 hcells2
  clear hcap2 hC2 hcells2
  replace HB2 := hid HB2
  go_wp2_with fail
  have HB2' : Hid (Bytes (w1.alloc (Obj.cells C2 5 (cap2, cap2 + 1))) (w.heap.size + 1) (s ++ { data := #[47] } ++ t : ByteArray).data.toList) := by rw [hsz] at HB2; exact HB2
  have HB1' := hid (HB1.out.alloc (by omega) (Obj.cells C2 5 (cap2, cap2 + 1)))
  refine (less_tail _ _ _ _ _ s t HB2'.out.drew HB1'.out.drew).mono ?_
  rintro e w2 ⟨rfl, rfl⟩
  obtain ⟨cap3, C3, hcap3, hC3, hcells3, hconv3⟩ := conv_bytes (s ++ { data := #[47] }) (w1.alloc (Obj.cells C2 5 (cap2, cap2 + 1))).drew
  have HB3 := hid (new_bytes _ (w1.alloc (Obj.cells C2 5 (cap2, cap2 + 1))) C3 cap3 hcells3)
  clear hcap3 hC3 hcells3 hconv2 hback
  go_wp2_with fail
  have HB3' : Hid (Bytes ((w1.alloc (Obj.cells C2 5 (cap2, cap2 + 1))).alloc (Obj.cells C3 5 (cap3, cap3 + 1))) (w.heap.size + 1 + 1) (s ++ { data := #[47] } : ByteArray).data.toList) := by
    have e : (w1.alloc (Obj.cells C2 5 (cap2, cap2 + 1))).heap.size = w.heap.size + 1 + 1 := by simp; omega
    rw [e] at HB3
    exact HB3
  have HB1'' := hid (HB1'.out.alloc (by simp; omega) (Obj.cells C3 5 (cap3, cap3 + 1)))
  refine (less_bare _ _ _ _ _ s HB3'.out.drew.drew HB1''.out.drew.drew).mono ?_
  rintro e w3 ⟨rfl, rfl⟩
  clear hconv3 HB1 HB2 HB1' HB2' HB3 HB3' HB1''
  go_wp2
  go_ret
  exact ⟨rfl, (((hb.alloc (by omega) _).alloc (by simp; omega) _).drew).drew⟩

theorem walk (s t : ByteArray) (w : World) :
    Calls Yba.prog 4 #[.string s, .string t] w fun e w' => e = .returned (.bool true) ∧ Below w.heap.size w w' := by
  by_cases h : 1024 < s.size ∨ 1024 < t.size
  · exact walk_long s t h w
  · exact walk_mid s t (by omega) (by omega) w

set_option maxRecDepth 100000 in
theorem lifted (os : Os) (started : os.Started) (H : Type) (enc : TypeId × Value → H) :
    ReturnsInHanded {} Yba.checked os 4 .any (Rows.lawS1578CBoundSpec.pre6 enc Yba.prog Yba.f4 Rows.lawS1578CBoundRow.domain false) (Rows.lawS1578CBoundSpec.post enc Yba.prog Yba.f4 false true false false) := by
  refine returnsInHanded_of_change (C := Yba.checked) own started (by kernel_rfl) Yba.func4
    (ChangeSpec.witness6 (enc := enc) (C := Yba.checked) false ⟨#[], #[.string ByteArray.empty, .string ByteArray.empty], []⟩ 8 (by kernel_rfl) (by kernel_rfl) (by kernel_rfl) (by kernel_rfl)) ?_
  intro W base args ds gs before hval0 hW hcnd _
  have hval : ∀ (j : Nat) t v, Yba.f4.params[j]? = some t → args[j]? = some v → Value.okWide Yba.prog W .any base t v := hval0
  have hW' := hW
  obtain ⟨p, q, hA0, hV, rfl, hfz, hnd⟩ := hW
  have hA : DataW.TrodAll enc Yba.prog W 0 (fun _ => true) true Yba.f4.params.toList args.toList ds p := hA0
  rw [Yba.params4] at hA hval
  obtain ⟨v0, vs0, d0, ds0, p0, q0, hargs, rfl, rfl, h0, r0⟩ := trodAll_cons hA
  obtain ⟨v1, vs1, d1, ds1, p1, q1, rfl, rfl, rfl, h1, r1⟩ := trodAll_cons r0
  obtain ⟨rfl, rfl, rfl⟩ := trodAll_nil r1
  obtain rfl : args = #[v0, v1] := by cases args; simp_all
  obtain ⟨rfl, rfl⟩ := trodVars_none hV
  obtain ⟨a0, rfl, rfl, rfl, w0⟩ := open_string Yba.underlying9 (hval 0 9 v0 rfl rfl) h0
  obtain ⟨a1, rfl, rfl, rfl, w1⟩ := open_string Yba.underlying9 (hval 1 9 v1 rfl rfl) h1
  clear hA0 hval0
  simp only [List.append_nil] at hW'
  refine (walk a0 a1 W).mono fun e W' ⟨he, bel⟩ => ?_
  subst he
  exact ⟨_, rfl, _, _, _, [], [], [], hW', trodAll_mk1 (shut_bool Yba.underlying4 _), (trodAll_cons_mk (shut_string Yba.underlying9 w0) (trodAll_cons_mk (shut_string Yba.underlying9 w1) trodAll_mk0)), rfl, bel.frame _, fun h => by cases h⟩

theorem over : Rows.lawS1578CBoundRow.holds Yba.pinned (OpenSpec.ofChange Rows.lawS1578CBoundSpec) :=
  OpenClaim.holds_of_wide 4 Yba.f4 rfl rfl rfl rfl rfl rfl rfl ⟨rfl, rfl, rfl, rfl, rfl⟩ rfl rfl rfl rfl rfl (by kernel_rfl) Yba.func4 (by kernel_rfl)
    (of_decide_eq_true (by kernel_rfl)) (by unfold Func.isWrapper; first | (rw [if_pos (by decide +kernel)]; kernel_rfl) | (rw [if_neg (by decide +kernel)]; exact ⟨rfl, rfl⟩))
    (fun os started H enc _ => lifted os started H enc)

/-- THE STATEMENT -/
theorem proved : Rows.LawS1578CBoundSaid :=
  over
#print axioms proved
end Go.Proofs.Ybulkafqs.lawS1578CBound
