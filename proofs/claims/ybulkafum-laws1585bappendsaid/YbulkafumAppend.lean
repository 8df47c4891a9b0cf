import Derived.Test.YbulkafumArr
namespace Go.Proofs.Ybulkafum.lawS1585BAppend
open Go.ChangeShapes Go.WideShapes Go.ChangeAt Go.RowKit
set_option linter.unusedVariables false

theorem made_at6 (n i j : Nat) (hi : i < n) (hj : j < 6) : ∃ v, (madeCells (#[.string ByteArray.empty, .int .u8 0, .bool false, .int .i32 0, .int .i32 0, .int .i32 0] : Array Value) (n * 6))[i * 6 + j]? = some v := by
  refine ⟨_, Array.getElem?_eq_getElem (by rw [size_madeCells]; omega)⟩

/-- 'make([]typeInfo, n)': every cell is there. -/
theorem made (n : Nat) (hn : n ≤ 2000) : ∃ C : Array Value, (∀ i j, i < n → j < 6 → ∃ v, C[i * 6 + j]? = some v) ∧
    ∀ w : World, (Instr.makeSlice 35 (.int .i64 (n : Int)) (.int .i64 (n : Int))).run Yba.prog w = .ok (.slice (some ⟨w.heap.size, 0, none⟩) n n) (w.alloc (.cells C 39)) := by
  obtain ⟨i0, hi, hz0, hz1, hz2⟩ := info_parts info39
  refine ⟨madeCells (#[.string ByteArray.empty, .int .u8 0, .bool false, .int .i32 0, .int .i32 0, .int .i32 0] : Array Value) (n * 6), fun i j hi hj => made_at6 n i j hi hj, ?_⟩
  intro w
  have hr := run_make (P := Yba.prog) w 35 39 i0 _ Yba.underlying35 hi hz0 .i64 .i64 n n (by omega) (by omega) (by rw [hz2]; omega) (by omega)
  rw [hz1] at hr
  simpa [Value.cells] using hr

/-- Cell j of the i-th entry that the law builds. -/
def TI (nm : Nat → ByteArray) (ct : Nat → Int) (pf : Nat → Bool) (i j : Nat) : Value :=
  if j = 0 then .string (nm i) else if j = 1 then .int .u8 (ct i) else if j = 2 then .bool (pf i) else if j = 3 then .int .i32 (i : Int) else .int .i32 15

/-- The first k entries of block b are built; every cell of the n is there; none is frozen. -/
def Part (w : World) (b n k : Nat) (F : Nat → Nat → Value) : Prop :=
  RowIs w b k F ∧ (∀ i j, i < n → j < 6 → ∃ v, w.cell? ⟨b, i * 6 + j, none⟩ = some v) ∧ ∀ o, w.frozen? ⟨b, o, none⟩ = false

theorem start_part2 (w : World) (C : Array Value) (n : Nat) (hC : ∀ i j, i < n → j < 6 → ∃ v, C[i * 6 + j]? = some v) (F : Nat → Nat → Value) : Part ((w.alloc (.cells C 39)).alloc (.cells C 39)) (w.heap.size + 1) n 0 F := by
  have hs : (w.alloc (.cells C 39)).heap.size = w.heap.size + 1 := by simp
  refine ⟨fun i j hi => by omega, fun i j hi hj => ?_, fun o => ?_⟩
  · obtain ⟨v, hv⟩ := hC i j hi hj
    exact ⟨v, by rw [← hs, World.cell?_alloc_mark (w.alloc (.cells C 39)) C 39 (0, 0)]; exact hv⟩
  · rw [← hs, World.frozen?_alloc_mark (w.alloc (.cells C 39)) C 39 0 0]; simp
theorem start_part (w : World) (C : Array Value) (n : Nat) (hC : ∀ i j, i < n → j < 6 → ∃ v, C[i * 6 + j]? = some v) (F : Nat → Nat → Value) : Part ((w.alloc (.cells C 39)).alloc (.cells C 39)) w.heap.size n 0 F := by
  have hc : ∀ o, ((w.alloc (.cells C 39)).alloc (.cells C 39)).cell? ⟨w.heap.size, o, none⟩ = C[o]? := fun o => (World.cell?_of_block (w := w.alloc (.cells C 39)) (Below.heap_alloc _ _ w.heap.size (by simp))).trans (World.cell?_alloc_mark w C 39 (0, 0) o)
  have hf : ∀ o, ((w.alloc (.cells C 39)).alloc (.cells C 39)).frozen? ⟨w.heap.size, o, none⟩ = false := fun o => by
    refine (World.frozen?_of_block (w := w.alloc (.cells C 39)) (Below.heap_alloc _ _ w.heap.size (by simp))).trans ?_
    rw [World.frozen?_alloc_mark w C 39 0 0 o]; simp
  exact ⟨fun i j hi => by omega, fun i j hi hj => by rw [hc]; exact hC i j hi hj, hf⟩

/-- Six stores. -/
def six (W : World) (b k : Nat) (s : ByteArray) (c : Int) (p : Bool) : World :=
  (((((W.setCell ⟨b, k * 6, none⟩ (.string s)).setCell ⟨b, k * 6 + 1, none⟩ (.int .u8 c)).setCell ⟨b, k * 6 + 2, none⟩ (.bool p)).setCell ⟨b, k * 6 + 3, none⟩ (.int .i32 (k : Int))).setCell ⟨b, k * 6 + 4, none⟩ (.int .i32 15)).setCell ⟨b, k * 6 + 5, none⟩ (.int .i32 15)

theorem six_other (W : World) (b k : Nat) (s : ByteArray) (c : Int) (p : Bool) (q : Addr) (h : q.block ≠ b ∨ q.off < k * 6 ∨ k * 6 + 6 ≤ q.off) : (six W b k s c p).cell? q = W.cell? q := by
  have ne : ∀ j, j < 6 → (⟨b, k * 6 + j, none⟩ : Addr) ≠ q := by
    intro j hj e
    subst e
    simp only at h
    omega
  unfold six
  rw [World.cell?_setCell_other _ _ _ _ (ne 5 (by omega)), World.cell?_setCell_other _ _ _ _ (ne 4 (by omega)), World.cell?_setCell_other _ _ _ _ (ne 3 (by omega)), World.cell?_setCell_other _ _ _ _ (ne 2 (by omega)), World.cell?_setCell_other _ _ _ _ (ne 1 (by omega))]
  exact World.cell?_setCell_other _ _ _ _ (ne 0 (by omega))
theorem six_frozen (W : World) (b k : Nat) (s : ByteArray) (c : Int) (p : Bool) (q : Addr) : (six W b k s c p).frozen? q = W.frozen? q := by
  unfold six
  simp only [World.frozen?_setCell]
theorem six_size (W : World) (b k : Nat) (s : ByteArray) (c : Int) (p : Bool) : (six W b k s c p).heap.size = W.heap.size := by
  unfold six
  simp
theorem six_below {B : Nat} {w W : World} (h : Below B w W) (b k : Nat) (hb : B ≤ b) (s : ByteArray) (c : Int) (p : Bool) : Below B w (six W b k s c p) :=
  (((((h.setCell (p := ⟨b, _, none⟩) hb _).setCell (p := ⟨b, _, none⟩) hb _).setCell (p := ⟨b, _, none⟩) hb _).setCell (p := ⟨b, _, none⟩) hb _).setCell (p := ⟨b, _, none⟩) hb _).setCell (p := ⟨b, _, none⟩) hb _

theorem six_at {W : World} {b k : Nat} (s : ByteArray) (c : Int) (p : Bool) (h : ∀ j, j < 6 → ∃ v, W.cell? ⟨b, k * 6 + j, none⟩ = some v) (nm : Nat → ByteArray) (ct : Nat → Int) (pf : Nat → Bool) (hs : nm k = s) (hc : ct k = c) (hp : pf k = p) :
    ∀ j, j < 6 → (six W b k s c p).cell? ⟨b, k * 6 + j, none⟩ = some (TI nm ct pf k j) := by
  subst hs hc hp
  obtain ⟨v0, h0⟩ := h 0 (by omega)
  obtain ⟨v1, h1⟩ := h 1 (by omega)
  obtain ⟨v2, h2⟩ := h 2 (by omega)
  obtain ⟨v3, h3⟩ := h 3 (by omega)
  obtain ⟨v4, h4⟩ := h 4 (by omega)
  obtain ⟨v5, h5⟩ := h 5 (by omega)
  have ne : ∀ i j : Nat, i ≠ j → (⟨b, k * 6 + i, none⟩ : Addr) ≠ ⟨b, k * 6 + j, none⟩ := by intro i j hij e; simp at e; try omega
  intro j hj
  unfold six
  have hj' : j = 0 ∨ j = 1 ∨ j = 2 ∨ j = 3 ∨ j = 4 ∨ j = 5 := by omega
  rcases hj' with rfl | rfl | rfl | rfl | rfl | rfl
  · rw [World.cell?_setCell_other _ _ _ _ (ne 5 0 (by omega)), World.cell?_setCell_other _ _ _ _ (ne 4 0 (by omega)), World.cell?_setCell_other _ _ _ _ (ne 3 0 (by omega)), World.cell?_setCell_other _ _ _ _ (ne 2 0 (by omega)), World.cell?_setCell_other _ _ _ _ (ne 1 0 (by omega))]
    exact World.cell?_setCell_same _ _ _ h0
  · rw [World.cell?_setCell_other _ _ _ _ (ne 5 1 (by omega)), World.cell?_setCell_other _ _ _ _ (ne 4 1 (by omega)), World.cell?_setCell_other _ _ _ _ (ne 3 1 (by omega)), World.cell?_setCell_other _ _ _ _ (ne 2 1 (by omega))]
    exact World.cell?_setCell_same _ _ _ ((World.cell?_setCell_other _ _ _ _ (ne 0 1 (by omega))).trans h1)
  · rw [World.cell?_setCell_other _ _ _ _ (ne 5 2 (by omega)), World.cell?_setCell_other _ _ _ _ (ne 4 2 (by omega)), World.cell?_setCell_other _ _ _ _ (ne 3 2 (by omega))]
    exact World.cell?_setCell_same _ _ _ ((World.cell?_setCell_other _ _ _ _ (ne 1 2 (by omega))).trans ((World.cell?_setCell_other _ _ _ _ (ne 0 2 (by omega))).trans h2))
  · rw [World.cell?_setCell_other _ _ _ _ (ne 5 3 (by omega)), World.cell?_setCell_other _ _ _ _ (ne 4 3 (by omega))]
    exact World.cell?_setCell_same _ _ _ ((World.cell?_setCell_other _ _ _ _ (ne 2 3 (by omega))).trans ((World.cell?_setCell_other _ _ _ _ (ne 1 3 (by omega))).trans ((World.cell?_setCell_other _ _ _ _ (ne 0 3 (by omega))).trans h3)))
  · rw [World.cell?_setCell_other _ _ _ _ (ne 5 4 (by omega))]
    exact World.cell?_setCell_same _ _ _ ((World.cell?_setCell_other _ _ _ _ (ne 3 4 (by omega))).trans ((World.cell?_setCell_other _ _ _ _ (ne 2 4 (by omega))).trans ((World.cell?_setCell_other _ _ _ _ (ne 1 4 (by omega))).trans ((World.cell?_setCell_other _ _ _ _ (ne 0 4 (by omega))).trans h4))))
  · exact World.cell?_setCell_same _ _ _ ((World.cell?_setCell_other _ _ _ _ (ne 4 5 (by omega))).trans ((World.cell?_setCell_other _ _ _ _ (ne 3 5 (by omega))).trans ((World.cell?_setCell_other _ _ _ _ (ne 2 5 (by omega))).trans ((World.cell?_setCell_other _ _ _ _ (ne 1 5 (by omega))).trans ((World.cell?_setCell_other _ _ _ _ (ne 0 5 (by omega))).trans h5)))))

theorem Part.six {W : World} {b n k : Nat} {nm : Nat → ByteArray} {ct : Nat → Int} {pf : Nat → Bool} (h : Part W b n k (TI nm ct pf)) (hk : k < n) {s : ByteArray} {c : Int} {p : Bool} (hs : nm k = s) (hc : ct k = c) (hp : pf k = p) : Part (six W b k s c p) b n (k + 1) (TI nm ct pf) := by
  have hat := six_at s c p (fun j hj => h.2.1 k j hk hj) nm ct pf hs hc hp
  refine ⟨?_, ?_, fun o => (six_frozen _ _ _ _ _ _ _).trans (h.2.2 o)⟩
  · intro i j hi hj
    by_cases e : i = k
    · subst e; exact hat j hj
    · rw [six_other _ _ _ _ _ _ _ (by simp; omega)]
      exact h.1 i j (by omega) hj
  · intro i j hi hj
    by_cases e : i = k
    · subst e; exact ⟨_, hat j hj⟩
    · rw [six_other _ _ _ _ _ _ _ (by simp; omega)]
      exact h.2.1 i j hi hj
theorem Part.six_ne {W : World} {b b' n k k' : Nat} {F : Nat → Nat → Value} (h : Part W b n k F) (hb : b ≠ b') (s : ByteArray) (c : Int) (p : Bool) : Part (lawS1585BAppend.six W b' k' s c p) b n k F :=
  ⟨fun i j hi hj => (six_other _ _ _ _ _ _ _ (.inl hb)).trans (h.1 i j hi hj), fun i j hi hj => by rw [six_other _ _ _ _ _ _ _ (.inl hb)]; exact h.2.1 i j hi hj, fun o => (six_frozen _ _ _ _ _ _ _).trans (h.2.2 o)⟩
theorem Part.alloc {W : World} {b n k : Nat} {F : Nat → Nat → Value} (h : Part W b n k F) (hb : b < W.heap.size) (O : Obj) : Part (W.alloc O) b n k F := by
  have hc : ∀ o, (W.alloc O).cell? ⟨b, o, none⟩ = W.cell? ⟨b, o, none⟩ := fun o => World.cell?_of_block (Below.heap_alloc W O b hb)
  have hf : ∀ o, (W.alloc O).frozen? ⟨b, o, none⟩ = W.frozen? ⟨b, o, none⟩ := fun o => World.frozen?_of_block (Below.heap_alloc W O b hb)
  exact ⟨fun i j hi hj => (hc _).trans (h.1 i j hi hj), fun i j hi hj => by rw [hc]; exact h.2.1 i j hi hj, fun o => (hf o).trans (h.2.2 o)⟩

theorem rel_step {w wr : World} {n k : Nat} {nm : Nat → ByteArray} {ct : Nat → Int} {pf : Nat → Bool} {s : ByteArray} {c : Int} {p : Bool} {O : Obj} (hs : nm k = s) (hc : ct k = c) (hp : pf k = p) (hkn : k < n)
    (h1 : Part wr w.heap.size n k (TI nm ct pf)) (h2 : Part wr (w.heap.size + 1) n k (TI nm ct pf)) (hb : Below w.heap.size w wr) (hs2 : w.heap.size + 2 ≤ wr.heap.size) :
    Part (six (six (wr.alloc O) w.heap.size k s c p) (w.heap.size + 1) k s c p) w.heap.size n (k + 1) (TI nm ct pf) ∧ Part (six (six (wr.alloc O) w.heap.size k s c p) (w.heap.size + 1) k s c p) (w.heap.size + 1) n (k + 1) (TI nm ct pf) ∧
    Below w.heap.size w (six (six (wr.alloc O) w.heap.size k s c p) (w.heap.size + 1) k s c p) ∧ w.heap.size + 2 ≤ (six (six (wr.alloc O) w.heap.size k s c p) (w.heap.size + 1) k s c p).heap.size := by
  refine ⟨((h1.alloc (by omega) O).six hkn hs hc hp).six_ne (by omega) _ _ _, ((h2.alloc (by omega) O).six_ne (by omega) _ _ _).six hkn hs hc hp, six_below (six_below (hb.alloc (by omega) O) _ _ (Nat.le_refl _) _ _ _) _ _ (by omega) _ _ _, ?_⟩
  rw [six_size, six_size]
  simp
  omega

theorem setArr_ne (F : Nat → Nat → Value) (v : Value) {e i j : Nat} (h : i ≠ e ∨ j ≠ 5) : setArr F e v i j = F i j := by
  unfold setArr; rw [if_neg (by omega)]

/-- The rows in 'before' stand. -/
theorem before_row {w wr w2 : World} {k e g cap : Nat} {F G : Nat → Nat → Value} {nm : ByteArray} (h : RowIs wr (w.heap.size + 1) k F) (ha : After wr w2 w.heap.size k e g cap G nm) (hs : w.heap.size + 2 ≤ wr.heap.size) : RowIs w2 (w.heap.size + 1) k F := by
  intro i j hi hj
  rw [ha.2.2.2.2.2.2.cell (p := ⟨w.heap.size + 1, i * 6 + j, none⟩) (by show w.heap.size + 1 < _; omega), World.cell?_setCell_other _ _ _ _ (by simp)]
  exact h i j hi hj

set_option maxRecDepth 100000 in
set_option maxHeartbeats 1000000 in
theorem walk_mid (a0 a1 a2 : Option Addr) (m c0 l1 c1 l2 c2 : Nat) (x : Nat) (w : World) (hm : m ≤ 1024)
    (nm : Nat → ByteArray) (ct : Nat → Int) (pf : Nat → Bool) 
    (h0 : nm 0 = { data := #[120] }) (hnm : ∀ i, i < m → ∃ g o, a0 = some ⟨g, o, none⟩ ∧ w.cell? ⟨g, o + i, none⟩ = some (.string (nm (i + 1))))
    (hct : (l1 = 0 ∧ ∀ i, ct i = 0) ∨ ∃ g o, a1 = some ⟨g, o, none⟩ ∧ 0 < l1 ∧ ∀ i, w.cell? ⟨g, o + i % l1, none⟩ = some (.int .u8 (ct i)))
    (hpf : (l2 = 0 ∧ ∀ i, pf i = false) ∨ ∃ g o, a2 = some ⟨g, o, none⟩ ∧ 0 < l2 ∧ ∀ i, w.cell? ⟨g, o + i % l2, none⟩ = some (.bool (pf i)))
    (hsz : ∀ i, i ≤ m → (nm i).size ≤ 140737488351232) (hx : x < 4294967296) :
    Calls Yba.prog 5 #[.slice a0 m c0, .slice a1 l1 c1, .slice a2 l2 c2, .int .u32 x] w fun e w' => e = .returned (.bool true) ∧ Below w.heap.size w w' := by
  obtain ⟨n, hn⟩ : ∃ n, n = m + 1 := ⟨_, rfl⟩
  have hnm' : (m : Int) + 1 = (n : Int) := by omega
  obtain ⟨C, hC, hmk⟩ := made n (by omega)
  have hn1 : n ≤ 1025 := by omega
  have hmn : m < n := by omega
  have HNE := hid hn
  clear hn
  have HN0 := hid h0
  have HNM := hid hnm
  have HCT := hid hct
  have HPF := hid hpf
  have HSZ := hid hsz
  have HC := hid hC
  clear h0 hnm hct hpf hsz hC
  have hgt : ¬ (1024 : Int) < m := by omega
  go_enter Yba.func5, Yba.ntmps5
  go_wp2
  go_loopw [12] (fun vi wr => ∃ k : Nat, k ≤ n ∧ vi = .int .i64 k ∧ Part wr w.heap.size n k (TI nm ct pf) ∧ Part wr (w.heap.size + 1) n k (TI nm ct pf) ∧ Below w.heap.size w wr ∧ w.heap.size + 2 ≤ wr.heap.size) (fun vi _ => n - (intOf vi).toNat)
  case atStart =>
    refine ⟨0, Nat.zero_le _, rfl, start_part w C n HC.out _, start_part2 w C n HC.out _, ((Below.refl _ _).alloc (Nat.le_refl _) _).alloc (by simp) _, by simp⟩
  case round =>
    obtain ⟨k, hk, rfl, hP1, hP2, hb, hs2⟩ := hrel
    clear hmk HC
    by_cases hkn : k < n
    · have ha1 : ∀ (O : Obj) (o : Nat), (wr.alloc O).cell? ⟨w.heap.size, o, none⟩ = wr.cell? ⟨w.heap.size, o, none⟩ := fun O o => World.cell?_of_block (Below.heap_alloc wr O w.heap.size (by omega))
      have ha2 : ∀ (O : Obj) (o : Nat), (wr.alloc O).cell? ⟨w.heap.size + 1, o, none⟩ = wr.cell? ⟨w.heap.size + 1, o, none⟩ := fun O o => World.cell?_of_block (Below.heap_alloc wr O (w.heap.size + 1) (by omega))
      obtain ⟨v10, e10⟩ := hP1.2.1 k 0 hkn (by omega)
      obtain ⟨v11, e11⟩ := hP1.2.1 k 1 hkn (by omega)
      obtain ⟨v12, e12⟩ := hP1.2.1 k 2 hkn (by omega)
      obtain ⟨v13, e13⟩ := hP1.2.1 k 3 hkn (by omega)
      obtain ⟨v14, e14⟩ := hP1.2.1 k 4 hkn (by omega)
      obtain ⟨v15, e15⟩ := hP1.2.1 k 5 hkn (by omega)
      obtain ⟨v20, e20⟩ := hP2.2.1 k 0 hkn (by omega)
      obtain ⟨v21, e21⟩ := hP2.2.1 k 1 hkn (by omega)
      obtain ⟨v22, e22⟩ := hP2.2.1 k 2 hkn (by omega)
      obtain ⟨v23, e23⟩ := hP2.2.1 k 3 hkn (by omega)
      obtain ⟨v24, e24⟩ := hP2.2.1 k 4 hkn (by omega)
      obtain ⟨v25, e25⟩ := hP2.2.1 k 5 hkn (by omega)
      simp only [Nat.add_zero] at e10 e20
      have E10 := fun O => (ha1 O _).trans e10
      have E11 := fun O => (ha1 O _).trans e11
      have E12 := fun O => (ha1 O _).trans e12
      have E13 := fun O => (ha1 O _).trans e13
      have E14 := fun O => (ha1 O _).trans e14
      have E15 := fun O => (ha1 O _).trans e15
      have E20 := fun O => (ha2 O _).trans e20
      have E21 := fun O => (ha2 O _).trans e21
      have E22 := fun O => (ha2 O _).trans e22
      have E23 := fun O => (ha2 O _).trans e23
      have E24 := fun O => (ha2 O _).trans e24
      have E25 := fun O => (ha2 O _).trans e25
      have f1 : ∀ (O : Obj) (o : Nat), (wr.alloc O).frozen? ⟨w.heap.size, o, none⟩ = false := fun O o => (World.frozen?_of_block (Below.heap_alloc wr O w.heap.size (by omega))).trans (hP1.2.2 o)
      have f2 : ∀ (O : Obj) (o : Nat), (wr.alloc O).frozen? ⟨w.heap.size + 1, o, none⟩ = false := fun O o => (World.frozen?_of_block (Below.heap_alloc wr O (w.heap.size + 1) (by omega))).trans (hP2.2.2 o)
      clear ha1 ha2 e10 e11 e12 e13 e14 e15 e20 e21 e22 e23 e24 e25
      have HP1 := hid hP1
      have HP2 := hid hP2
      clear hP1 hP2
      rcases HCT.out with ⟨hl1, hct0⟩ | ⟨g1, o1, rfl, hl1, hc1⟩
      · have HCT0 := hid hct0
        subst hl1
        clear hct0
        rcases HPF.out with ⟨hl2, hpf0⟩ | ⟨g2, o2, rfl, hl2, hc2⟩
        · have HPF0 := hid hpf0
          subst hl2
          clear hpf0
          by_cases hk0 : k = 0
          · have hk0' : k ≤ 0 := by omega
            have HK0 := hid hk0
            clear hk0
            go_wp2
            go_roundw
            case rel => exact ⟨k + 1, by omega, by go_num, rel_step (by rw [HK0.out]; exact HN0.out) (HCT0.out k) (HPF0.out k) hkn HP1.out HP2.out hb hs2⟩
            case measure => simp [intOf]; omega
          · obtain ⟨j, hj⟩ : ∃ j, k = j + 1 := ⟨k - 1, by omega⟩
            have hkj : (k : Int) - 1 = (j : Int) := by omega
            have hjm : j < m := by have := HNE.out; omega
            obtain ⟨g0, o0, rfl, hc0⟩ := HNM.out j hjm
            have hd0 := (hb.cell (p := ⟨g0, o0 + j, none⟩) (World.block_lt_of_cell? _ _ hc0)).trans hc0
            have HKJ := hid hj
            have hjm2 : (j : Int) < (m : Int) := by omega
            have hk1 : 0 < k := by omega
            clear hc0 hj hk0
            go_wp2
            go_roundw
            case rel => exact ⟨k + 1, by omega, by go_num, rel_step (by rw [HKJ.out]) (HCT0.out k) (HPF0.out k) hkn HP1.out HP2.out hb hs2⟩
            case measure => simp [intOf]; omega
        · obtain ⟨q2, hq2⟩ : ∃ q2 : Nat, (k : Int) % (l2 : Int) = q2 := ⟨k % l2, by omega⟩
          have hd2 : wr.cell? ⟨g2, o2 + q2, none⟩ = some (.bool (pf k)) := by
            have h := hc2 k
            have e : k % l2 = q2 := by omega
            rw [e] at h
            exact (hb.cell (p := ⟨g2, o2 + q2, none⟩) (World.block_lt_of_cell? _ _ h)).trans h
          have hq2l : (q2 : Int) < (l2 : Int) := by have := Int.emod_lt_of_pos (k : Int) (show (0 : Int) < l2 by omega); omega
          clear hc2
          by_cases hk0 : k = 0
          · have hk0' : k ≤ 0 := by omega
            have HK0 := hid hk0
            clear hk0
            go_wp2
            go_roundw
            case rel => exact ⟨k + 1, by omega, by go_num, rel_step (by rw [HK0.out]; exact HN0.out) (HCT0.out k) rfl hkn HP1.out HP2.out hb hs2⟩
            case measure => simp [intOf]; omega
          · obtain ⟨j, hj⟩ : ∃ j, k = j + 1 := ⟨k - 1, by omega⟩
            have hkj : (k : Int) - 1 = (j : Int) := by omega
            have hjm : j < m := by have := HNE.out; omega
            obtain ⟨g0, o0, rfl, hc0⟩ := HNM.out j hjm
            have hd0 := (hb.cell (p := ⟨g0, o0 + j, none⟩) (World.block_lt_of_cell? _ _ hc0)).trans hc0
            have HKJ := hid hj
            have hjm2 : (j : Int) < (m : Int) := by omega
            have hk1 : 0 < k := by omega
            clear hc0 hj hk0
            go_wp2
            go_roundw
            case rel => exact ⟨k + 1, by omega, by go_num, rel_step (by rw [HKJ.out]) (HCT0.out k) rfl hkn HP1.out HP2.out hb hs2⟩
            case measure => simp [intOf]; omega
      · obtain ⟨q1, hq1⟩ : ∃ q1 : Nat, (k : Int) % (l1 : Int) = q1 := ⟨k % l1, by omega⟩
        have hd1 : wr.cell? ⟨g1, o1 + q1, none⟩ = some (.int .u8 (ct k)) := by
          have h := hc1 k
          have e : k % l1 = q1 := by omega
          rw [e] at h
          exact (hb.cell (p := ⟨g1, o1 + q1, none⟩) (World.block_lt_of_cell? _ _ h)).trans h
        have hq1l : (q1 : Int) < (l1 : Int) := by have := Int.emod_lt_of_pos (k : Int) (show (0 : Int) < l1 by omega); omega
        clear hc1
        rcases HPF.out with ⟨hl2, hpf0⟩ | ⟨g2, o2, rfl, hl2, hc2⟩
        · have HPF0 := hid hpf0
          subst hl2
          clear hpf0
          by_cases hk0 : k = 0
          · have hk0' : k ≤ 0 := by omega
            have HK0 := hid hk0
            clear hk0
            go_wp2
            go_roundw
            case rel => exact ⟨k + 1, by omega, by go_num, rel_step (by rw [HK0.out]; exact HN0.out) rfl (HPF0.out k) hkn HP1.out HP2.out hb hs2⟩
            case measure => simp [intOf]; omega
          · obtain ⟨j, hj⟩ : ∃ j, k = j + 1 := ⟨k - 1, by omega⟩
            have hkj : (k : Int) - 1 = (j : Int) := by omega
            have hjm : j < m := by have := HNE.out; omega
            obtain ⟨g0, o0, rfl, hc0⟩ := HNM.out j hjm
            have hd0 := (hb.cell (p := ⟨g0, o0 + j, none⟩) (World.block_lt_of_cell? _ _ hc0)).trans hc0
            have HKJ := hid hj
            have hjm2 : (j : Int) < (m : Int) := by omega
            have hk1 : 0 < k := by omega
            clear hc0 hj hk0
            go_wp2
            go_roundw
            case rel => exact ⟨k + 1, by omega, by go_num, rel_step (by rw [HKJ.out]) rfl (HPF0.out k) hkn HP1.out HP2.out hb hs2⟩
            case measure => simp [intOf]; omega
        · obtain ⟨q2, hq2⟩ : ∃ q2 : Nat, (k : Int) % (l2 : Int) = q2 := ⟨k % l2, by omega⟩
          have hd2 : wr.cell? ⟨g2, o2 + q2, none⟩ = some (.bool (pf k)) := by
            have h := hc2 k
            have e : k % l2 = q2 := by omega
            rw [e] at h
            exact (hb.cell (p := ⟨g2, o2 + q2, none⟩) (World.block_lt_of_cell? _ _ h)).trans h
          have hq2l : (q2 : Int) < (l2 : Int) := by have := Int.emod_lt_of_pos (k : Int) (show (0 : Int) < l2 by omega); omega
          clear hc2
          by_cases hk0 : k = 0
          · have hk0' : k ≤ 0 := by omega
            have HK0 := hid hk0
            clear hk0
            go_wp2
            go_roundw
            case rel => exact ⟨k + 1, by omega, by go_num, rel_step (by rw [HK0.out]; exact HN0.out) rfl rfl hkn HP1.out HP2.out hb hs2⟩
            case measure => simp [intOf]; omega
          · obtain ⟨j, hj⟩ : ∃ j, k = j + 1 := ⟨k - 1, by omega⟩
            have hkj : (k : Int) - 1 = (j : Int) := by omega
            have hjm : j < m := by have := HNE.out; omega
            obtain ⟨g0, o0, rfl, hc0⟩ := HNM.out j hjm
            have hd0 := (hb.cell (p := ⟨g0, o0 + j, none⟩) (World.block_lt_of_cell? _ _ hc0)).trans hc0
            have HKJ := hid hj
            have hjm2 : (j : Int) < (m : Int) := by omega
            have hk1 : 0 < k := by omega
            clear hc0 hj hk0
            go_wp2
            go_roundw
            case rel => exact ⟨k + 1, by omega, by go_num, rel_step (by rw [HKJ.out]) rfl rfl hkn HP1.out HP2.out hb hs2⟩
            case measure => simp [intOf]; omega
    · have hke : k = n := by omega
      subst hke
      obtain ⟨e, he⟩ : ∃ e : Nat, (x : Int) % (k : Int) = e := ⟨x % k, by omega⟩
      have hek : e < k := by have := Int.emod_lt_of_pos (x : Int) (show (0 : Int) < k by omega); omega
      have H10 := hid (withArray_any wr w.heap.size k e (by omega) hek (TI nm ct pf) (nm e) (HSZ.out e (by omega)) rfl 15 rfl hP1.1 hP1.2.2)
      have HB := hid hP2.1
      have hszb : w.heap.size + 2 ≤ wr.heap.size := hs2
      clear hP1 hP2 hs2 HCT HPF HNM
      go_wp2_with fail
      refine H10.out.mono ?_
      rintro r w2 ⟨g, cap, rfl, haft⟩
      have hi5 : w2.cell? ⟨w.heap.size, e * 6 + 5, none⟩ = some (.int .i32 (k : Int)) := by
        have := haft.2.2.1 e 5 hek (by omega)
        unfold setArr at this
        rw [if_pos ⟨rfl, rfl⟩] at this
        exact this
      have hek' : (e : Int) < (k : Int) := by omega
      have HA := hid haft
      clear haft
      go_wp2
      go_loopw [19] (fun vi wx => ∃ i : Nat, i ≤ k ∧ vi = .int .i64 i ∧ Below w2.heap.size w2 wx) (fun vi _ => k - (intOf vi).toNat)
      case atStart => exact ⟨0, Nat.zero_le _, rfl, Below.refl _ _⟩
      case round =>
        obtain ⟨i, hi, rfl, hbx⟩ := hrel
        have rb : RowIs wr (w.heap.size + 1) k (TI nm ct pf) := (before_row HB.out HA.out hszb).keep hbx (by have := HA.out.2.2.2.2.2.2.size; simp at this; omega)
        have rg : ∀ O, RowIs (wr.alloc O) g k (setArr (TI nm ct pf) e (.int .i32 (k : Int))) := fun O => (HA.out.2.2.2.1.keep hbx HA.out.2.1).keep ((Below.refl wr.heap.size wr).alloc (Nat.le_refl _) O) (by have := hbx.size; have := HA.out.2.1; omega)
        by_cases hik : i < k
        · by_cases hie : i = e
          · have b0 : wr.cell? ⟨w.heap.size + 1, i * 6, none⟩ = some (.string (nm i)) := rb i 0 hik (by omega)
            have b1 : wr.cell? ⟨w.heap.size + 1, i * 6 + 1, none⟩ = some (.int .u8 (ct i)) := rb i 1 hik (by omega)
            have b2 : wr.cell? ⟨w.heap.size + 1, i * 6 + 2, none⟩ = some (.bool (pf i)) := rb i 2 hik (by omega)
            have b3 : wr.cell? ⟨w.heap.size + 1, i * 6 + 3, none⟩ = some (.int .i32 (i : Int)) := rb i 3 hik (by omega)
            have b4 : wr.cell? ⟨w.heap.size + 1, i * 6 + 4, none⟩ = some (.int .i32 15) := rb i 4 hik (by omega)
            have b5 : wr.cell? ⟨w.heap.size + 1, i * 6 + 5, none⟩ = some (.int .i32 15) := rb i 5 hik (by omega)
            have q0 : ∀ O, (wr.alloc O).cell? ⟨g, i * 6, none⟩ = some (.string (nm i)) := fun O => (rg O i 0 hik (by omega)).trans (congrArg some (setArr_ne _ _ (by omega)))
            have q1 : ∀ O, (wr.alloc O).cell? ⟨g, i * 6 + 1, none⟩ = some (.int .u8 (ct i)) := fun O => (rg O i 1 hik (by omega)).trans (congrArg some (setArr_ne _ _ (by omega)))
            have q2 : ∀ O, (wr.alloc O).cell? ⟨g, i * 6 + 2, none⟩ = some (.bool (pf i)) := fun O => (rg O i 2 hik (by omega)).trans (congrArg some (setArr_ne _ _ (by omega)))
            have q3 : ∀ O, (wr.alloc O).cell? ⟨g, i * 6 + 3, none⟩ = some (.int .i32 (i : Int)) := fun O => (rg O i 3 hik (by omega)).trans (congrArg some (setArr_ne _ _ (by omega)))
            have q4 : ∀ O, (wr.alloc O).cell? ⟨g, i * 6 + 4, none⟩ = some (.int .i32 15) := fun O => (rg O i 4 hik (by omega)).trans (congrArg some (setArr_ne _ _ (by omega)))
            have q5 : ∀ O, (wr.alloc O).cell? ⟨g, i * 6 + 5, none⟩ = some (.int .i32 (k : Int)) := fun O => (rg O i 5 hik (by omega)).trans (congrArg some (by unfold setArr; rw [if_pos ⟨hie, rfl⟩]))
            have hieb : ((i : Int) == (e : Int)) = true := by rw [hie]; exact beq_self_eq_true _
            clear hie rb rg
            have hik1 : (i : Int) < (k : Int) + 1 := by omega
            go_wp2
            go_region
            go_wp2
            go_roundw
            case rel => exact ⟨i + 1, by omega, by go_num, (hbx.alloc hbx.size _).drew⟩
            case measure => simp [intOf]; omega
          · have b0 : wr.cell? ⟨w.heap.size + 1, i * 6, none⟩ = some (.string (nm i)) := rb i 0 hik (by omega)
            have b1 : wr.cell? ⟨w.heap.size + 1, i * 6 + 1, none⟩ = some (.int .u8 (ct i)) := rb i 1 hik (by omega)
            have b2 : wr.cell? ⟨w.heap.size + 1, i * 6 + 2, none⟩ = some (.bool (pf i)) := rb i 2 hik (by omega)
            have b3 : wr.cell? ⟨w.heap.size + 1, i * 6 + 3, none⟩ = some (.int .i32 (i : Int)) := rb i 3 hik (by omega)
            have b4 : wr.cell? ⟨w.heap.size + 1, i * 6 + 4, none⟩ = some (.int .i32 15) := rb i 4 hik (by omega)
            have b5 : wr.cell? ⟨w.heap.size + 1, i * 6 + 5, none⟩ = some (.int .i32 15) := rb i 5 hik (by omega)
            have q0 : ∀ O, (wr.alloc O).cell? ⟨g, i * 6, none⟩ = some (.string (nm i)) := fun O => (rg O i 0 hik (by omega)).trans (congrArg some (setArr_ne _ _ (by omega)))
            have q1 : ∀ O, (wr.alloc O).cell? ⟨g, i * 6 + 1, none⟩ = some (.int .u8 (ct i)) := fun O => (rg O i 1 hik (by omega)).trans (congrArg some (setArr_ne _ _ (by omega)))
            have q2 : ∀ O, (wr.alloc O).cell? ⟨g, i * 6 + 2, none⟩ = some (.bool (pf i)) := fun O => (rg O i 2 hik (by omega)).trans (congrArg some (setArr_ne _ _ (by omega)))
            have q3 : ∀ O, (wr.alloc O).cell? ⟨g, i * 6 + 3, none⟩ = some (.int .i32 (i : Int)) := fun O => (rg O i 3 hik (by omega)).trans (congrArg some (setArr_ne _ _ (by omega)))
            have q4 : ∀ O, (wr.alloc O).cell? ⟨g, i * 6 + 4, none⟩ = some (.int .i32 15) := fun O => (rg O i 4 hik (by omega)).trans (congrArg some (setArr_ne _ _ (by omega)))
            have q5 : ∀ O, (wr.alloc O).cell? ⟨g, i * 6 + 5, none⟩ = some (.int .i32 15) := fun O => (rg O i 5 hik (by omega)).trans (congrArg some (setArr_ne _ _ (by omega)))
            have hieb : ((i : Int) == (e : Int)) = false := by rw [beq_eq_false_iff_ne]; omega
            clear hie rb rg
            have hik1 : (i : Int) < (k : Int) + 1 := by omega
            go_wp2
            go_region
            go_wp2
            go_roundw
            case rel => exact ⟨i + 1, by omega, by go_num, (hbx.alloc hbx.size _).drew⟩
            case measure => simp [intOf]; omega
        · have hsze := HSZ.out e (by omega)
          have b0 : wr.cell? ⟨w.heap.size + 1, e * 6, none⟩ = some (.string (nm e)) := rb e 0 hek (by omega)
          have hlast : ∀ O j, j < 6 → (wr.alloc O).cell? ⟨g, k * 6 + j, none⟩ = (newL (nm e) k e)[j]? := fun O j hj => (((Below.refl wr.heap.size wr).alloc (Nat.le_refl _) O).cell (p := ⟨g, k * 6 + j, none⟩) (by have := hbx.size; have := HA.out.2.1; show g < _; omega)).trans ((hbx.cell (p := ⟨g, k * 6 + j, none⟩) HA.out.2.1).trans (HA.out.2.2.2.2.1 j hj))
          have q0 : ∀ O, (wr.alloc O).cell? ⟨g, k * 6, none⟩ = some (.string (nm e ++ { data := #[91, 93] })) := fun O => hlast O 0 (by omega)
          have q1 : ∀ O, (wr.alloc O).cell? ⟨g, k * 6 + 1, none⟩ = some (.int .u8 1) := fun O => hlast O 1 (by omega)
          have q2 : ∀ O, (wr.alloc O).cell? ⟨g, k * 6 + 2, none⟩ = some (.bool false) := fun O => hlast O 2 (by omega)
          have q3 : ∀ O, (wr.alloc O).cell? ⟨g, k * 6 + 3, none⟩ = some (.int .i32 (k : Int)) := fun O => hlast O 3 (by omega)
          have q4 : ∀ O, (wr.alloc O).cell? ⟨g, k * 6 + 4, none⟩ = some (.int .i32 (e : Int)) := fun O => hlast O 4 (by omega)
          have q5 : ∀ O, (wr.alloc O).cell? ⟨g, k * 6 + 5, none⟩ = some (.int .i32 15) := fun O => hlast O 5 (by omega)
          have hfin : Below w.heap.size w wr := hb.trans (HA.out.2.2.2.2.2.1.trans (hbx.mono (by have := HA.out.2.2.2.2.2.2.size; simp at this; omega)))
          have hik1 : (k : Int) < (k : Int) + 1 := by omega
          have hszw : w.heap.size ≤ wr.heap.size := hfin.size
          clear rb rg hlast
          go_wp2
          go_region
          go_wp2
          go_ret
          exact ⟨rfl, (hfin.alloc hszw _).drew⟩
end Go.Proofs.Ybulkafum.lawS1585BAppend
