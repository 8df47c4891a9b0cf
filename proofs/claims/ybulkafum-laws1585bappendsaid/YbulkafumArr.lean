import Derived.Test.YbulkafumRows
import Derived.WalkKit
import Derived.ProofKit
import Derived.OpenShut
import Derived.ShutString
import Derived.ChangeOld
import Derived.Below
import Derived.WalkSpells
import Derived.ArgAppend
import Derived.Deep.QuietTactic
import Derived.BigQuiet
import Derived.BigRegion
import Derived.Deep.DeepCutAuto
import Derived.Deep.CutBlock
import Derived.Laws.IdiomStrings
namespace Go.Proofs.Ybulkafum
open Go.ChangeShapes Go.WideShapes Go.ChangeAt Go.RowKit
set_option linter.unusedVariables false
theorem hid {p : Prop} (h : p) : Hid p := h

theorem info39 : (Yba.prog.info? 39).map (fun i => (i.zero, i.size, i.bytes)) = some (some (.agg #[.string ByteArray.empty, .int .u8 0, .bool false, .int .i32 0, .int .i32 0, .int .i32 0]), 6, 32) := by kernel_rfl

/-- A row of n 'typeInfo's in block b: cell j of the i-th is F i j. -/
def RowIs (w : World) (b n : Nat) (F : Nat → Nat → Value) : Prop := ∀ i j, i < n → j < 6 → w.cell? ⟨b, i * 6 + j, none⟩ = some (F i j)

/-- The row's cells, as a list. -/
def rowL (n : Nat) (F : Nat → Nat → Value) : List Value := (List.range (n * 6)).map fun q => F (q / 6) (q % 6)
theorem rowL_length (n : Nat) (F : Nat → Nat → Value) : (rowL n F).length = n * 6 := by simp [rowL]
theorem rowL_at (n : Nat) (F : Nat → Nat → Value) (i j : Nat) (hi : i < n) (hj : j < 6) : (rowL n F)[i * 6 + j]? = some (F i j) := by
  unfold rowL
  rw [List.getElem?_map, List.getElem?_range (by omega)]
  have e1 : (i * 6 + j) / 6 = i := by omega
  have e2 : (i * 6 + j) % 6 = j := by omega
  simp [e1, e2]
theorem RowIs.cell {w : World} {b n : Nat} {F : Nat → Nat → Value} (h : RowIs w b n F) {q : Nat} {u : Value} (hq : (rowL n F)[q]? = some u) : w.cell? ⟨b, q, none⟩ = some u := by
  have hlt : q < n * 6 := by have := (List.getElem?_eq_some_iff.1 hq).1; rwa [rowL_length] at this
  have h1 := h (q / 6) (q % 6) (by omega) (by omega)
  have h2 := rowL_at n F (q / 6) (q % 6) (by omega) (by omega)
  have e : q / 6 * 6 + q % 6 = q := by omega
  rw [e] at h1 h2
  rw [h1, ← h2, hq]

/-- The array's element e has array id n. -/
def setArr (F : Nat → Nat → Value) (e : Nat) (v : Value) : Nat → Nat → Value := fun i j => if i = e ∧ j = 5 then v else F i j

theorem RowIs.setArr {w : World} {b n e : Nat} {F : Nat → Nat → Value} (h : RowIs w b n F) (he : e < n) (v : Value) : RowIs (w.setCell ⟨b, e * 6 + 5, none⟩ v) b n (setArr F e v) := by
  intro i j hi hj
  unfold Ybulkafum.setArr
  by_cases c : i = e ∧ j = 5
  · obtain ⟨rfl, rfl⟩ := c
    rw [if_pos ⟨rfl, rfl⟩]
    exact World.cell?_setCell_same _ _ _ (h i 5 hi (by omega))
  · rw [if_neg c, World.cell?_setCell_other _ _ _ _ (by simp; try omega)]
    exact h i j hi hj

theorem RowIs.keep {w w' : World} {b n B : Nat} {F : Nat → Nat → Value} (h : RowIs w b n F) (hb : Below B w w') (hB : b < B) : RowIs w' b n F :=
  fun i j hi hj => (hb.cell (p := ⟨b, i * 6 + j, none⟩) hB).trans (h i j hi hj)

/-- The cells of the new entry. -/
def newL (nm : ByteArray) (n e : Nat) : List Value := [.string (nm ++ { data := #[91, 93] }), .int .u8 1, .bool false, .int .i32 (n : Int), .int .i32 (e : Int), .int .i32 15]

/-- What withArray leaves: the element's array id turned in block b, a new row in block g. -/
def After (w w' : World) (b n e g cap : Nat) (F : Nat → Nat → Value) (nm : ByteArray) : Prop :=
  w.heap.size ≤ g ∧ g < w'.heap.size ∧ RowIs w' b n (setArr F e (.int .i32 (n : Int))) ∧ RowIs w' g n (setArr F e (.int .i32 (n : Int))) ∧ (∀ j, j < 6 → w'.cell? ⟨g, n * 6 + j, none⟩ = (newL nm n e)[j]?) ∧
  Below b w w' ∧ Below w.heap.size (w.setCell ⟨b, e * 6 + 5, none⟩ (.int .i32 (n : Int))) w'

theorem after_of {w w' : World} {b n e : Nat} {F : Nat → Nat → Value} {nm : ByteArray} {v' : Value} {C : Array Value} (hr2 : RowIs (w.setCell ⟨b, e * 6 + 5, none⟩ (.int .i32 (n : Int))) b n (setArr F e (.int .i32 (n : Int)))) (hbl : b < w.heap.size)
    (hown : w'.ownsRow (w.heap.size + 1) 39 6 v' (n + 1) (rowL n (setArr F e (.int .i32 (n : Int))) ++ newL nm n e))
    (hgrow : ((w.setCell ⟨b, e * 6 + 5, none⟩ (.int .i32 (n : Int))).alloc (.cells C 39)).grownBy w' none) :
    ∃ g cap, Ending.returned v' = .returned (.slice (some ⟨g, 0, none⟩) (n + 1) cap) ∧ After w w' b n e g cap F nm := by
  have hbel : Below w.heap.size (w.setCell ⟨b, e * 6 + 5, none⟩ (.int .i32 (n : Int))) w' := ((Below.refl _ _).alloc (by simp) _).grown hgrow (by simp) (fun k hk => by simp at hk)
  rcases hown.2 with ⟨_, h⟩ | ⟨g, cap, cur, rfl, hg, hh, hc, hm, hs, ht⟩
  · omega
  · have hgl : g < w'.heap.size := by
      by_cases c : g < w'.heap.size
      · exact c
      · rw [Array.getElem?_eq_none (by omega)] at hh; simp at hh
    refine ⟨g, cap, rfl, by omega, hgl, hr2.keep hbel hbl, ?_, ?_, ((Below.refl b w).setCell (p := ⟨b, e * 6 + 5, none⟩) (Nat.le_refl b) _).trans (hbel.mono (Nat.le_of_lt hbl)), hbel⟩
    · intro i j hi hj
      rw [hown.cellAt (i * 6 + j) (by omega), List.getElem?_append_left (by rw [rowL_length]; omega), rowL_at _ _ _ _ hi hj]
    · intro j hj
      rw [hown.cellAt (n * 6 + j) (by omega), List.getElem?_append_right (by rw [rowL_length]; omega), rowL_length]
      congr 1
      omega

set_option maxRecDepth 100000 in
set_option maxHeartbeats 400000 in
theorem withArray_any (w : World) (b n e : Nat) (hn : n ≤ 2000) (he : e < n) (F : Nat → Nat → Value) (nm : ByteArray) (hnm : nm.size ≤ 140737488351232) (hF : F e 0 = .string nm) (a : Int) (hF5 : F e 5 = .int .i32 a)
    (hr : RowIs w b n F) (hf : ∀ o, w.frozen? ⟨b, o, none⟩ = false) :
    Calls Yba.prog 10 #[.slice (some ⟨b, 0, none⟩) n n, .int .i32 e] w fun r w' => ∃ g cap, r = .returned (.slice (some ⟨g, 0, none⟩) (n + 1) cap) ∧ After w w' b n e g cap F nm := by
  have h0 := hr e 0 he (by omega)
  have h5 := hr e 5 he (by omega)
  have hbl : b < w.heap.size := World.block_lt_of_cell? _ _ h0
  rw [hF] at h0
  rw [hF5] at h5
  have hf5 := hf (e * 6 + 5)
  have hei : (e : Int) < (n : Int) := by omega
  simp only [Nat.add_zero] at h0
  obtain ⟨i0, hi39, hz0, hz1, hz2⟩ := info_parts info39
  have hr2 := hr.setArr he (.int .i32 (n : Int))
  have HR2 := hid hr2
  clear hr hf hF hF5 hr2
  go_enter Yba.func10, Yba.ntmps10
  go_wp2_with (at_builtin; refine wpList_append_grows _ rfl _ _ 35 rfl 39 i0 _ 6 32 Yba.underlying35 hi39 hz0 hz1 hz2 rfl (by decide) (some ⟨b, 0, none⟩) n n (rowL n (setArr F e (.int .i32 (n : Int)))) rfl ?c1 (rowL_length _ _) ?c2 ⟨w.heap.size, 0, none⟩ 1 1 (newL nm n e) rfl rfl ?c3 ?c4 ?c5 ?c6 ?c7 ?_)
  case c1 => intro h; simp at h
  case c2 =>
    intro b' hb' j u hj
    simp only [Option.some.injEq] at hb'
    subst hb'
    have e1 : (⟨b, 0, none⟩ : Addr).add j = ⟨b, j, none⟩ := by unfold Addr.add; split <;> simp_all
    rw [e1, ← HR2.out.cell hj]
    exact World.cell?_of_block (Below.heap_alloc _ _ b (by simpa using hbl))
  case c3 =>
    intro j u hj
    have e1 : (⟨w.heap.size, 0, none⟩ : Addr).add j = ⟨w.heap.size, j, none⟩ := by unfold Addr.add; split <;> simp_all
    rw [e1]
    have e2 := World.cell?_alloc_mark (w.setCell ⟨b, e * 6 + 5, none⟩ (.int .i32 (n : Int))) (newL nm n e).toArray 39 (0, 0) j
    rw [World.size_setCell] at e2
    refine e2.trans ?_
    rw [← hj]
    simp
  case c4 =>
    intro u hu
    simp only [newL, List.mem_cons, List.not_mem_nil, or_false] at hu
    rcases hu with rfl | rfl | rfl | rfl | rfl | rfl <;> rfl
  case c5 => omega
  case c6 => unfold maxLen; omega
  case c7 => omega
  intro v' w' hown hgrow
  have HO := hid hown
  have HG := hid hgrow
  clear hown hgrow
  go_wp2
  go_ret
  exact after_of HR2.out hbl HO.out HG.out
end Go.Proofs.Ybulkafum
