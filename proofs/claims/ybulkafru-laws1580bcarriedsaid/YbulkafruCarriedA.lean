import Derived.Test.YbulkafruRows
import Derived.WalkKit
import Derived.ProofKit
import Derived.OpenShut
import Derived.ShutString
import Derived.ChangeOld
import Derived.Below
import Derived.WalkSpells
import Derived.Deep.QuietTactic
import Derived.BigQuiet
import Derived.BigRegion
import Derived.Deep.DeepCutAuto
import Derived.Deep.CutBlock
import Derived.Laws.IdiomStrings
namespace Go.Proofs.Ybulkafru.lawS1580BCarried
open Go.ChangeShapes Go.WideShapes Go.ChangeAt Go.RowKit
set_option linter.unusedVariables false

theorem info43 : (Yba.prog.info? 43).map (fun i => (i.zero, i.size, i.bytes)) = some (some (.agg #[.int .i64 0, .map none, .slice none 0 0, .int .i64 0, .int .i64 0, .slice none 0 0, .int .i64 0, .int .i64 0, .slice none 0 0, .slice none 0 0, .string ByteArray.empty, .slice none 0 0, .int .i64 0, .int .i64 0, .int .i64 0, .bool false]), 16, 216) := by kernel_rfl

/-- The cell j of a zero 'sender', where the law looks at it. -/
def zeroAt (C : Array Value) (n : Nat) : Prop := ∀ i, i < n → C[i * 16]? = some (.int .i64 0) ∧ C[i * 16 + 3]? = some (.int .i64 0) ∧ C[i * 16 + 4]? = some (.int .i64 0) ∧ C[i * 16 + 7]? = some (.int .i64 0) ∧
  C[i * 16 + 12]? = some (.int .i64 0) ∧ C[i * 16 + 13]? = some (.int .i64 0) ∧ C[i * 16 + 14]? = some (.int .i64 0)

theorem made (n : Nat) (hn : n ≤ 16) : ∃ C : Array Value, C.size = n * 16 ∧ zeroAt C n ∧
    ∀ w : World, (Instr.makeSlice 23 (.int .i64 (n : Int)) (.int .i64 (n : Int))).run Yba.prog w = .ok (.slice (some ⟨w.heap.size, 0, none⟩) n n) (w.alloc (.cells C 43)) := by
  obtain ⟨i0, hi, hz0, hz1, hz2⟩ := info_parts info43
  refine ⟨madeCells (#[.int .i64 0, .map none, .slice none 0 0, .int .i64 0, .int .i64 0, .slice none 0 0, .int .i64 0, .int .i64 0, .slice none 0 0, .slice none 0 0, .string ByteArray.empty, .slice none 0 0, .int .i64 0, .int .i64 0, .int .i64 0, .bool false] : Array Value) (n * 16), size_madeCells _ _, ?_, ?_⟩
  · intro i hi
    have h : ∀ j, j < 16 → ∀ x, ((#[.int .i64 0, .map none, .slice none 0 0, .int .i64 0, .int .i64 0, .slice none 0 0, .int .i64 0, .int .i64 0, .slice none 0 0, .slice none 0 0, .string ByteArray.empty, .slice none 0 0, .int .i64 0, .int .i64 0, .int .i64 0, .bool false] : Array Value)[j]!) = x → (madeCells (#[.int .i64 0, .map none, .slice none 0 0, .int .i64 0, .int .i64 0, .slice none 0 0, .int .i64 0, .int .i64 0, .slice none 0 0, .slice none 0 0, .string ByteArray.empty, .slice none 0 0, .int .i64 0, .int .i64 0, .int .i64 0, .bool false] : Array Value) (n * 16))[i * 16 + j]? = some x := by
      intro j hj x hx
      unfold madeCells
      rw [Array.getElem?_map, Array.getElem?_range]
      rw [if_pos (by omega)]
      simp only [Option.map_some]
      rw [← hx]
      congr 2
      show (i * 16 + j) % 16 = j
      omega
    exact ⟨h 0 (by omega) _ rfl, h 3 (by omega) _ rfl, h 4 (by omega) _ rfl, h 7 (by omega) _ rfl, h 12 (by omega) _ rfl, h 13 (by omega) _ rfl, h 14 (by omega) _ rfl⟩
  · intro w
    have hr := run_make (P := Yba.prog) w 23 43 i0 _ Yba.underlying23 hi hz0 .i64 .i64 n n (by omega) (by omega) (by rw [hz2]; omega) (by omega)
    rw [hz1] at hr
    simpa [Value.cells] using hr

/-- The seven cells of each 'sender' at which the law looks; none is frozen. -/
def Snd (w : World) (B n : Nat) (g c : Nat → Int) : Prop :=
  (∀ i, i < n → w.cell? ⟨B, i * 16, none⟩ = some (.int .i64 0) ∧ w.cell? ⟨B, i * 16 + 3, none⟩ = some (.int .i64 0) ∧ w.cell? ⟨B, i * 16 + 4, none⟩ = some (.int .i64 0) ∧ w.cell? ⟨B, i * 16 + 7, none⟩ = some (.int .i64 0) ∧
    w.cell? ⟨B, i * 16 + 12, none⟩ = some (.int .i64 (g i)) ∧ w.cell? ⟨B, i * 16 + 13, none⟩ = some (.int .i64 (c i)) ∧ w.cell? ⟨B, i * 16 + 14, none⟩ = some (.int .i64 0)) ∧
  ∀ o, w.frozen? ⟨B, o, none⟩ = false

def upd (g : Nat → Int) (k : Nat) (x : Int) : Nat → Int := fun i => if i = k then x else g i

theorem Snd.set12 {w : World} {B n : Nat} {g c : Nat → Int} (h : Snd w B n g c) {k : Nat} (hk : k < n) (x : Int) : Snd (w.setCell ⟨B, k * 16 + 12, none⟩ (.int .i64 x)) B n (upd g k x) c := by
  refine ⟨fun i hi => ?_, fun o => (World.frozen?_setCell _ _ _ _).trans (h.2 o)⟩
  obtain ⟨h1, h2, h3, h4, h5, h6, h7⟩ := h.1 i hi
  have ot : ∀ j, j < 16 → j ≠ 12 → (w.setCell ⟨B, k * 16 + 12, none⟩ (.int .i64 x)).cell? ⟨B, i * 16 + j, none⟩ = w.cell? ⟨B, i * 16 + j, none⟩ := fun j hj hne => World.cell?_setCell_other _ _ _ _ (by simp; try omega)
  refine ⟨(ot 0 (by omega) (by omega)).trans h1, (ot 3 (by omega) (by omega)).trans h2, (ot 4 (by omega) (by omega)).trans h3, (ot 7 (by omega) (by omega)).trans h4, ?_, (ot 13 (by omega) (by omega)).trans h6, (ot 14 (by omega) (by omega)).trans h7⟩
  unfold upd
  by_cases e : i = k
  · subst e; rw [if_pos rfl]; exact World.cell?_setCell_same _ _ _ h5
  · rw [if_neg e, World.cell?_setCell_other _ _ _ _ (by simp; try omega)]; exact h5

theorem Snd.set13 {w : World} {B n : Nat} {g c : Nat → Int} (h : Snd w B n g c) {k : Nat} (hk : k < n) (x : Int) : Snd (w.setCell ⟨B, k * 16 + 13, none⟩ (.int .i64 x)) B n g (upd c k x) := by
  refine ⟨fun i hi => ?_, fun o => (World.frozen?_setCell _ _ _ _).trans (h.2 o)⟩
  obtain ⟨h1, h2, h3, h4, h5, h6, h7⟩ := h.1 i hi
  have ot : ∀ j, j < 16 → j ≠ 13 → (w.setCell ⟨B, k * 16 + 13, none⟩ (.int .i64 x)).cell? ⟨B, i * 16 + j, none⟩ = w.cell? ⟨B, i * 16 + j, none⟩ := fun j hj hne => World.cell?_setCell_other _ _ _ _ (by simp; try omega)
  refine ⟨(ot 0 (by omega) (by omega)).trans h1, (ot 3 (by omega) (by omega)).trans h2, (ot 4 (by omega) (by omega)).trans h3, (ot 7 (by omega) (by omega)).trans h4, (ot 12 (by omega) (by omega)).trans h5, ?_, (ot 14 (by omega) (by omega)).trans h7⟩
  unfold upd
  by_cases e : i = k
  · subst e; rw [if_pos rfl]; exact World.cell?_setCell_same _ _ _ h6
  · rw [if_neg e, World.cell?_setCell_other _ _ _ _ (by simp; try omega)]; exact h6

theorem Snd.congr {w : World} {B n : Nat} {g c g' c' : Nat → Int} (h : Snd w B n g c) (hg : ∀ i, i < n → g i = g' i) (hc : ∀ i, i < n → c i = c' i) : Snd w B n g' c' := by
  refine ⟨fun i hi => ?_, h.2⟩
  rw [← hg i hi, ← hc i hi]
  exact h.1 i hi

theorem Snd.below {w w' : World} {B n B' : Nat} {g c : Nat → Int} (h : Snd w B n g c) (hb : Below B' w w') (hB : B < B') : Snd w' B n g c := by
  refine ⟨fun i hi => ?_, fun o => (hb.frozen (p := ⟨B, o, none⟩) hB).trans (h.2 o)⟩
  have e : ∀ o, w'.cell? ⟨B, o, none⟩ = w.cell? ⟨B, o, none⟩ := fun o => hb.cell (p := ⟨B, o, none⟩) hB
  simp only [e]
  exact h.1 i hi

theorem Snd.start {C : Array Value} {n : Nat} (w : World) (h : zeroAt C n) : Snd (w.alloc (.cells C 43)) w.heap.size n (fun _ => 0) (fun _ => 0) := by
  refine ⟨fun i hi => ?_, fun o => ?_⟩
  · obtain ⟨h1, h2, h3, h4, h5, h6, h7⟩ := h i hi
    have e : ∀ o, (w.alloc (.cells C 43)).cell? ⟨w.heap.size, o, none⟩ = C[o]? := fun o => World.cell?_alloc_mark w C 43 (0, 0) o
    simp only [e]
    exact ⟨h1, h2, h3, h4, h5, h6, h7⟩
  · have := World.frozen?_alloc_mark w C 43 0 0 o
    rw [this]; simp

def gg (g : Nat → Int) (q : Nat) (F N : Int) : Nat → Int := if N = 0 ∧ F = 1 + q then upd g q (wrap64 (g q + 1)) else g
def cc (c : Nat → Int) (q : Nat) (By N : Int) : Nat → Int := if N ≠ 0 ∧ By = 1 + q then upd c q N else c

def CarriedTo (w w' : World) (B n : Nat) (g c : Nat → Int) : Prop :=
  Snd w' B n g c ∧ (∀ b o, b ≠ B → w'.cell? ⟨b, o, none⟩ = w.cell? ⟨b, o, none⟩) ∧ Below B w w' ∧ w'.heap.size = w.heap.size

theorem to_got {w : World} {B n q : Nat} {g c : Nat → Int} {F N By : Int} (hs : Snd w B n g c) (hqn : q < n) (h1 : N = 0) (h2 : F = 1 + (q : Int)) :
    CarriedTo w (w.setCell ⟨B, q * 16 + 12, none⟩ (.int .i64 (wrap64 (g q + 1)))) B n (gg g q F N) (cc c q By N) := by
  refine ⟨?_, fun b o hb => World.cell?_setCell_other _ _ _ _ (by simp; try omega), (Below.refl B w).setCell (Nat.le_refl B) _, by simp⟩
  unfold gg cc
  rw [if_pos ⟨h1, h2⟩, if_neg (by rintro ⟨h, _⟩; exact h h1)]
  exact hs.set12 hqn _

theorem to_carried {w : World} {B n q : Nat} {g c : Nat → Int} {F N By : Int} (hs : Snd w B n g c) (hqn : q < n) (h1 : N ≠ 0) (h2 : By = 1 + (q : Int)) :
    CarriedTo w (w.setCell ⟨B, q * 16 + 13, none⟩ (.int .i64 N)) B n (gg g q F N) (cc c q By N) := by
  refine ⟨?_, fun b o hb => World.cell?_setCell_other _ _ _ _ (by simp; try omega), (Below.refl B w).setCell (Nat.le_refl B) _, by simp⟩
  unfold gg cc
  rw [if_neg (by rintro ⟨h, _⟩; exact h1 h), if_pos ⟨h1, h2⟩]
  exact hs.set13 hqn _

theorem to_same {w : World} {B n q : Nat} {g c : Nat → Int} {F N By : Int} (hs : Snd w B n g c) (h1 : ¬ (N = 0 ∧ F = 1 + (q : Int))) (h2 : ¬ (N ≠ 0 ∧ By = 1 + (q : Int))) :
    CarriedTo w w B n (gg g q F N) (cc c q By N) := by
  refine ⟨?_, fun b o hb => rfl, Below.refl _ _, rfl⟩
  unfold gg cc
  rw [if_neg h1, if_neg h2]
  exact hs

set_option maxRecDepth 100000 in
set_option maxHeartbeats 1000000 in
theorem carried_any (w : World) (B E M n q : Nat) (g c : Nat → Int) (F N By : Int) (hqn : q < n) (hn : n ≤ 16) (hEB : E ≠ B) (hMB : M ≠ B)
    (hs : Snd w B n g c) (hE : w.cell? ⟨E, 3, none⟩ = some (.slice (some ⟨B, 0, none⟩) n n))
    (h0 : w.cell? ⟨M, 0, none⟩ = some (.int .i64 F)) (h4 : w.cell? ⟨M, 4, none⟩ = some (.int .i64 N)) (h5 : w.cell? ⟨M, 5, none⟩ = some (.int .i64 By)) :
    Calls Yba.prog 6 #[.pointer (some ⟨E, 0, none⟩), .int .i64 (1 + (q : Int)), .pointer (some ⟨M, 0, none⟩)] w fun e w' => e = .returned (.tuple #[]) ∧
      CarriedTo w w' B n (gg g q F N) (cc c q By N) := by
  have hfz := hs.2
  obtain ⟨_, _, _, _, hg, hc, _⟩ := hs.1 q hqn
  have HS : Hid (Snd w B n g c) := hs
  clear hs
  go_enter Yba.func6, Yba.ntmps6
  go_wp2
  all_goals go_end0
  · have e1 : N = 0 := by assumption
    have e2 : (F == 1 + (q : Int)) = true := by assumption
    exact ⟨rfl, to_got HS.out hqn e1 (by simpa using e2)⟩
  · have e1 : N = 0 := by assumption
    have e2 : (F == 1 + (q : Int)) = false := by assumption
    exact ⟨rfl, to_same HS.out (by rintro ⟨_, h⟩; simp [h] at e2) (by rintro ⟨h, _⟩; exact h e1)⟩
  · have e1 : ¬ N = 0 := by assumption
    have e2 : (N != 0) = true ∧ (By == 1 + (q : Int)) = true := by assumption
    exact ⟨rfl, to_carried HS.out hqn e1 (by simpa using e2.2)⟩
  · have e1 : ¬ N = 0 := by assumption
    have e2 : (N != 0) = false ∨ (By == 1 + (q : Int)) = false := by assumption
    refine ⟨rfl, to_same HS.out (by rintro ⟨h, _⟩; exact e1 h) ?_⟩
    rintro ⟨h, h'⟩
    rcases e2 with e2 | e2
    · simp at e2; exact h e2
    · simp [h'] at e2
end Go.Proofs.Ybulkafru.lawS1580BCarried
