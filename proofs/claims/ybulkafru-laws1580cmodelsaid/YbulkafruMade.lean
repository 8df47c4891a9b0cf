import Derived.Test.YbulkafruVar
import Derived.Laws.IdiomStrings
namespace Go.Proofs.Ybulkafru
open Go.ChangeShapes Go.WideShapes Go.ChangeAt Go.RowKit
set_option linter.unusedVariables false

theorem info3 : (Yba.prog.info? 3).map (fun i => (i.zero, i.size, i.bytes)) = some (some (.int .i64 0), 1, 8) := by kernel_rfl
theorem info5 : (Yba.prog.info? 5).map (fun i => (i.zero, i.size, i.bytes)) = some (some (.int .u8 0), 1, 1) := by kernel_rfl

theorem made_at (z : Value) (n j : Nat) (hj : j < n) : (madeCells #[z] n)[j]? = some z := by
  unfold madeCells
  rw [Array.getElem?_map, Array.getElem?_range, if_pos hj]
  simp [Nat.mod_one]

/-- 'make([]int, n)'. -/
theorem made_ints (n : Nat) (hn : n ≤ 4096) : ∃ C : Array Value, (∀ j, j < n → C[j]? = some (.int .i64 0)) ∧
    ∀ w : World, (Instr.makeSlice 30 (.int .i64 (n : Int)) (.int .i64 (n : Int))).run Yba.prog w = .ok (.slice (some ⟨w.heap.size, 0, none⟩) n n) (w.alloc (.cells C 3)) := by
  obtain ⟨i0, hi, hz0, hz1, hz2⟩ := info_parts info3
  refine ⟨madeCells #[.int .i64 0] n, fun j hj => made_at _ n j hj, ?_⟩
  intro w
  have hr := run_make (P := Yba.prog) w 30 3 i0 _ Yba.underlying30 hi hz0 .i64 .i64 n n (by omega) (by omega) (by rw [hz2]; omega) (by omega)
  rw [hz1] at hr
  simpa [Value.cells] using hr

/-- 'make([]byte, n)'. -/
theorem made_bytes (n : Nat) (hn : n ≤ 4096) : ∃ C : Array Value, (∀ j, j < n → C[j]? = some (.int .u8 0)) ∧
    ∀ w : World, (Instr.makeSlice 44 (.int .i64 (n : Int)) (.int .i64 (n : Int))).run Yba.prog w = .ok (.slice (some ⟨w.heap.size, 0, none⟩) n n) (w.alloc (.cells C 5)) := by
  obtain ⟨i0, hi, hz0, hz1, hz2⟩ := info_parts info5
  refine ⟨madeCells #[.int .u8 0] n, fun j hj => made_at _ n j hj, ?_⟩
  intro w
  have hr := run_make (P := Yba.prog) w 44 5 i0 _ Yba.underlying44 hi hz0 .i64 .i64 n n (by omega) (by omega) (by rw [hz2]; omega) (by omega)
  rw [hz1] at hr
  simpa [Value.cells] using hr

theorem new_cell (w : World) (C : Array Value) (t : TypeId) (B : Nat) (hB : w.heap.size = B) (o : Nat) : (w.alloc (.cells C t)).cell? ⟨B, o, none⟩ = C[o]? := by
  subst hB; exact World.cell?_alloc_mark w C t (0, 0) o
theorem new_free (w : World) (C : Array Value) (t : TypeId) (B : Nat) (hB : w.heap.size = B) (o : Nat) : (w.alloc (.cells C t)).frozen? ⟨B, o, none⟩ = false := by
  subst hB
  have := World.frozen?_alloc_mark w C t 0 0 o
  rw [this]; simp

/-- A slice of integers that came in. -/
def IsRow (k : IntKind) (w : World) (a : Option Addr) (len cap : Nat) (zs : List Int) : Prop :=
  (a = none ∧ len = 0 ∧ cap = 0 ∧ zs = []) ∨
  ∃ x, a = some x ∧ len ≤ cap ∧ cap ≤ maxLen ∧ zs.length = cap ∧ (∀ i, i < zs.length → w.cell? (x.add i) = some (.int k (zs.getD i 0))) ∧ ∀ n ∈ zs, (Lit.int k n).wf = true

theorem IsRow.open {k : IntKind} {w : World} {a : Option Addr} {len cap : Nat} {zs : List Int} (h : IsRow k w a len cap zs) :
    len ≤ cap ∧ (len = 0 ∨ ∃ g o, a = some ⟨g, o, none⟩ ∧ g < w.heap.size ∧ ∀ j, j < len → w.cell? ⟨g, o + j, none⟩ = some (.int k (zs.getD j 0))) ∧ ∀ j, (Lit.int k (zs.getD j 0)).wf = true ∨ zs.getD j 0 = 0 := by
  rcases h with ⟨rfl, rfl, rfl, rfl⟩ | ⟨x, rfl, hlc, hcm, hz, hcell, hwf⟩
  · exact ⟨Nat.le_refl _, .inl rfl, fun j => .inr (by simp)⟩
  · refine ⟨hlc, ?_, fun j => ?_⟩
    · by_cases h0 : len = 0
      · exact .inl h0
      · obtain ⟨g, o, rfl, hc⟩ := ints_at hcell (by omega)
        refine .inr ⟨g, o, rfl, World.block_lt_of_cell? _ _ (hc 0 (by omega)), fun j hj => hc j (by omega)⟩
    · by_cases hj : j < zs.length
      · left
        have e : zs.getD j 0 = zs[j] := by simp [List.getD_eq_getElem?_getD, hj]
        rw [e]
        exact hwf _ (List.getElem_mem _)
      · right
        simp [List.getD_eq_getElem?_getD, List.getElem?_eq_none (by omega : zs.length ≤ j)]

end Go.Proofs.Ybulkafru
