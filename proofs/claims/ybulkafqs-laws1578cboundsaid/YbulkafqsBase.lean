import Derived.Test.YbulkafqsRows
import Derived.WalkKit
import Derived.ProofKit
import Derived.OpenShut
import Derived.ShutString
import Derived.ChangeOld
import Derived.Below
import Derived.WalkSpells
import Derived.Laws.IdiomStrings
import Derived.Deep.QuietTactic
import Derived.BigQuiet
import Derived.BigRegion
namespace Go.Proofs.Ybulkafqs
open Go.ChangeShapes Go.WideShapes Go.ChangeAt Go.RowKit
set_option linter.unusedVariables false

/-- What '[]byte(s)' gives: a new row whose first cells are the bytes. -/
theorem conv_bytes (s : ByteArray) (w : World) : ∃ (cap : Nat) (C : Array Value), s.size ≤ cap ∧ C.size = cap ∧ (∀ j (h : j < s.size), C[j]? = some (.int .u8 (s[j].toNat : Int))) ∧
    (convert 9 22 (.string s)).run Yba.prog w = .ok (.slice (some ⟨w.heap.size, 0, none⟩) s.size cap) (w.drew.alloc (.cells C 5 (cap, cap + 1))) := by
  refine ⟨grownCap w s.size 0 5, bytesRow s (grownCap w s.size 0 5), ?_, ?_, ?_, ?_⟩
  · have := grownCap_ge w s.size 0 5; omega
  · have := grownCap_ge w s.size 0 5
    have e : s.data.size = s.size := rfl
    simp [bytesRow]; omega
  · intro j h
    exact bytesRow_at s _ j h
  · have h := run_bytes_of_string (P := Yba.prog) w 9 22 5 s Yba.underlying9 Yba.underlying22 Yba.underlying5
    have e : (bytesRow s (grownCap w s.size 0 5)).size = grownCap w s.size 0 5 := by
      have := grownCap_ge w s.size 0 5
      have e : s.data.size = s.size := rfl
      simp [bytesRow]; omega
    rw [e] at h
    exact h

set_option maxRecDepth 100000 in
set_option maxHeartbeats 400000 in
theorem prefixEnd_any (s : ByteArray) (n : Nat) (hn : s.size = n + 1) (hs : n ≤ 4096) (w : World) :
    Calls Yba.prog 5 #[.string s] w fun e w' => ∃ cap, e = .returned (.slice (some ⟨w.heap.size, 0, none⟩) (n + 1) cap) ∧ n + 1 ≤ cap ∧
      (∀ j (h : j < n), w'.cell? ⟨w.heap.size, j, none⟩ = some (.int .u8 ((s[j]'(by omega)).toNat : Int))) ∧
      w'.cell? ⟨w.heap.size, n, none⟩ = some (.int .u8 ((((s[n]'(by omega)).toNat : Int) + 1) % 256)) ∧ Below w.heap.size w w' ∧ w'.heap.size = w.heap.size + 1 := by
  obtain ⟨cap, C, hcap, hC, hcells, hconv⟩ := conv_bytes s w
  have hc0 : (w.alloc (.cells C 5 (cap, cap + 1))).cell? ⟨w.heap.size, n, none⟩ = some (.int .u8 ((s[n]'(by omega)).toNat : Int)) := by rw [World.cell?_alloc_mark]; exact hcells n (by omega)
  have hz0 : (w.alloc (.cells C 5 (cap, cap + 1))).frozen? ⟨w.heap.size, n, none⟩ = false := by rw [World.frozen?_alloc_mark]; simp; omega
  have HC := hcells; clear hcells hC
  replace HC : Hid (∀ j (h : j < s.size), C[j]? = some (.int .u8 (s[j].toNat : Int))) := HC
  go_enter Yba.func5, Yba.ntmps5
  go_wp2
  go_ret
  refine ⟨cap, rfl, by omega, ?_, ?_, ?_, ?_⟩
  · intro j h
    show (World.setCell _ _ _).cell? _ = _
    rw [World.cell?_setCell_other _ _ _ _ (by simp; try omega), World.cell?_alloc_mark]
    exact HC.out j (by omega)
  · show (World.setCell _ _ _).cell? _ = _
    exact World.cell?_setCell_same _ _ _ hc0
  · exact ((((Below.refl _ _).alloc (Nat.le_refl _) _).setCell (Nat.le_refl _) _).drew)
  · simp
end Go.Proofs.Ybulkafqs
