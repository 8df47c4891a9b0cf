/-
  No cell of these rows narrows 'for every input' (looked for: loops, veiled, ifaces, maps, wideKeys, modest, calm, conditions, laid).
  DERIVED. THE GIVEN ROWS OF THIS SEAT. 2 by the template 'for every input the law returns true; each argument reads behind the call as it read before'; 0 by the template 'total and deterministic' (their statements: YbulkafqsTotals.lean).
  GIVEN WITH THE SEED: the statements are not yours to turn. If you find one false, say at which input.
  Laid BY PROGRAM, IN A SANDBOX (cutbox-rows.mjs): the forced cells as the released guide's own fill.sh prints them over the translation bd2e7d940c5f2bd3… (all of the seat's roots in one cut). By AI agents, Wed Nov 11 2026. No macro, syntax, notation, axiom, sorry.
-/
import Derived.Test.YbulkafqsChecked
import GoSem.Claim
import GoSem.ClaimJoined
import GoSem.ClaimMapViews
import Derived.JoinedTies
import Derived.KernelRfl
namespace Go.Proofs.Ybulkafqs
/- THE CELL 'sum', in the pinned program and in every row, IS THE sha256 OF THE DUMP (.gsa) THAT YbulkafqsProg.lean LOADS. Nothing in Lean hashes anything: it is a label: what it is worth is what the hold of that sum in a sandbox is worth. -/
noncomputable def Yba.pinned : Pinned := { name := "ybulkafqs", sum := "bd2e7d940c5f2bd3a5b0832c4223599d5421643da8ab4f42fa2f5a2677dc98cd", checked := Yba.checked }
namespace Rows
def none {H : Type} : Left H := { results := [], args := [] }

/-- 'attestore.LawS1578CExact': WHATEVER THE INPUT: true; the input reads as it did. -/
def lawS1578CExactSpec : ChangeSpec := { name := "lawS1578CExact", fn := fun _ => fun
  | [d] => { results := [.lit (.bool true)], args := [d] }
  | _ => none }
def lawS1578CExactRow : OpenClaim := { program := "ybulkafqs", sum := "bd2e7d940c5f2bd3a5b0832c4223599d5421643da8ab4f42fa2f5a2677dc98cd", func := "attestore.example/attestore.LawS1578CExact", spec := "lawS1578CExact", apart := false }
def LawS1578CExactSaid : Prop := lawS1578CExactRow.holds Yba.pinned (OpenSpec.ofChange lawS1578CExactSpec)

/-- ITS FALSE NEIGHBOUR: 'it returns false'. Refute it at one input. -/
def lawS1578CExactWrong : ChangeSpec := { name := "lawS1578CExact", fn := fun _ => fun
  | [d] => { results := [.lit (.bool false)], args := [d] }
  | _ => none }
def LawS1578CExactWrongFalsely : Prop := lawS1578CExactRow.holds Yba.pinned (OpenSpec.ofChange lawS1578CExactWrong)

/-- 'attestore.LawS1578CBound': WHATEVER THE INPUT: true; the input reads as it did. -/
def lawS1578CBoundSpec : ChangeSpec := { name := "lawS1578CBound", fn := fun _ => fun
  | [d1, d2] => { results := [.lit (.bool true)], args := [d1, d2] }
  | _ => none }
def lawS1578CBoundRow : OpenClaim := { program := "ybulkafqs", sum := "bd2e7d940c5f2bd3a5b0832c4223599d5421643da8ab4f42fa2f5a2677dc98cd", func := "attestore.example/attestore.LawS1578CBound", spec := "lawS1578CBound", inPlace := ["internal/bytealg.Compare"], apart := false }
def LawS1578CBoundSaid : Prop := lawS1578CBoundRow.holds Yba.pinned (OpenSpec.ofChange lawS1578CBoundSpec)

/-- ITS FALSE NEIGHBOUR: 'it returns false'. Refute it at one input. -/
def lawS1578CBoundWrong : ChangeSpec := { name := "lawS1578CBound", fn := fun _ => fun
  | [d1, d2] => { results := [.lit (.bool false)], args := [d1, d2] }
  | _ => none }
def LawS1578CBoundWrongFalsely : Prop := lawS1578CBoundRow.holds Yba.pinned (OpenSpec.ofChange lawS1578CBoundWrong)

end Rows
end Go.Proofs.Ybulkafqs
