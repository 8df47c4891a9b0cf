/-
  No cell of these rows narrows 'for every input' (looked for: loops, veiled, ifaces, maps, wideKeys, modest, calm, conditions, laid).
  DERIVED. THE GIVEN ROWS OF THIS SEAT. 3 by the template 'for every input the law returns true; each argument reads behind the call as it read before'; 0 by the template 'total and deterministic' (their statements: YbulkafruTotals.lean).
  GIVEN WITH THE SEED: the statements are not yours to turn. If you find one false, say at which input.
  Laid BY PROGRAM, IN A SANDBOX (cutbox-rows.mjs): the forced cells as the released guide's own fill.sh prints them over the translation 68fed942c1e6323e… (all of the seat's roots in one cut). By AI agents, Wed Nov 11 2026. No macro, syntax, notation, axiom, sorry.
-/
import Derived.Test.YbulkafruChecked
import GoSem.Claim
import GoSem.ClaimJoined
import GoSem.ClaimMapViews
import Derived.JoinedTies
import Derived.KernelRfl
namespace Go.Proofs.Ybulkafru
/- THE CELL 'sum', in the pinned program and in every row, IS THE sha256 OF THE DUMP (.gsa) THAT YbulkafruProg.lean LOADS. Nothing in Lean hashes anything: it is a label: what it is worth is what the hold of that sum in a sandbox is worth. -/
noncomputable def Yba.pinned : Pinned := { name := "ybulkafru", sum := "68fed942c1e6323e2a644d5d493b2ad7dbb202fce1fef94ea2189ef89b2cb991", checked := Yba.checked }
namespace Rows
def none {H : Type} : Left H := { results := [], args := [] }

/-- 'orderwire.LawS1580BCarried': WHATEVER THE INPUT: true; the input reads as it did. -/
def lawS1580BCarriedSpec : ChangeSpec := { name := "lawS1580BCarried", fn := fun _ => fun
  | [d1, d2, d3, d4, d5, d6, d7, d8] => { results := [.lit (.bool true)], args := [d1, d2, d3, d4, d5, d6, d7, d8] }
  | _ => none }
def lawS1580BCarriedRow : OpenClaim := { program := "ybulkafru", sum := "68fed942c1e6323e2a644d5d493b2ad7dbb202fce1fef94ea2189ef89b2cb991", func := "example.com/orderwire/orderwire.LawS1580BCarried", spec := "lawS1580BCarried", apart := false }
def LawS1580BCarriedSaid : Prop := lawS1580BCarriedRow.holds Yba.pinned (OpenSpec.ofChange lawS1580BCarriedSpec)

/-- ITS FALSE NEIGHBOUR: 'it returns false'. Refute it at one input. -/
def lawS1580BCarriedWrong : ChangeSpec := { name := "lawS1580BCarried", fn := fun _ => fun
  | [d1, d2, d3, d4, d5, d6, d7, d8] => { results := [.lit (.bool false)], args := [d1, d2, d3, d4, d5, d6, d7, d8] }
  | _ => none }
def LawS1580BCarriedWrongFalsely : Prop := lawS1580BCarriedRow.holds Yba.pinned (OpenSpec.ofChange lawS1580BCarriedWrong)

/-- 'orderwire.LawS1580CModel': WHATEVER THE INPUT: true; the input reads as it did. -/
def lawS1580CModelSpec : ChangeSpec := { name := "lawS1580CModel", fn := fun _ => fun
  | [d1, d2] => { results := [.lit (.bool true)], args := [d1, d2] }
  | _ => none }
def lawS1580CModelRow : OpenClaim := { program := "ybulkafru", sum := "68fed942c1e6323e2a644d5d493b2ad7dbb202fce1fef94ea2189ef89b2cb991", func := "example.com/orderwire/orderwire.LawS1580CModel", spec := "lawS1580CModel", apart := false }
def LawS1580CModelSaid : Prop := lawS1580CModelRow.holds Yba.pinned (OpenSpec.ofChange lawS1580CModelSpec)

/-- ITS FALSE NEIGHBOUR: 'it returns false'. Refute it at one input. -/
def lawS1580CModelWrong : ChangeSpec := { name := "lawS1580CModel", fn := fun _ => fun
  | [d1, d2] => { results := [.lit (.bool false)], args := [d1, d2] }
  | _ => none }
def LawS1580CModelWrongFalsely : Prop := lawS1580CModelRow.holds Yba.pinned (OpenSpec.ofChange lawS1580CModelWrong)

/-- 'orderwire.LawS1580CRoundTrip': WHATEVER THE INPUT: true; the input reads as it did. -/
def lawS1580CRoundTripSpec : ChangeSpec := { name := "lawS1580CRoundTrip", fn := fun _ => fun
  | [d1, d2] => { results := [.lit (.bool true)], args := [d1, d2] }
  | _ => none }
def lawS1580CRoundTripRow : OpenClaim := { program := "ybulkafru", sum := "68fed942c1e6323e2a644d5d493b2ad7dbb202fce1fef94ea2189ef89b2cb991", func := "example.com/orderwire/orderwire.LawS1580CRoundTrip", spec := "lawS1580CRoundTrip", apart := false }
def LawS1580CRoundTripSaid : Prop := lawS1580CRoundTripRow.holds Yba.pinned (OpenSpec.ofChange lawS1580CRoundTripSpec)

/-- ITS FALSE NEIGHBOUR: 'it returns false'. Refute it at one input. -/
def lawS1580CRoundTripWrong : ChangeSpec := { name := "lawS1580CRoundTrip", fn := fun _ => fun
  | [d1, d2] => { results := [.lit (.bool false)], args := [d1, d2] }
  | _ => none }
def LawS1580CRoundTripWrongFalsely : Prop := lawS1580CRoundTripRow.holds Yba.pinned (OpenSpec.ofChange lawS1580CRoundTripWrong)

end Rows
end Go.Proofs.Ybulkafru
