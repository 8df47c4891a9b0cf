/-
  No cell of these rows narrows 'for every input' (looked for: loops, veiled, ifaces, maps, wideKeys, modest, calm, conditions, laid).
  DERIVED. THE GIVEN ROWS OF THIS SEAT. 3 by the template 'for every input the law returns true; each argument reads behind the call as it read before'; 0 by the template 'total and deterministic' (their statements: YbulkaftkTotals.lean).
  GIVEN WITH THE SEED: the statements are not yours to turn. If you find one false, say at which input.
  Laid BY PROGRAM, IN A SANDBOX (cutbox-rows.mjs): the forced cells as the released guide's own fill.sh prints them over the translation c231f68e26476e4c… (all of the seat's roots in one cut). By AI agents, Wed Nov 11 2026. No macro, syntax, notation, axiom, sorry.
-/
import Derived.Test.YbulkaftkChecked
import GoSem.Claim
import GoSem.ClaimJoined
import GoSem.ClaimMapViews
import Derived.JoinedTies
import Derived.KernelRfl
namespace Go.Proofs.Ybulkaftk
/- THE CELL 'sum', in the pinned program and in every row, IS THE sha256 OF THE DUMP (.gsa) THAT YbulkaftkProg.lean LOADS. Nothing in Lean hashes anything: it is a label: what it is worth is what the hold of that sum in a sandbox is worth. -/
noncomputable def Yba.pinned : Pinned := { name := "ybulkaftk", sum := "c231f68e26476e4c6d9bbe10032e4275bb7ee6cbb0b6a47d514a4b963fb69a0f", checked := Yba.checked }
namespace Rows
def none {H : Type} : Left H := { results := [], args := [] }

/-- 'lz.LawS1583BBracket': WHATEVER THE INPUT: true; the input reads as it did. -/
def lawS1583BBracketSpec : ChangeSpec := { name := "lawS1583BBracket", fn := fun _ => fun
  | [d] => { results := [.lit (.bool true)], args := [d] }
  | _ => none }
def lawS1583BBracketRow : OpenClaim := { program := "ybulkaftk", sum := "c231f68e26476e4c6d9bbe10032e4275bb7ee6cbb0b6a47d514a4b963fb69a0f", func := "example.com/sketchsync/sketchsync/internal/lz.LawS1583BBracket", spec := "lawS1583BBracket", apart := false }
def LawS1583BBracketSaid : Prop := lawS1583BBracketRow.holds Yba.pinned (OpenSpec.ofChange lawS1583BBracketSpec)

/-- ITS FALSE NEIGHBOUR: 'it returns false'. Refute it at one input. -/
def lawS1583BBracketWrong : ChangeSpec := { name := "lawS1583BBracket", fn := fun _ => fun
  | [d] => { results := [.lit (.bool false)], args := [d] }
  | _ => none }
def LawS1583BBracketWrongFalsely : Prop := lawS1583BBracketRow.holds Yba.pinned (OpenSpec.ofChange lawS1583BBracketWrong)

/-- 'lz.LawS1583BDouble': WHATEVER THE INPUT: true; the input reads as it did. -/
def lawS1583BDoubleSpec : ChangeSpec := { name := "lawS1583BDouble", fn := fun _ => fun
  | [d] => { results := [.lit (.bool true)], args := [d] }
  | _ => none }
def lawS1583BDoubleRow : OpenClaim := { program := "ybulkaftk", sum := "c231f68e26476e4c6d9bbe10032e4275bb7ee6cbb0b6a47d514a4b963fb69a0f", func := "example.com/sketchsync/sketchsync/internal/lz.LawS1583BDouble", spec := "lawS1583BDouble", apart := false }
def LawS1583BDoubleSaid : Prop := lawS1583BDoubleRow.holds Yba.pinned (OpenSpec.ofChange lawS1583BDoubleSpec)

/-- ITS FALSE NEIGHBOUR: 'it returns false'. Refute it at one input. -/
def lawS1583BDoubleWrong : ChangeSpec := { name := "lawS1583BDouble", fn := fun _ => fun
  | [d] => { results := [.lit (.bool false)], args := [d] }
  | _ => none }
def LawS1583BDoubleWrongFalsely : Prop := lawS1583BDoubleRow.holds Yba.pinned (OpenSpec.ofChange lawS1583BDoubleWrong)

/-- 'lz.LawS1583BMonotone': WHATEVER THE INPUT: true; the input reads as it did. -/
def lawS1583BMonotoneSpec : ChangeSpec := { name := "lawS1583BMonotone", fn := fun _ => fun
  | [d1, d2] => { results := [.lit (.bool true)], args := [d1, d2] }
  | _ => none }
def lawS1583BMonotoneRow : OpenClaim := { program := "ybulkaftk", sum := "c231f68e26476e4c6d9bbe10032e4275bb7ee6cbb0b6a47d514a4b963fb69a0f", func := "example.com/sketchsync/sketchsync/internal/lz.LawS1583BMonotone", spec := "lawS1583BMonotone", apart := false }
def LawS1583BMonotoneSaid : Prop := lawS1583BMonotoneRow.holds Yba.pinned (OpenSpec.ofChange lawS1583BMonotoneSpec)

/-- ITS FALSE NEIGHBOUR: 'it returns false'. Refute it at one input. -/
def lawS1583BMonotoneWrong : ChangeSpec := { name := "lawS1583BMonotone", fn := fun _ => fun
  | [d1, d2] => { results := [.lit (.bool false)], args := [d1, d2] }
  | _ => none }
def LawS1583BMonotoneWrongFalsely : Prop := lawS1583BMonotoneRow.holds Yba.pinned (OpenSpec.ofChange lawS1583BMonotoneWrong)

end Rows
end Go.Proofs.Ybulkaftk
