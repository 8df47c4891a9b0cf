/-
  No cell of these rows narrows 'for every input' (looked for: loops, veiled, ifaces, maps, wideKeys, modest, calm, conditions, laid).
  DERIVED. THE GIVEN ROWS OF THIS SEAT. 5 by the template 'for every input the law returns true; each argument reads behind the call as it read before'; 0 by the template 'total and deterministic' (their statements: YbulkafumTotals.lean).
  GIVEN WITH THE SEED: the statements are not yours to turn. If you find one false, say at which input.
  Laid BY PROGRAM, IN A SANDBOX (cutbox-rows.mjs): the forced cells as the released guide's own fill.sh prints them over the translation e64368aa246eb9a6… (all of the seat's roots in one cut). By AI agents, Wed Nov 11 2026. No macro, syntax, notation, axiom, sorry.
-/
import Derived.Test.YbulkafumChecked
import GoSem.Claim
import GoSem.ClaimJoined
import GoSem.ClaimMapViews
import Derived.JoinedTies
import Derived.KernelRfl
namespace Go.Proofs.Ybulkafum
/- THE CELL 'sum', in the pinned program and in every row, IS THE sha256 OF THE DUMP (.gsa) THAT YbulkafumProg.lean LOADS. Nothing in Lean hashes anything: it is a label: what it is worth is what the hold of that sum in a sandbox is worth. -/
noncomputable def Yba.pinned : Pinned := { name := "ybulkafum", sum := "e64368aa246eb9a69d7a0e58a7655bb419d758eac14e2ee9d2598bebfb3a6be6", checked := Yba.checked }
namespace Rows
def none {H : Type} : Left H := { results := [], args := [] }

/-- 'resolvent.LawS1585AModel': WHATEVER THE INPUT: true; the input reads as it did. -/
def lawS1585AModelSpec : ChangeSpec := { name := "lawS1585AModel", fn := fun _ => fun
  | [d] => { results := [.lit (.bool true)], args := [d] }
  | _ => none }
def lawS1585AModelRow : OpenClaim := { program := "ybulkafum", sum := "e64368aa246eb9a69d7a0e58a7655bb419d758eac14e2ee9d2598bebfb3a6be6", func := "example.com/resolvent/resolvent.LawS1585AModel", spec := "lawS1585AModel", apart := false }
def LawS1585AModelSaid : Prop := lawS1585AModelRow.holds Yba.pinned (OpenSpec.ofChange lawS1585AModelSpec)

/-- ITS FALSE NEIGHBOUR: 'it returns false'. Refute it at one input. -/
def lawS1585AModelWrong : ChangeSpec := { name := "lawS1585AModel", fn := fun _ => fun
  | [d] => { results := [.lit (.bool false)], args := [d] }
  | _ => none }
def LawS1585AModelWrongFalsely : Prop := lawS1585AModelRow.holds Yba.pinned (OpenSpec.ofChange lawS1585AModelWrong)

/-- 'resolvent.LawS1585ABuild': WHATEVER THE INPUT: true; the input reads as it did. -/
def lawS1585ABuildSpec : ChangeSpec := { name := "lawS1585ABuild", fn := fun _ => fun
  | [d1, d2, d3, d4] => { results := [.lit (.bool true)], args := [d1, d2, d3, d4] }
  | _ => none }
def lawS1585ABuildRow : OpenClaim := { program := "ybulkafum", sum := "e64368aa246eb9a69d7a0e58a7655bb419d758eac14e2ee9d2598bebfb3a6be6", func := "example.com/resolvent/resolvent.LawS1585ABuild", spec := "lawS1585ABuild", apart := false }
def LawS1585ABuildSaid : Prop := lawS1585ABuildRow.holds Yba.pinned (OpenSpec.ofChange lawS1585ABuildSpec)

/-- ITS FALSE NEIGHBOUR: 'it returns false'. Refute it at one input. -/
def lawS1585ABuildWrong : ChangeSpec := { name := "lawS1585ABuild", fn := fun _ => fun
  | [d1, d2, d3, d4] => { results := [.lit (.bool false)], args := [d1, d2, d3, d4] }
  | _ => none }
def LawS1585ABuildWrongFalsely : Prop := lawS1585ABuildRow.holds Yba.pinned (OpenSpec.ofChange lawS1585ABuildWrong)

/-- 'resolvent.LawS1585BAppend': WHATEVER THE INPUT: true; the input reads as it did. -/
def lawS1585BAppendSpec : ChangeSpec := { name := "lawS1585BAppend", fn := fun _ => fun
  | [d1, d2, d3, d4] => { results := [.lit (.bool true)], args := [d1, d2, d3, d4] }
  | _ => none }
def lawS1585BAppendRow : OpenClaim := { program := "ybulkafum", sum := "e64368aa246eb9a69d7a0e58a7655bb419d758eac14e2ee9d2598bebfb3a6be6", func := "example.com/resolvent/resolvent.LawS1585BAppend", spec := "lawS1585BAppend", apart := false }
def LawS1585BAppendSaid : Prop := lawS1585BAppendRow.holds Yba.pinned (OpenSpec.ofChange lawS1585BAppendSpec)

/-- ITS FALSE NEIGHBOUR: 'it returns false'. Refute it at one input. -/
def lawS1585BAppendWrong : ChangeSpec := { name := "lawS1585BAppend", fn := fun _ => fun
  | [d1, d2, d3, d4] => { results := [.lit (.bool false)], args := [d1, d2, d3, d4] }
  | _ => none }
def LawS1585BAppendWrongFalsely : Prop := lawS1585BAppendRow.holds Yba.pinned (OpenSpec.ofChange lawS1585BAppendWrong)

/-- 'resolvent.LawS1585CModel': WHATEVER THE INPUT: true; the input reads as it did. -/
def lawS1585CModelSpec : ChangeSpec := { name := "lawS1585CModel", fn := fun _ => fun
  | [d] => { results := [.lit (.bool true)], args := [d] }
  | _ => none }
def lawS1585CModelRow : OpenClaim := { program := "ybulkafum", sum := "e64368aa246eb9a69d7a0e58a7655bb419d758eac14e2ee9d2598bebfb3a6be6", func := "example.com/resolvent/resolvent.LawS1585CModel", spec := "lawS1585CModel", inPlace := ["internal/bytealg.IndexByteString"], apart := false }
def LawS1585CModelSaid : Prop := lawS1585CModelRow.holds Yba.pinned (OpenSpec.ofChange lawS1585CModelSpec)

/-- ITS FALSE NEIGHBOUR: 'it returns false'. Refute it at one input. -/
def lawS1585CModelWrong : ChangeSpec := { name := "lawS1585CModel", fn := fun _ => fun
  | [d] => { results := [.lit (.bool false)], args := [d] }
  | _ => none }
def LawS1585CModelWrongFalsely : Prop := lawS1585CModelRow.holds Yba.pinned (OpenSpec.ofChange lawS1585CModelWrong)

/-- 'resolvent.LawS1585CBuilt': WHATEVER THE INPUT: true; the input reads as it did. -/
def lawS1585CBuiltSpec : ChangeSpec := { name := "lawS1585CBuilt", fn := fun _ => fun
  | [d] => { results := [.lit (.bool true)], args := [d] }
  | _ => none }
def lawS1585CBuiltRow : OpenClaim := { program := "ybulkafum", sum := "e64368aa246eb9a69d7a0e58a7655bb419d758eac14e2ee9d2598bebfb3a6be6", func := "example.com/resolvent/resolvent.LawS1585CBuilt", spec := "lawS1585CBuilt", inPlace := ["internal/bytealg.IndexByteString"], apart := false }
def LawS1585CBuiltSaid : Prop := lawS1585CBuiltRow.holds Yba.pinned (OpenSpec.ofChange lawS1585CBuiltSpec)

/-- ITS FALSE NEIGHBOUR: 'it returns false'. Refute it at one input. -/
def lawS1585CBuiltWrong : ChangeSpec := { name := "lawS1585CBuilt", fn := fun _ => fun
  | [d] => { results := [.lit (.bool false)], args := [d] }
  | _ => none }
def LawS1585CBuiltWrongFalsely : Prop := lawS1585CBuiltRow.holds Yba.pinned (OpenSpec.ofChange lawS1585CBuiltWrong)

end Rows
end Go.Proofs.Ybulkafum
