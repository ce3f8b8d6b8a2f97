/-
  No cell of these rows narrows 'for every input' (looked for: loops, veiled, ifaces, maps, wideKeys, modest, calm, conditions, laid).
  DERIVED. THE GIVEN ROWS OF THIS SEAT. 5 by the template 'for every input the law returns true; each argument reads behind the call as it read before'; 0 by the template 'total and deterministic' (their statements: YbulkbotyTotals.lean).
  GIVEN WITH THE SEED: the statements are not yours to turn. If you find one false, say at which input.
  Laid BY PROGRAM, IN A SANDBOX (cutbox-rows.mjs): the forced cells as the released guide's own fill.sh prints them over the translation c08aee67045e0923… (all of the seat's roots in one cut). By AI agents, Wed Nov 11 2026. No macro, syntax, notation, axiom, sorry.
-/
import Derived.Test.YbulkbotyChecked
import GoSem.Claim
import GoSem.ClaimJoined
import GoSem.ClaimMapViews
import Derived.JoinedTies
import Derived.KernelRfl
namespace Go.Proofs.Ybulkboty
/- THE CELL 'sum', in the pinned program and in every row, IS THE sha256 OF THE DUMP (.gsa) THAT YbulkbotyProg.lean LOADS. Nothing in Lean hashes anything: it is a label: what it is worth is what the hold of that sum in a sandbox is worth. -/
noncomputable def Yba.pinned : Pinned := { name := "ybulkboty", sum := "c08aee67045e0923c3d08293e4616ce4252a4727be946b8e3f0903bc90bff497", checked := Yba.checked }
namespace Rows
def none {H : Type} : Left H := { results := [], args := [] }

/-- 'tender.LawS3274AExact': WHATEVER THE INPUT: true; the input reads as it did. -/
def lawS3274AExactSpec : ChangeSpec := { name := "lawS3274AExact", fn := fun _ => fun
  | [d1, d2] => { results := [.lit (.bool true)], args := [d1, d2] }
  | _ => none }
def lawS3274AExactRow : OpenClaim := { program := "ybulkboty", sum := "c08aee67045e0923c3d08293e4616ce4252a4727be946b8e3f0903bc90bff497", func := "example.com/tendermark/tendermark/pkg/tender.LawS3274AExact", spec := "lawS3274AExact", apart := false }
def LawS3274AExactSaid : Prop := lawS3274AExactRow.holds Yba.pinned (OpenSpec.ofChange lawS3274AExactSpec)

/-- ITS FALSE NEIGHBOUR: 'it returns false'. Refute it at one input. -/
def lawS3274AExactWrong : ChangeSpec := { name := "lawS3274AExact", fn := fun _ => fun
  | [d1, d2] => { results := [.lit (.bool false)], args := [d1, d2] }
  | _ => none }
def LawS3274AExactWrongFalsely : Prop := lawS3274AExactRow.holds Yba.pinned (OpenSpec.ofChange lawS3274AExactWrong)

/-- 'tender.LawS3274ASigned': WHATEVER THE INPUT: true; the input reads as it did. -/
def lawS3274ASignedSpec : ChangeSpec := { name := "lawS3274ASigned", fn := fun _ => fun
  | [d1, d2] => { results := [.lit (.bool true)], args := [d1, d2] }
  | _ => none }
def lawS3274ASignedRow : OpenClaim := { program := "ybulkboty", sum := "c08aee67045e0923c3d08293e4616ce4252a4727be946b8e3f0903bc90bff497", func := "example.com/tendermark/tendermark/pkg/tender.LawS3274ASigned", spec := "lawS3274ASigned", apart := false }
def LawS3274ASignedSaid : Prop := lawS3274ASignedRow.holds Yba.pinned (OpenSpec.ofChange lawS3274ASignedSpec)

/-- ITS FALSE NEIGHBOUR: 'it returns false'. Refute it at one input. -/
def lawS3274ASignedWrong : ChangeSpec := { name := "lawS3274ASigned", fn := fun _ => fun
  | [d1, d2] => { results := [.lit (.bool false)], args := [d1, d2] }
  | _ => none }
def LawS3274ASignedWrongFalsely : Prop := lawS3274ASignedRow.holds Yba.pinned (OpenSpec.ofChange lawS3274ASignedWrong)

/-- 'tender.LawS3274AHalf': WHATEVER THE INPUT: true; the input reads as it did. -/
def lawS3274AHalfSpec : ChangeSpec := { name := "lawS3274AHalf", fn := fun _ => fun
  | [d] => { results := [.lit (.bool true)], args := [d] }
  | _ => none }
def lawS3274AHalfRow : OpenClaim := { program := "ybulkboty", sum := "c08aee67045e0923c3d08293e4616ce4252a4727be946b8e3f0903bc90bff497", func := "example.com/tendermark/tendermark/pkg/tender.LawS3274AHalf", spec := "lawS3274AHalf", apart := false }
def LawS3274AHalfSaid : Prop := lawS3274AHalfRow.holds Yba.pinned (OpenSpec.ofChange lawS3274AHalfSpec)

/-- ITS FALSE NEIGHBOUR: 'it returns false'. Refute it at one input. -/
def lawS3274AHalfWrong : ChangeSpec := { name := "lawS3274AHalf", fn := fun _ => fun
  | [d] => { results := [.lit (.bool false)], args := [d] }
  | _ => none }
def LawS3274AHalfWrongFalsely : Prop := lawS3274AHalfRow.holds Yba.pinned (OpenSpec.ofChange lawS3274AHalfWrong)

/-- 'tender.LawS3274BSteps': WHATEVER THE INPUT: true; the input reads as it did. -/
def lawS3274BStepsSpec : ChangeSpec := { name := "lawS3274BSteps", fn := fun _ => fun
  | [d1, d2, d3, d4, d5, d6, d7, d8, d9, d10, d11, d12] => { results := [.lit (.bool true)], args := [d1, d2, d3, d4, d5, d6, d7, d8, d9, d10, d11, d12] }
  | _ => none }
def lawS3274BStepsRow : OpenClaim := { program := "ybulkboty", sum := "c08aee67045e0923c3d08293e4616ce4252a4727be946b8e3f0903bc90bff497", func := "example.com/tendermark/tendermark/pkg/tender.LawS3274BSteps", spec := "lawS3274BSteps", apart := false }
def LawS3274BStepsSaid : Prop := lawS3274BStepsRow.holds Yba.pinned (OpenSpec.ofChange lawS3274BStepsSpec)

/-- ITS FALSE NEIGHBOUR: 'it returns false'. Refute it at one input. -/
def lawS3274BStepsWrong : ChangeSpec := { name := "lawS3274BSteps", fn := fun _ => fun
  | [d1, d2, d3, d4, d5, d6, d7, d8, d9, d10, d11, d12] => { results := [.lit (.bool false)], args := [d1, d2, d3, d4, d5, d6, d7, d8, d9, d10, d11, d12] }
  | _ => none }
def LawS3274BStepsWrongFalsely : Prop := lawS3274BStepsRow.holds Yba.pinned (OpenSpec.ofChange lawS3274BStepsWrong)

/-- 'tender.LawS3274BUnknown': WHATEVER THE INPUT: true; the input reads as it did. -/
def lawS3274BUnknownSpec : ChangeSpec := { name := "lawS3274BUnknown", fn := fun _ => fun
  | [d1, d2, d3, d4, d5, d6] => { results := [.lit (.bool true)], args := [d1, d2, d3, d4, d5, d6] }
  | _ => none }
def lawS3274BUnknownRow : OpenClaim := { program := "ybulkboty", sum := "c08aee67045e0923c3d08293e4616ce4252a4727be946b8e3f0903bc90bff497", func := "example.com/tendermark/tendermark/pkg/tender.LawS3274BUnknown", spec := "lawS3274BUnknown", apart := false }
def LawS3274BUnknownSaid : Prop := lawS3274BUnknownRow.holds Yba.pinned (OpenSpec.ofChange lawS3274BUnknownSpec)

/-- ITS FALSE NEIGHBOUR: 'it returns false'. Refute it at one input. -/
def lawS3274BUnknownWrong : ChangeSpec := { name := "lawS3274BUnknown", fn := fun _ => fun
  | [d1, d2, d3, d4, d5, d6] => { results := [.lit (.bool false)], args := [d1, d2, d3, d4, d5, d6] }
  | _ => none }
def LawS3274BUnknownWrongFalsely : Prop := lawS3274BUnknownRow.holds Yba.pinned (OpenSpec.ofChange lawS3274BUnknownWrong)

end Rows
end Go.Proofs.Ybulkboty
