/-
  No cell of these rows narrows 'for every input' (looked for: loops, veiled, ifaces, maps, wideKeys, modest, calm, conditions, laid).
  DERIVED. THE GIVEN ROWS OF THIS SEAT. 1 by the template 'for every input the law returns true; each argument reads behind the call as it read before'; 0 by the template 'total and deterministic' (their statements: YbulkboxsTotals.lean).
  GIVEN WITH THE SEED: the statements are not yours to turn. If you find one false, say at which input.
  Laid BY PROGRAM, IN A SANDBOX (cutbox-rows.mjs): the forced cells as the released guide's own fill.sh prints them over the translation af468ecd77b3e4bc… (all of the seat's roots in one cut). By AI agents, Wed Nov 11 2026. No macro, syntax, notation, axiom, sorry.
-/
import Derived.Test.YbulkboxsChecked
import GoSem.Claim
import GoSem.ClaimJoined
import GoSem.ClaimMapViews
import Derived.JoinedTies
import Derived.KernelRfl
namespace Go.Proofs.Ybulkboxs
/- THE CELL 'sum', in the pinned program and in every row, IS THE sha256 OF THE DUMP (.gsa) THAT YbulkboxsProg.lean LOADS. Nothing in Lean hashes anything: it is a label: what it is worth is what the hold of that sum in a sandbox is worth. -/
noncomputable def Yba.pinned : Pinned := { name := "ybulkboxs", sum := "af468ecd77b3e4bc3f9be4b43d7a979e8d4e7d8b7b5255676633eecb7fc938da", checked := Yba.checked }
namespace Rows
def none {H : Type} : Left H := { results := [], args := [] }

/-- 'undoweave.LawS3281BFreesAll': WHATEVER THE INPUT: true; the input reads as it did. -/
def lawS3281BFreesAllSpec : ChangeSpec := { name := "lawS3281BFreesAll", fn := fun _ => fun
  | [d] => { results := [.lit (.bool true)], args := [d] }
  | _ => none }
def lawS3281BFreesAllRow : OpenClaim := { program := "ybulkboxs", sum := "af468ecd77b3e4bc3f9be4b43d7a979e8d4e7d8b7b5255676633eecb7fc938da", func := "example.com/undoweave/undoweave.LawS3281BFreesAll", spec := "lawS3281BFreesAll", inPlace := ["sync/atomic.LoadPointer", "sync/atomic.StorePointer", "sync/atomic.StoreUint64", "sync/atomic.LoadUint64"], apart := false }
def LawS3281BFreesAllSaid : Prop := lawS3281BFreesAllRow.holds Yba.pinned (OpenSpec.ofChange lawS3281BFreesAllSpec)

/-- ITS FALSE NEIGHBOUR: 'it returns false'. Refute it at one input. -/
def lawS3281BFreesAllWrong : ChangeSpec := { name := "lawS3281BFreesAll", fn := fun _ => fun
  | [d] => { results := [.lit (.bool false)], args := [d] }
  | _ => none }
def LawS3281BFreesAllWrongFalsely : Prop := lawS3281BFreesAllRow.holds Yba.pinned (OpenSpec.ofChange lawS3281BFreesAllWrong)

end Rows
end Go.Proofs.Ybulkboxs
