/-
  No cell of these rows narrows 'for every input' (looked for: loops, veiled, ifaces, maps, wideKeys, modest, calm, conditions, laid).
  DERIVED. THE GIVEN ROWS OF THIS SEAT. 2 by the template 'for every input the law returns true; each argument reads behind the call as it read before'; 0 by the template 'total and deterministic' (their statements: YbulkbovoTotals.lean).
  GIVEN WITH THE SEED: the statements are not yours to turn. If you find one false, say at which input.
  Laid BY PROGRAM, IN A SANDBOX (cutbox-rows.mjs): the forced cells as the released guide's own fill.sh prints them over the translation a74aebca5781c13f… (all of the seat's roots in one cut). By AI agents, Wed Nov 11 2026. No macro, syntax, notation, axiom, sorry.
-/
import Derived.Test.YbulkbovoChecked
import GoSem.Claim
import GoSem.ClaimJoined
import GoSem.ClaimMapViews
import Derived.JoinedTies
import Derived.KernelRfl
namespace Go.Proofs.Ybulkbovo
/- THE CELL 'sum', in the pinned program and in every row, IS THE sha256 OF THE DUMP (.gsa) THAT YbulkbovoProg.lean LOADS. Nothing in Lean hashes anything: it is a label: what it is worth is what the hold of that sum in a sandbox is worth. -/
noncomputable def Yba.pinned : Pinned := { name := "ybulkbovo", sum := "a74aebca5781c13f91ac3e4ae0d42ceb32344cdb9f98c939d41bc3292f531511", checked := Yba.checked }
namespace Rows
def none {H : Type} : Left H := { results := [], args := [] }

/-- 'route.LawS3277BOrder': WHATEVER THE INPUT: true; the input reads as it did. -/
def lawS3277BOrderSpec : ChangeSpec := { name := "lawS3277BOrder", fn := fun _ => fun
  | [d1, d2] => { results := [.lit (.bool true)], args := [d1, d2] }
  | _ => none }
def lawS3277BOrderRow : OpenClaim := { program := "ybulkbovo", sum := "a74aebca5781c13f91ac3e4ae0d42ceb32344cdb9f98c939d41bc3292f531511", func := "example.com/leafset/leafset/internal/route.LawS3277BOrder", spec := "lawS3277BOrder", apart := false }
def LawS3277BOrderSaid : Prop := lawS3277BOrderRow.holds Yba.pinned (OpenSpec.ofChange lawS3277BOrderSpec)

/-- ITS FALSE NEIGHBOUR: 'it returns false'. Refute it at one input. -/
def lawS3277BOrderWrong : ChangeSpec := { name := "lawS3277BOrder", fn := fun _ => fun
  | [d1, d2] => { results := [.lit (.bool false)], args := [d1, d2] }
  | _ => none }
def LawS3277BOrderWrongFalsely : Prop := lawS3277BOrderRow.holds Yba.pinned (OpenSpec.ofChange lawS3277BOrderWrong)

/-- 'route.LawS3277BFresh': WHATEVER THE INPUT: true; the input reads as it did. -/
def lawS3277BFreshSpec : ChangeSpec := { name := "lawS3277BFresh", fn := fun _ => fun
  | [d1, d2] => { results := [.lit (.bool true)], args := [d1, d2] }
  | _ => none }
def lawS3277BFreshRow : OpenClaim := { program := "ybulkbovo", sum := "a74aebca5781c13f91ac3e4ae0d42ceb32344cdb9f98c939d41bc3292f531511", func := "example.com/leafset/leafset/internal/route.LawS3277BFresh", spec := "lawS3277BFresh", apart := false }
def LawS3277BFreshSaid : Prop := lawS3277BFreshRow.holds Yba.pinned (OpenSpec.ofChange lawS3277BFreshSpec)

/-- ITS FALSE NEIGHBOUR: 'it returns false'. Refute it at one input. -/
def lawS3277BFreshWrong : ChangeSpec := { name := "lawS3277BFresh", fn := fun _ => fun
  | [d1, d2] => { results := [.lit (.bool false)], args := [d1, d2] }
  | _ => none }
def LawS3277BFreshWrongFalsely : Prop := lawS3277BFreshRow.holds Yba.pinned (OpenSpec.ofChange lawS3277BFreshWrong)

end Rows
end Go.Proofs.Ybulkbovo
