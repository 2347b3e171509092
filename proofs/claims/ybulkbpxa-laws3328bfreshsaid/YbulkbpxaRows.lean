/-
  No cell of these rows narrows 'for every input' (looked for: loops, veiled, ifaces, maps, wideKeys, modest, calm, conditions, laid).
  DERIVED. THE GIVEN ROWS OF THIS SEAT. 1 by the template 'for every input the law returns true; each argument reads behind the call as it read before'; 0 by the template 'total and deterministic' (their statements: YbulkbpxaTotals.lean).
  GIVEN WITH THE SEED: the statements are not yours to turn. If you find one false, say at which input.
  Laid BY PROGRAM, IN A SANDBOX (cutbox-rows.mjs): the forced cells as the released guide's own fill.sh prints them over the translation 1346ffbbce4ad194… (all of the seat's roots in one cut). By AI agents, Wed Nov 11 2026. No macro, syntax, notation, axiom, sorry.
-/
import Derived.Test.YbulkbpxaChecked
import GoSem.Claim
import GoSem.ClaimJoined
import GoSem.ClaimMapViews
import Derived.JoinedTies
import Derived.KernelRfl
namespace Go.Proofs.Ybulkbpxa
/- THE CELL 'sum', in the pinned program and in every row, IS THE sha256 OF THE DUMP (.gsa) THAT YbulkbpxaProg.lean LOADS. Nothing in Lean hashes anything: it is a label: what it is worth is what the hold of that sum in a sandbox is worth. -/
noncomputable def Yba.pinned : Pinned := { name := "ybulkbpxa", sum := "1346ffbbce4ad194747fa28f882df5b17155ce5d81aee56cc5218c3bd3ab3276", checked := Yba.checked }
namespace Rows
def none {H : Type} : Left H := { results := [], args := [] }

/-- 'misgiving.LawS3328BFresh': WHATEVER THE INPUT: true; the input reads as it did. -/
def lawS3328BFreshSpec : ChangeSpec := { name := "lawS3328BFresh", fn := fun _ => fun
  | [d1, d2] => { results := [.lit (.bool true)], args := [d1, d2] }
  | _ => none }
def lawS3328BFreshRow : OpenClaim := { program := "ybulkbpxa", sum := "1346ffbbce4ad194747fa28f882df5b17155ce5d81aee56cc5218c3bd3ab3276", func := "example.com/misgiving/misgiving.LawS3328BFresh", spec := "lawS3328BFresh", apart := false }
def LawS3328BFreshSaid : Prop := lawS3328BFreshRow.holds Yba.pinned (OpenSpec.ofChange lawS3328BFreshSpec)

/-- ITS FALSE NEIGHBOUR: 'it returns false'. Refute it at one input. -/
def lawS3328BFreshWrong : ChangeSpec := { name := "lawS3328BFresh", fn := fun _ => fun
  | [d1, d2] => { results := [.lit (.bool false)], args := [d1, d2] }
  | _ => none }
def LawS3328BFreshWrongFalsely : Prop := lawS3328BFreshRow.holds Yba.pinned (OpenSpec.ofChange lawS3328BFreshWrong)

end Rows
end Go.Proofs.Ybulkbpxa
