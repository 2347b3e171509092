/-
  No cell of these rows narrows 'for every input' (looked for: loops, veiled, ifaces, maps, wideKeys, modest, calm, conditions, laid).
  DERIVED. THE GIVEN ROWS OF THIS SEAT. 2 by the template 'for every input the law returns true; each argument reads behind the call as it read before'; 0 by the template 'total and deterministic' (their statements: YbulkbpqoTotals.lean).
  GIVEN WITH THE SEED: the statements are not yours to turn. If you find one false, say at which input.
  Laid BY PROGRAM, IN A SANDBOX (cutbox-rows.mjs): the forced cells as the released guide's own fill.sh prints them over the translation 0eef3b0259c0ff12… (all of the seat's roots in one cut). By AI agents, Wed Nov 11 2026. No macro, syntax, notation, axiom, sorry.
-/
import Derived.Test.YbulkbpqoChecked
import GoSem.Claim
import GoSem.ClaimJoined
import GoSem.ClaimMapViews
import Derived.JoinedTies
import Derived.KernelRfl
namespace Go.Proofs.Ybulkbpqo
/- THE CELL 'sum', in the pinned program and in every row, IS THE sha256 OF THE DUMP (.gsa) THAT YbulkbpqoProg.lean LOADS. Nothing in Lean hashes anything: it is a label: what it is worth is what the hold of that sum in a sandbox is worth. -/
noncomputable def Yba.pinned : Pinned := { name := "ybulkbpqo", sum := "0eef3b0259c0ff12b84db71176fa68d1092bbe168488840c807df3b732cdd920", checked := Yba.checked }
namespace Rows
def none {H : Type} : Left H := { results := [], args := [] }

/-- 'place.LawS3316CNext': WHATEVER THE INPUT: true; the input reads as it did. -/
def lawS3316CNextSpec : ChangeSpec := { name := "lawS3316CNext", fn := fun _ => fun
  | [d1, d2, d3, d4, d5, d6, d7] => { results := [.lit (.bool true)], args := [d1, d2, d3, d4, d5, d6, d7] }
  | _ => none }
def lawS3316CNextRow : OpenClaim := { program := "ybulkbpqo", sum := "0eef3b0259c0ff12b84db71176fa68d1092bbe168488840c807df3b732cdd920", func := "example.com/nodeweave/nodeweave/internal/place.LawS3316CNext", spec := "lawS3316CNext", apart := false }
def LawS3316CNextSaid : Prop := lawS3316CNextRow.holds Yba.pinned (OpenSpec.ofChange lawS3316CNextSpec)

/-- ITS FALSE NEIGHBOUR: 'it returns false'. Refute it at one input. -/
def lawS3316CNextWrong : ChangeSpec := { name := "lawS3316CNext", fn := fun _ => fun
  | [d1, d2, d3, d4, d5, d6, d7] => { results := [.lit (.bool false)], args := [d1, d2, d3, d4, d5, d6, d7] }
  | _ => none }
def LawS3316CNextWrongFalsely : Prop := lawS3316CNextRow.holds Yba.pinned (OpenSpec.ofChange lawS3316CNextWrong)

/-- 'place.LawS3316CWalk': WHATEVER THE INPUT: true; the input reads as it did. -/
def lawS3316CWalkSpec : ChangeSpec := { name := "lawS3316CWalk", fn := fun _ => fun
  | [d1, d2, d3, d4] => { results := [.lit (.bool true)], args := [d1, d2, d3, d4] }
  | _ => none }
def lawS3316CWalkRow : OpenClaim := { program := "ybulkbpqo", sum := "0eef3b0259c0ff12b84db71176fa68d1092bbe168488840c807df3b732cdd920", func := "example.com/nodeweave/nodeweave/internal/place.LawS3316CWalk", spec := "lawS3316CWalk", apart := false }
def LawS3316CWalkSaid : Prop := lawS3316CWalkRow.holds Yba.pinned (OpenSpec.ofChange lawS3316CWalkSpec)

/-- ITS FALSE NEIGHBOUR: 'it returns false'. Refute it at one input. -/
def lawS3316CWalkWrong : ChangeSpec := { name := "lawS3316CWalk", fn := fun _ => fun
  | [d1, d2, d3, d4] => { results := [.lit (.bool false)], args := [d1, d2, d3, d4] }
  | _ => none }
def LawS3316CWalkWrongFalsely : Prop := lawS3316CWalkRow.holds Yba.pinned (OpenSpec.ofChange lawS3316CWalkWrong)

end Rows
end Go.Proofs.Ybulkbpqo
