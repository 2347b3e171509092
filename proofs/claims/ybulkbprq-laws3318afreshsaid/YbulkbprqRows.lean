/-
  No cell of these rows narrows 'for every input' (looked for: loops, veiled, ifaces, maps, wideKeys, modest, calm, conditions, laid).
  DERIVED. THE GIVEN ROWS OF THIS SEAT. 2 by the template 'for every input the law returns true; each argument reads behind the call as it read before'; 0 by the template 'total and deterministic' (their statements: YbulkbprqTotals.lean).
  GIVEN WITH THE SEED: the statements are not yours to turn. If you find one false, say at which input.
  Laid BY PROGRAM, IN A SANDBOX (cutbox-rows.mjs): the forced cells as the released guide's own fill.sh prints them over the translation c135c221d49a72b0… (all of the seat's roots in one cut). By AI agents, Wed Nov 11 2026. No macro, syntax, notation, axiom, sorry.
-/
import Derived.Test.YbulkbprqChecked
import GoSem.Claim
import GoSem.ClaimJoined
import GoSem.ClaimMapViews
import Derived.JoinedTies
import Derived.KernelRfl
namespace Go.Proofs.Ybulkbprq
/- THE CELL 'sum', in the pinned program and in every row, IS THE sha256 OF THE DUMP (.gsa) THAT YbulkbprqProg.lean LOADS. Nothing in Lean hashes anything: it is a label: what it is worth is what the hold of that sum in a sandbox is worth. -/
noncomputable def Yba.pinned : Pinned := { name := "ybulkbprq", sum := "c135c221d49a72b00268f0b85ef9768ab8efcf479902f87db0cc2dee6941c474", checked := Yba.checked }
namespace Rows
def none {H : Type} : Left H := { results := [], args := [] }

/-- 'group.LawS3318ATokens': WHATEVER THE INPUT: true; the input reads as it did. -/
def lawS3318ATokensSpec : ChangeSpec := { name := "lawS3318ATokens", fn := fun _ => fun
  | [d1, d2, d3] => { results := [.lit (.bool true)], args := [d1, d2, d3] }
  | _ => none }
def lawS3318ATokensRow : OpenClaim := { program := "ybulkbprq", sum := "c135c221d49a72b00268f0b85ef9768ab8efcf479902f87db0cc2dee6941c474", func := "example.com/vorher/vorher/group.LawS3318ATokens", spec := "lawS3318ATokens", apart := false }
def LawS3318ATokensSaid : Prop := lawS3318ATokensRow.holds Yba.pinned (OpenSpec.ofChange lawS3318ATokensSpec)

/-- ITS FALSE NEIGHBOUR: 'it returns false'. Refute it at one input. -/
def lawS3318ATokensWrong : ChangeSpec := { name := "lawS3318ATokens", fn := fun _ => fun
  | [d1, d2, d3] => { results := [.lit (.bool false)], args := [d1, d2, d3] }
  | _ => none }
def LawS3318ATokensWrongFalsely : Prop := lawS3318ATokensRow.holds Yba.pinned (OpenSpec.ofChange lawS3318ATokensWrong)

/-- 'group.LawS3318AFresh': WHATEVER THE INPUT: true; the input reads as it did. -/
def lawS3318AFreshSpec : ChangeSpec := { name := "lawS3318AFresh", fn := fun _ => fun
  | [d1, d2] => { results := [.lit (.bool true)], args := [d1, d2] }
  | _ => none }
def lawS3318AFreshRow : OpenClaim := { program := "ybulkbprq", sum := "c135c221d49a72b00268f0b85ef9768ab8efcf479902f87db0cc2dee6941c474", func := "example.com/vorher/vorher/group.LawS3318AFresh", spec := "lawS3318AFresh", inPlace := ["sync.NewCond"], apart := false }
def LawS3318AFreshSaid : Prop := lawS3318AFreshRow.holds Yba.pinned (OpenSpec.ofChange lawS3318AFreshSpec)

/-- ITS FALSE NEIGHBOUR: 'it returns false'. Refute it at one input. -/
def lawS3318AFreshWrong : ChangeSpec := { name := "lawS3318AFresh", fn := fun _ => fun
  | [d1, d2] => { results := [.lit (.bool false)], args := [d1, d2] }
  | _ => none }
def LawS3318AFreshWrongFalsely : Prop := lawS3318AFreshRow.holds Yba.pinned (OpenSpec.ofChange lawS3318AFreshWrong)

end Rows
end Go.Proofs.Ybulkbprq
