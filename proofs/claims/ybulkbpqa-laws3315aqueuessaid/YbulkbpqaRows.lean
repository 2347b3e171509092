/-
  No cell of these rows narrows 'for every input' (looked for: loops, veiled, ifaces, maps, wideKeys, modest, calm, conditions, laid).
  DERIVED. THE GIVEN ROWS OF THIS SEAT. 4 by the template 'for every input the law returns true; each argument reads behind the call as it read before'; 0 by the template 'total and deterministic' (their statements: YbulkbpqaTotals.lean).
  GIVEN WITH THE SEED: the statements are not yours to turn. If you find one false, say at which input.
  Laid BY PROGRAM, IN A SANDBOX (cutbox-rows.mjs): the forced cells as the released guide's own fill.sh prints them over the translation 318f0be1a2c2e343… (all of the seat's roots in one cut). By AI agents, Wed Nov 11 2026. No macro, syntax, notation, axiom, sorry.
-/
import Derived.Test.YbulkbpqaChecked
import GoSem.Claim
import GoSem.ClaimJoined
import GoSem.ClaimMapViews
import Derived.JoinedTies
import Derived.KernelRfl
namespace Go.Proofs.Ybulkbpqa
/- THE CELL 'sum', in the pinned program and in every row, IS THE sha256 OF THE DUMP (.gsa) THAT YbulkbpqaProg.lean LOADS. Nothing in Lean hashes anything: it is a label: what it is worth is what the hold of that sum in a sandbox is worth. -/
noncomputable def Yba.pinned : Pinned := { name := "ybulkbpqa", sum := "318f0be1a2c2e343d4fa289a653d54e58a81d4421b9dcc59234da434b1e1978c", checked := Yba.checked }
namespace Rows
def none {H : Type} : Left H := { results := [], args := [] }

/-- 'antecede.LawS3315AReceipts': WHATEVER THE INPUT: true; the input reads as it did. -/
def lawS3315AReceiptsSpec : ChangeSpec := { name := "lawS3315AReceipts", fn := fun _ => fun
  | [d1, d2] => { results := [.lit (.bool true)], args := [d1, d2] }
  | _ => none }
def lawS3315AReceiptsRow : OpenClaim := { program := "ybulkbpqa", sum := "318f0be1a2c2e343d4fa289a653d54e58a81d4421b9dcc59234da434b1e1978c", func := "example.com/antecede/antecede.LawS3315AReceipts", spec := "lawS3315AReceipts", unfollowed := true, recurses := true, apart := false }
def LawS3315AReceiptsSaid : Prop := lawS3315AReceiptsRow.holds Yba.pinned (OpenSpec.ofChange lawS3315AReceiptsSpec)

/-- ITS FALSE NEIGHBOUR: 'it returns false'. Refute it at one input. -/
def lawS3315AReceiptsWrong : ChangeSpec := { name := "lawS3315AReceipts", fn := fun _ => fun
  | [d1, d2] => { results := [.lit (.bool false)], args := [d1, d2] }
  | _ => none }
def LawS3315AReceiptsWrongFalsely : Prop := lawS3315AReceiptsRow.holds Yba.pinned (OpenSpec.ofChange lawS3315AReceiptsWrong)

/-- 'antecede.LawS3315AQueues': WHATEVER THE INPUT: true; the input reads as it did. -/
def lawS3315AQueuesSpec : ChangeSpec := { name := "lawS3315AQueues", fn := fun _ => fun
  | [d1, d2] => { results := [.lit (.bool true)], args := [d1, d2] }
  | _ => none }
def lawS3315AQueuesRow : OpenClaim := { program := "ybulkbpqa", sum := "318f0be1a2c2e343d4fa289a653d54e58a81d4421b9dcc59234da434b1e1978c", func := "example.com/antecede/antecede.LawS3315AQueues", spec := "lawS3315AQueues", unfollowed := true, recurses := true, apart := false }
def LawS3315AQueuesSaid : Prop := lawS3315AQueuesRow.holds Yba.pinned (OpenSpec.ofChange lawS3315AQueuesSpec)

/-- ITS FALSE NEIGHBOUR: 'it returns false'. Refute it at one input. -/
def lawS3315AQueuesWrong : ChangeSpec := { name := "lawS3315AQueues", fn := fun _ => fun
  | [d1, d2] => { results := [.lit (.bool false)], args := [d1, d2] }
  | _ => none }
def LawS3315AQueuesWrongFalsely : Prop := lawS3315AQueuesRow.holds Yba.pinned (OpenSpec.ofChange lawS3315AQueuesWrong)

/-- 'antecede.LawS3315CModel': WHATEVER THE INPUT: true; the input reads as it did. -/
def lawS3315CModelSpec : ChangeSpec := { name := "lawS3315CModel", fn := fun _ => fun
  | [d1, d2] => { results := [.lit (.bool true)], args := [d1, d2] }
  | _ => none }
def lawS3315CModelRow : OpenClaim := { program := "ybulkbpqa", sum := "318f0be1a2c2e343d4fa289a653d54e58a81d4421b9dcc59234da434b1e1978c", func := "example.com/antecede/antecede.LawS3315CModel", spec := "lawS3315CModel", unfollowed := true, recurses := true, apart := false }
def LawS3315CModelSaid : Prop := lawS3315CModelRow.holds Yba.pinned (OpenSpec.ofChange lawS3315CModelSpec)

/-- ITS FALSE NEIGHBOUR: 'it returns false'. Refute it at one input. -/
def lawS3315CModelWrong : ChangeSpec := { name := "lawS3315CModel", fn := fun _ => fun
  | [d1, d2] => { results := [.lit (.bool false)], args := [d1, d2] }
  | _ => none }
def LawS3315CModelWrongFalsely : Prop := lawS3315CModelRow.holds Yba.pinned (OpenSpec.ofChange lawS3315CModelWrong)

/-- 'antecede.LawS3315CMax': WHATEVER THE INPUT: true; the input reads as it did. -/
def lawS3315CMaxSpec : ChangeSpec := { name := "lawS3315CMax", fn := fun _ => fun
  | [d1, d2] => { results := [.lit (.bool true)], args := [d1, d2] }
  | _ => none }
def lawS3315CMaxRow : OpenClaim := { program := "ybulkbpqa", sum := "318f0be1a2c2e343d4fa289a653d54e58a81d4421b9dcc59234da434b1e1978c", func := "example.com/antecede/antecede.LawS3315CMax", spec := "lawS3315CMax", unfollowed := true, recurses := true, apart := false }
def LawS3315CMaxSaid : Prop := lawS3315CMaxRow.holds Yba.pinned (OpenSpec.ofChange lawS3315CMaxSpec)

/-- ITS FALSE NEIGHBOUR: 'it returns false'. Refute it at one input. -/
def lawS3315CMaxWrong : ChangeSpec := { name := "lawS3315CMax", fn := fun _ => fun
  | [d1, d2] => { results := [.lit (.bool false)], args := [d1, d2] }
  | _ => none }
def LawS3315CMaxWrongFalsely : Prop := lawS3315CMaxRow.holds Yba.pinned (OpenSpec.ofChange lawS3315CMaxWrong)

end Rows
end Go.Proofs.Ybulkbpqa
