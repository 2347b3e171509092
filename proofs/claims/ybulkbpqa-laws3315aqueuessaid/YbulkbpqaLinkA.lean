/- The links and the queues of the sorted receipts, plainly. -/
import Derived.Test.YbulkbpqaRowA
namespace Go.Proofs.Ybulkbpqa
open Go.RowKit
set_option linter.unusedVariables false

/-- receipt k goes on the run of receipt k - 1 -/
def sameA (s : Nat → Aw) (k : Nat) : Bool := decide (0 < k ∧ (s (k - 1)).rcv = (s k).rcv ∧ (s (k - 1)).snd = (s k).snd)
/-- the first receipts of the runs of receiver r among the first k -/
def headsA (s : Nat → Aw) (k : Nat) (r : Int) : List Nat := (List.range k).filter fun j => decide ((s j).rcv = r) && !sameA s j
def queA (s : Nat → Aw) (j : Nat) : Int := ((headsA s (j + 1) (s j).rcv).length : Int) - 1
def prevA (s : Nat → Aw) (j : Nat) : Int := if sameA s j = true then (j : Int) - 1 else -1
/-- behind k rounds of the loop -/
def nextA (s : Nat → Aw) (k j : Nat) : Int := if j + 1 < k then (if sameA s (j + 1) = true then (j : Int) + 1 else -1) else (j : Int) + 1
def FA (s : Nat → Aw) (k j : Nat) : Aw := if j < k then { s j with que := queA s j, prev := prevA s j, next := nextA s k j } else s j

theorem headsA_succ (s : Nat → Aw) (k : Nat) (r : Int) : headsA s (k + 1) r = headsA s k r ++ (if (s k).rcv = r ∧ sameA s k = false then [k] else []) := by
  unfold headsA
  rw [List.range_succ, List.filter_append]
  congr 1
  by_cases h1 : (s k).rcv = r
  · cases h2 : sameA s k <;> simp [h1, h2]
  · simp [h1]
theorem headsA_length_le (s : Nat → Aw) (k : Nat) (r : Int) : (headsA s k r).length ≤ k := by
  unfold headsA
  exact Nat.le_trans (List.length_filter_le _ _) (by simp)
theorem FA_zero (s : Nat → Aw) (j : Nat) : FA s 0 j = s j := by unfold FA; rw [if_neg (by omega)]
theorem FA_ge (s : Nat → Aw) {k j : Nat} (h : k ≤ j) : FA s k j = s j := by unfold FA; rw [if_neg (by omega)]
end Go.Proofs.Ybulkbpqa
