/- The runs, plainly: the coordinates within them, in order; and worlds in which one old block may turn. -/
import Derived.Test.YbulkbpqoNext
namespace Go.Proofs.Ybulkbpqo
open Go.RowKit

/-- the k-th coordinate within the runs that begin at a0 (l0 of them) and at a1 -/
def at_ (a0 a1 : Int) (l0 k : Nat) : Int := if k < l0 then a0 + k else a1 + ((k - l0 : Nat) : Int)
/-- how many coordinates within the runs lie below x -/
def cnt (a0 a1 : Int) (l0 : Nat) (x : Int) : Nat := if x ≤ a0 + l0 then (x - a0).toNat else if x ≤ a1 then l0 else l0 + (x - a1).toNat

theorem cnt_in {a0 a1 x : Int} {l0 l1 : Nat} (hg : a0 + l0 ≤ a1) (h0 : a0 ≤ x) (hi : inB x a0 (a0 + l0) a1 (a1 + l1) = true) : at_ a0 a1 l0 (cnt a0 a1 l0 x) = x ∧ cnt a0 a1 l0 (x + 1) = cnt a0 a1 l0 x + 1 := by
  have hi' := of_decide_eq_true hi
  have hc : cnt a0 a1 l0 x = if x ≤ a0 + l0 then (x - a0).toNat else if x ≤ a1 then l0 else l0 + (x - a1).toNat := rfl
  have hc' : cnt a0 a1 l0 (x + 1) = if x + 1 ≤ a0 + l0 then (x + 1 - a0).toNat else if x + 1 ≤ a1 then l0 else l0 + (x + 1 - a1).toNat := rfl
  generalize cnt a0 a1 l0 x = m at *
  generalize cnt a0 a1 l0 (x + 1) = m' at *
  unfold at_
  rcases hi' with h | h
  · rw [if_pos (by omega)] at hc hc'
    rw [if_pos (by omega)]
    exact ⟨by omega, by omega⟩
  · rw [if_neg (by omega), if_neg (by omega)] at hc'
    by_cases e : x ≤ a0 + l0
    · rw [if_pos e] at hc
      rw [if_neg (by omega)]
      exact ⟨by omega, by omega⟩
    · rw [if_neg e] at hc
      by_cases e' : x ≤ a1
      · rw [if_pos e'] at hc
        rw [if_neg (by omega)]
        exact ⟨by omega, by omega⟩
      · rw [if_neg e'] at hc
        rw [if_neg (by omega)]
        exact ⟨by omega, by omega⟩
theorem cnt_out {a0 a1 x : Int} {l0 l1 : Nat} (h0 : a0 ≤ x) (hx : x < a1 + l1) (hi : inB x a0 (a0 + l0) a1 (a1 + l1) = false) : cnt a0 a1 l0 (x + 1) = cnt a0 a1 l0 x := by
  have hi' := of_decide_eq_false hi
  have h1 : a0 + l0 ≤ x := by by_cases h : a0 + l0 ≤ x; exact h; exact absurd (.inl ⟨h0, by omega⟩) hi'
  have h2 : x < a1 := by by_cases h : x < a1; exact h; exact absurd (.inr ⟨by omega, hx⟩) hi'
  unfold cnt
  rw [if_neg (by omega), if_pos (by omega)]
  by_cases e : x ≤ a0 + l0
  · rw [if_pos e]; omega
  · rw [if_neg e, if_pos (by omega)]
theorem cnt_start (a0 a1 : Int) (l0 : Nat) : cnt a0 a1 l0 a0 = 0 := by unfold cnt; rw [if_pos (by omega)]; omega
theorem cnt_end {a0 a1 : Int} {l0 l1 : Nat} (hg : a0 + l0 ≤ a1) : cnt a0 a1 l0 (a1 + l1) = l0 + l1 := by
  unfold cnt
  by_cases e : a1 + (l1 : Int) ≤ a0 + l0
  · rw [if_pos e]; omega
  · rw [if_neg e]
    by_cases e' : a1 + (l1 : Int) ≤ a1
    · rw [if_pos e']; omega
    · rw [if_neg e']; omega
theorem cnt_le {a0 a1 x : Int} {l0 l1 : Nat} (hx : x ≤ a1 + l1) : cnt a0 a1 l0 x ≤ l0 + l1 := by
  unfold cnt
  by_cases e : x ≤ a0 + l0
  · rw [if_pos e]; omega
  · rw [if_neg e]
    by_cases e' : x ≤ a1
    · rw [if_pos e']; omega
    · rw [if_neg e']; omega

theorem nxt_go {a0 a1 : Int} {l0 l1 s : Nat} (hg : a0 + l0 ≤ a1) (hs : s + 1 < l0 + l1) : nxt (at_ a0 a1 l0 s) a0 (a0 + l0) a1 (a1 + l1) = (at_ a0 a1 l0 (s + 1), true) := by
  unfold nxt at_
  by_cases h : s < l0
  · rw [if_pos h]
    by_cases e : s + 1 = l0
    · rw [if_pos (by omega), if_pos (by omega), if_neg (by omega), show s + 1 - l0 = 0 by omega]
      simp
    · rw [if_neg (by omega), if_pos (by omega), if_pos (by omega)]
      simp
      omega
  · rw [if_neg h, if_neg (by omega), if_pos (by omega), if_neg (by omega)]
    simp
    omega
theorem nxt_stop {a0 a1 : Int} {l0 l1 s : Nat} (hg : a0 + l0 ≤ a1) (hs : s + 1 = l0 + l1) : nxt (at_ a0 a1 l0 s) a0 (a0 + l0) a1 (a1 + l1) = (a0, false) := by
  unfold nxt at_
  by_cases h : s < l0
  · rw [if_pos h, if_pos (by omega), if_neg (by omega)]
  · rw [if_neg h, if_neg (by omega), if_neg (by omega)]

/-- the first m coordinates -/
def firsts (a0 a1 : Int) (l0 m : Nat) : List Int := (List.range m).map (at_ a0 a1 l0)
theorem firsts_succ (a0 a1 : Int) (l0 m : Nat) : firsts a0 a1 l0 (m + 1) = firsts a0 a1 l0 m ++ [at_ a0 a1 l0 m] := by simp [firsts, List.range_succ]
theorem firsts_length (a0 a1 : Int) (l0 m : Nat) : (firsts a0 a1 l0 m).length = m := by simp [firsts]

/-! ### worlds in which, below 'base', one block alone may have turned -/
structure Kept (B base : Nat) (A W : World) : Prop where
  os : W.os = A.os
  tape : W.tape = A.tape
  output : W.output = A.output
  size : A.heap.size ≤ W.heap.size
  block : ∀ k, k < base → k ≠ B → W.heap[k]? = A.heap[k]?
theorem Kept.refl (B base : Nat) (A : World) : Kept B base A A := ⟨rfl, rfl, rfl, Nat.le_refl _, fun _ _ _ => rfl⟩
theorem Kept.trans {B base : Nat} {A W X : World} (h : Kept B base A W) (k : Kept B base W X) : Kept B base A X :=
  ⟨k.os.trans h.os, k.tape.trans h.tape, k.output.trans h.output, Nat.le_trans h.size k.size, fun i hi hb => (k.block i hi hb).trans (h.block i hi hb)⟩
theorem Kept.of_below {B base : Nat} {A W : World} (h : Below base A W) : Kept B base A W := ⟨h.os, h.tape, h.output, h.size, fun k hk _ => h.block k hk⟩
theorem Kept.setCell {B base : Nat} {A W : World} (h : Kept B base A W) (o : Nat) (u : Value) : Kept B base A (W.setCell ⟨B, o, none⟩ u) :=
  h.trans ⟨rfl, rfl, rfl, by simp [World.setCell], fun _ _ hb => Below.heap_setCell _ _ _ _ hb⟩
theorem Kept.drewN {B base : Nat} {A W : World} (h : Kept B base A W) (q : Nat) : Kept B base A (W.drewN q) := h.trans ⟨rfl, rfl, rfl, Nat.le_refl _, fun _ _ _ => rfl⟩
theorem Kept.cell {B base : Nat} {A W : World} (h : Kept B base A W) {p : Addr} (hp : p.block < base) (hb : p.block ≠ B) : W.cell? p = A.cell? p := World.cell?_of_block (h.block p.block hp hb)
theorem Kept.below {B base n : Nat} {w A W : World} (h : Kept B base A W) (hb : Below n w A) (hB : n ≤ B) (hn : n ≤ base) : Below n w W :=
  ⟨h.os.trans hb.os, h.tape.trans hb.tape, h.output.trans hb.output, Nat.le_trans hb.size h.size, fun k hk => (h.block k (Nat.lt_of_lt_of_le hk hn) (by omega)).trans (hb.block k hk)⟩
end Go.Proofs.Ybulkbpqo
