/- The plain mathematics of the clocks: what 'zzs3315cbuild' builds; no Go in sight but the cells' values. -/
import Derived.WalkKit
namespace Go.Proofs.Ybulkbpqa.Cl

/-- the count of a raw entry -/
def nn (pos : Bool) (n : Int) : Int := if pos then 1 + n % 8 else n
/-- the clock that is built of raw entries, the host before it being h -/
def bld (pos : Bool) : Int → List (Int × Int) → List (Int × Int)
  | _, [] => []
  | h, x :: xs => (h + (1 + x.1 % 3), nn pos x.2) :: bld pos (h + (1 + x.1 % 3)) xs
/-- the last host -/
def hst : Int → List (Int × Int) → Int
  | h, [] => h
  | h, x :: xs => hst (h + (1 + x.1 % 3)) xs

theorem hst_snoc (h : Int) (xs : List (Int × Int)) (x : Int × Int) : hst h (xs ++ [x]) = hst h xs + (1 + x.1 % 3) := by
  induction xs generalizing h with
  | nil => simp [hst]
  | cons y ys ih => simp [hst, ih]
theorem bld_snoc (pos : Bool) (h : Int) (xs : List (Int × Int)) (x : Int × Int) : bld pos h (xs ++ [x]) = bld pos h xs ++ [(hst h xs + (1 + x.1 % 3), nn pos x.2)] := by
  induction xs generalizing h with
  | nil => simp [hst, bld]
  | cons y ys ih => simp [hst, bld, ih]
theorem bld_length (pos : Bool) (h : Int) (xs : List (Int × Int)) : (bld pos h xs).length = xs.length := by
  induction xs generalizing h with
  | nil => rfl
  | cons y ys ih => simp [bld, ih]
theorem hst_le (h : Int) (xs : List (Int × Int)) : h + xs.length ≤ hst h xs ∧ hst h xs ≤ h + 3 * xs.length := by
  induction xs generalizing h with
  | nil => simp [hst]
  | cons y ys ih =>
    have := ih (h + (1 + y.1 % 3))
    simp only [hst, List.length_cons]
    omega
/-- every host of the clock lies above the host before it -/
theorem bld_above (pos : Bool) (h : Int) (xs : List (Int × Int)) : ∀ e ∈ bld pos h xs, h < e.1 := by
  induction xs generalizing h with
  | nil => simp [bld]
  | cons y ys ih =>
    intro e he
    simp only [bld, List.mem_cons] at he
    rcases he with rfl | he
    · show h < h + (1 + y.1 % 3)
      omega
    · have := ih _ e he
      omega
/-- strictly increasing hosts -/
def Up (cs : List (Int × Int)) : Prop := cs.Pairwise fun a b => a.1 < b.1
theorem bld_up (pos : Bool) (h : Int) (xs : List (Int × Int)) : Up (bld pos h xs) := by
  induction xs generalizing h with
  | nil => exact List.Pairwise.nil
  | cons y ys ih => exact List.Pairwise.cons (fun e he => bld_above pos _ ys e he) (ih _)
theorem bld_pos (h : Int) (xs : List (Int × Int)) : ∀ e ∈ bld true h xs, 1 ≤ e.2 := by
  induction xs generalizing h with
  | nil => simp [bld]
  | cons y ys ih =>
    intro e he
    simp only [bld, List.mem_cons] at he
    rcases he with rfl | he
    · simp only [nn, if_true]
      omega
    · exact ih _ e he

/-- the cells of a clock -/
def flat : List (Int × Int) → List Value
  | [] => []
  | e :: es => .int .i64 e.1 :: .int .i64 e.2 :: flat es
theorem flat_append (a b : List (Int × Int)) : flat (a ++ b) = flat a ++ flat b := by
  induction a with
  | nil => rfl
  | cons e es ih => simp [flat, ih]
theorem flat_length (a : List (Int × Int)) : (flat a).length = a.length * 2 := by
  induction a with
  | nil => rfl
  | cons e es ih => simp [flat, ih]; omega
theorem flat_even (a : List (Int × Int)) (i : Nat) (h : i < a.length) : (flat a)[i * 2]? = some (.int .i64 (a.getD i (0, 0)).1) := by
  induction a generalizing i with
  | nil => simp at h
  | cons e es ih =>
    cases i with
    | zero => rfl
    | succ i =>
      rw [show (i + 1) * 2 = i * 2 + 1 + 1 from by omega]
      simpa [flat] using ih i (by simpa using h)
theorem flat_odd (a : List (Int × Int)) (i : Nat) (h : i < a.length) : (flat a)[i * 2 + 1]? = some (.int .i64 (a.getD i (0, 0)).2) := by
  induction a generalizing i with
  | nil => simp at h
  | cons e es ih =>
    cases i with
    | zero => rfl
    | succ i =>
      rw [show (i + 1) * 2 + 1 = i * 2 + 1 + 1 + 1 from by omega]
      simpa [flat] using ih i (by simpa using h)
theorem flat_one (a : List (Int × Int)) : ∀ u ∈ flat a, u.oneCell' = true := by
  induction a with
  | nil => simp [flat]
  | cons e es ih =>
    intro u hu
    simp only [flat, List.mem_cons] at hu
    rcases hu with rfl | rfl | hu
    · rfl
    · rfl
    · exact ih u hu
theorem take_snoc (xs : List (Int × Int)) (k : Nat) (h : k < xs.length) : xs.take (k + 1) = xs.take k ++ [xs.getD k (0, 0)] := by
  rw [List.take_succ_eq_append_getElem h]
  simp [h]

/-! ### what rises over d -/
/-- does the entry x rise over d? -/
def rise (d : List (Int × Int)) (x : Int × Int) : Bool :=
  match d.find? (fun y => y.1 == x.1) with
  | none => true
  | some y => decide (y.2 < x.2)

end Go.Proofs.Ybulkbpqa.Cl
