/- The entry-wise maximum of two clocks, and when it is the second one. Plain. -/
import Derived.Test.YbulkbpqaPlainC
namespace Go.Proofs.Ybulkbpqa.Cl

/-- the merge, with fuel -/
def mxF : Nat → List (Int × Int) → List (Int × Int) → List (Int × Int)
  | 0, xs, ys => xs ++ ys
  | _ + 1, [], ys => ys
  | _ + 1, x :: xs, [] => x :: xs
  | f + 1, x :: xs, y :: ys =>
    if x.1 = y.1 then (x.1, max x.2 y.2) :: mxF f xs ys
    else if x.1 < y.1 then x :: mxF f xs (y :: ys)
    else y :: mxF f (x :: xs) ys
def mx (c d : List (Int × Int)) : List (Int × Int) := mxF (c.length + d.length) c d

theorem mxF_nil (f : Nat) (ys : List (Int × Int)) : mxF f [] ys = ys := by cases f <;> rfl
theorem mxF_nil' (f : Nat) (xs : List (Int × Int)) : mxF f xs [] = xs := by
  cases f with
  | zero => simp [mxF]
  | succ f => cases xs <;> rfl
theorem mxF_length (f : Nat) (xs ys : List (Int × Int)) : (mxF f xs ys).length ≤ xs.length + ys.length := by
  induction f generalizing xs ys with
  | zero => simp [mxF]
  | succ f ih =>
    cases xs with
    | nil => simp [mxF]
    | cons x xs =>
      cases ys with
      | nil => simp [mxF]
      | cons y ys =>
        simp only [mxF]
        split
        · have := ih xs ys; simp; omega
        · split
          · have := ih xs (y :: ys); simp at this ⊢; omega
          · have := ih (x :: xs) ys; simp at this ⊢; omega

theorem drop_get (c : List (Int × Int)) (i : Nat) (h : i < c.length) : c.drop i = c.getD i (0, 0) :: c.drop (i + 1) := by
  rw [List.drop_eq_getElem_cons h]
  simp [h]

/-- the loop's relation: what has been written, and what is still to come -/
def MxAt (c d : List (Int × Int)) (i j : Nat) (out : List (Int × Int)) : Prop := ∃ f, (c.length - i) + (d.length - j) ≤ f ∧ out ++ mxF f (c.drop i) (d.drop j) = mx c d
theorem MxAt.start (c d : List (Int × Int)) : MxAt c d 0 0 [] := ⟨c.length + d.length, by omega, by simp [mx]⟩
theorem MxAt.both {c d out : List (Int × Int)} {i j : Nat} {x y : Int × Int} (h : MxAt c d i j out) (hi : i < c.length) (hj : j < d.length) (hx : c.getD i (0, 0) = x) (hy : d.getD j (0, 0) = y) (he : x.1 = y.1) : MxAt c d (i + 1) (j + 1) (out ++ [(x.1, max x.2 y.2)]) := by
  obtain ⟨f, hf, h⟩ := h
  cases f with
  | zero => omega
  | succ f =>
    rw [drop_get c i hi, drop_get d j hj, hx, hy] at h
    simp only [mxF, if_pos he] at h
    exact ⟨f, by omega, by rw [← h]; simp⟩
theorem MxAt.left {c d out : List (Int × Int)} {i j : Nat} {x y : Int × Int} (h : MxAt c d i j out) (hi : i < c.length) (hj : j < d.length) (hx : c.getD i (0, 0) = x) (hy : d.getD j (0, 0) = y) (he : x.1 < y.1) : MxAt c d (i + 1) j (out ++ [x]) := by
  obtain ⟨f, hf, h⟩ := h
  cases f with
  | zero => omega
  | succ f =>
    have hd := drop_get d j hj
    rw [drop_get c i hi, hd, hx, hy] at h
    simp only [mxF, if_neg (show ¬ x.1 = y.1 by omega), if_pos he] at h
    exact ⟨f, by omega, by rw [← h, hd, hy]; simp⟩
theorem MxAt.right {c d out : List (Int × Int)} {i j : Nat} {x y : Int × Int} (h : MxAt c d i j out) (hi : i < c.length) (hj : j < d.length) (hx : c.getD i (0, 0) = x) (hy : d.getD j (0, 0) = y) (he : ¬ x.1 = y.1) (he' : ¬ x.1 < y.1) : MxAt c d i (j + 1) (out ++ [y]) := by
  obtain ⟨f, hf, h⟩ := h
  cases f with
  | zero => omega
  | succ f =>
    have hc := drop_get c i hi
    rw [hc, drop_get d j hj, hx, hy] at h
    simp only [mxF, if_neg he, if_neg he'] at h
    exact ⟨f, by omega, by rw [← h, hc, hx]; simp⟩
theorem MxAt.over {c d out : List (Int × Int)} {i j : Nat} (h : MxAt c d i j out) (hend : ¬ (i < c.length ∧ j < d.length)) : out ++ (c.drop i ++ d.drop j) = mx c d := by
  obtain ⟨f, hf, h⟩ := h
  rw [← h]
  by_cases hi : i < c.length
  · have : d.drop j = [] := List.drop_eq_nil_of_le (by omega)
    rw [this, mxF_nil', List.append_nil]
  · have : c.drop i = [] := List.drop_eq_nil_of_le (by omega)
    rw [this, mxF_nil, List.nil_append]
theorem MxAt.length_le {c d out : List (Int × Int)} {i j : Nat} (h : MxAt c d i j out) : out.length ≤ c.length + d.length := by
  obtain ⟨f, hf, h⟩ := h
  have h1 : (mx c d).length ≤ c.length + d.length := mxF_length _ _ _
  rw [← h, List.length_append] at h1
  omega

/-! ### when the maximum is d -/
theorem rise_cons_lt {d : List (Int × Int)} {y z : Int × Int} (h : y.1 < z.1) : rise (y :: d) z = rise d z := by
  have : (y.1 == z.1) = false := beq_eq_false_iff_ne.2 (by omega)
  simp [rise, this]
theorem rise_above {d : List (Int × Int)} {x : Int × Int} (h : ∀ y ∈ d, x.1 < y.1) : rise d x = true := by
  have : d.find? (fun y => y.1 == x.1) = none := by
    rw [List.find?_eq_none]
    intro y hy
    have := h y hy
    simp only [beq_iff_eq]
    omega
  simp [rise, this]
theorem mxF_eq {f : Nat} {c d : List (Int × Int)} (hc : Up c) (hd : Up d) (hf : c.length + d.length ≤ f) : mxF f c d = d ↔ ∀ x ∈ c, rise d x = false := by
  induction f generalizing c d with
  | zero =>
    have h1 : c = [] := List.length_eq_zero_iff.1 (by omega)
    have h2 : d = [] := List.length_eq_zero_iff.1 (by omega)
    subst h1 h2
    simp [mxF]
  | succ f ih =>
    cases c with
    | nil => simp [mxF]
    | cons x c =>
      cases d with
      | nil =>
        constructor
        · intro h; simp [mxF] at h
        · intro h
          have := h x (List.mem_cons_self ..)
          simp [rise] at this
      | cons y d =>
        have hc' := List.pairwise_cons.1 hc
        have hd' := List.pairwise_cons.1 hd
        simp only [List.length_cons] at hf
        simp only [mxF]
        by_cases he : x.1 = y.1
        · rw [if_pos he]
          have ih' := ih (c := c) (d := d) hc'.2 hd'.2 (by omega)
          have hx : rise (y :: d) x = decide (y.2 < x.2) := by
            have : (y.1 == x.1) = true := beq_iff_eq.2 he.symm
            simp [rise, this]
          have hz : ∀ z ∈ c, rise (y :: d) z = rise d z := fun z hz => rise_cons_lt (by have := hc'.1 z hz; omega)
          constructor
          · intro h
            obtain ⟨h1, h2⟩ := List.cons.inj h
            have h3 : max x.2 y.2 = y.2 := congrArg Prod.snd h1
            intro z hzm
            rcases List.mem_cons.1 hzm with rfl | hzm
            · rw [hx]; simp; omega
            · rw [hz z hzm]; exact ih'.1 h2 z hzm
          · intro h
            have h1 := h x (List.mem_cons_self ..)
            rw [hx] at h1
            simp at h1
            rw [ih'.2 (fun z hzm => by rw [← hz z hzm]; exact h z (List.mem_cons_of_mem _ hzm))]
            have h4 : max x.2 y.2 = y.2 := by omega
            rw [h4, he]
        · rw [if_neg he]
          by_cases hl : x.1 < y.1
          · rw [if_pos hl]
            constructor
            · intro h
              exact absurd (congrArg Prod.fst (List.cons.inj h).1) he
            · intro h
              have h1 := h x (List.mem_cons_self ..)
              rw [rise_above (fun z hz => by
                rcases List.mem_cons.1 hz with rfl | hz
                · exact hl
                · have := hd'.1 z hz; omega)] at h1
              exact absurd h1 (by simp)
          · rw [if_neg hl]
            have ih' := ih (c := x :: c) (d := d) hc hd'.2 (by simp; omega)
            have hz : ∀ z ∈ x :: c, rise (y :: d) z = rise d z := fun z hz => rise_cons_lt (by
              rcases List.mem_cons.1 hz with rfl | hz
              · omega
              · have := hc'.1 z hz; omega)
            constructor
            · intro h z hzm
              rw [hz z hzm]
              exact ih'.1 (List.cons.inj h).2 z hzm
            · intro h
              rw [ih'.2 (fun z hzm => by rw [← hz z hzm]; exact h z hzm)]
theorem mx_eq {c d : List (Int × Int)} (hc : Up c) (hd : Up d) : mx c d = d ↔ ∀ x ∈ c, rise d x = false := mxF_eq hc hd (Nat.le_refl _)

end Go.Proofs.Ybulkbpqa.Cl
