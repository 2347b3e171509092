/- 'rise' by the two indices that the program keeps. Plain. -/
import Derived.Test.YbulkbpqaPlainC
namespace Go.Proofs.Ybulkbpqa.Cl

theorem up_get {c : List (Int × Int)} (h : Up c) {i m : Nat} (him : i < m) (hm : m < c.length) : (c.getD i (0, 0)).1 < (c.getD m (0, 0)).1 := by
  have := List.pairwise_iff_getElem.1 h i m (by omega) hm him
  simpa [hm, show i < c.length by omega] using this

/-- the search for a host in a sorted clock, entered at j, all before j lying lower -/
theorem find_at {d : List (Int × Int)} {x : Int × Int} {j : Nat} (hu : Up d) (hj : j ≤ d.length) (hlow : ∀ k, k < j → (d.getD k (0, 0)).1 < x.1) (hend : j = d.length ∨ x.1 ≤ (d.getD j (0, 0)).1) :
    d.find? (fun y => y.1 == x.1) = if j < d.length ∧ (d.getD j (0, 0)).1 = x.1 then some (d.getD j (0, 0)) else none := by
  by_cases hc : j < d.length ∧ (d.getD j (0, 0)).1 = x.1
  · rw [if_pos hc]
    rw [List.find?_eq_some_iff_getElem]
    refine ⟨beq_iff_eq.2 hc.2, j, hc.1, by simp [hc.1], fun k hk => ?_⟩
    have := hlow k hk
    simp only [List.getD_eq_getElem?_getD, List.getElem?_eq_getElem (show k < d.length by omega), Option.getD_some] at this
    simp
    omega
  · rw [if_neg hc, List.find?_eq_none]
    intro y hy
    obtain ⟨k, hk, rfl⟩ := List.mem_iff_getElem.1 hy
    have hg : (d.getD k (0, 0)).1 = d[k].1 := by simp [hk]
    simp only [beq_iff_eq]
    intro he
    by_cases h1 : k < j
    · have := hlow k h1; omega
    · by_cases h2 : k = j
      · subst h2; exact hc ⟨hk, by omega⟩
      · have := up_get hu (show j < k by omega) hk
        rcases hend with h3 | h3 <;> omega

theorem rise_at {d : List (Int × Int)} {x : Int × Int} {j : Nat} (hu : Up d) (hj : j ≤ d.length) (hlow : ∀ k, k < j → (d.getD k (0, 0)).1 < x.1) (hend : j = d.length ∨ x.1 ≤ (d.getD j (0, 0)).1) :
    rise d x = true ↔ (j = d.length ∨ (d.getD j (0, 0)).1 ≠ x.1 ∨ (d.getD j (0, 0)).2 < x.2) := by
  unfold rise
  rw [find_at hu hj hlow hend]
  by_cases hc : j < d.length ∧ (d.getD j (0, 0)).1 = x.1
  · rw [if_pos hc]
    simp only [decide_eq_true_eq]
    constructor
    · intro h; exact .inr (.inr h)
    · rintro (h | h | h)
      · omega
      · exact absurd hc.2 h
      · exact h
  · rw [if_neg hc]
    simp only [true_iff]
    by_cases h : j = d.length
    · exact .inl h
    · exact .inr (.inl fun e => hc ⟨by omega, e⟩)

/-- the entries of the first k that rise -/
def rs (c d : List (Int × Int)) (k : Nat) : List (Int × Int) := (c.take k).filter (rise d)
theorem rs_yes {c d : List (Int × Int)} {k : Nat} (hk : k < c.length) (h : rise d (c.getD k (0, 0)) = true) : rs c d (k + 1) = rs c d k ++ [c.getD k (0, 0)] := by
  unfold rs; rw [take_snoc c k hk, List.filter_append]; simp only [List.filter_cons, h, if_true, List.filter_nil]
theorem rs_no {c d : List (Int × Int)} {k : Nat} (hk : k < c.length) (h : ¬ rise d (c.getD k (0, 0)) = true) : rs c d (k + 1) = rs c d k := by
  unfold rs; rw [take_snoc c k hk, List.filter_append]; simp only [List.filter_cons, h, List.filter_nil]; simp
theorem rs_length (c d : List (Int × Int)) (k : Nat) : (rs c d k).length ≤ k := by
  unfold rs; exact Nat.le_trans (List.length_filter_le _ _) (List.length_take_le _ _)
theorem rs_all (c d : List (Int × Int)) : rs c d c.length = c.filter (rise d) := by unfold rs; rw [List.take_of_length_le (Nat.le_refl _)]
theorem rs_prefix (c d : List (Int × Int)) (k : Nat) : rs c d k <+: c.filter (rise d) := by
  unfold rs; exact (List.take_prefix k c).filter _

end Go.Proofs.Ybulkbpqa.Cl
