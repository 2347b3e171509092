/- Regions that draw their order, whose LAST operation z (bound behind every steady one) may turn what the steady ones read. On OrderA. -/
import Derived.Test.YbulkbpqaOrderA
namespace Go.Proofs.Ybulkbpqa
open Go

section
variable {P : Program} {ops : Array Oper} {md : Region.Mode} {C : World → Prop} {Q : Act → World → Prop} {z : Nat}

/-- as 'anyC', but nothing is asked of the world behind z -/
def anyZ (P : Program) (md : Region.Mode) (ops : Array Oper) (z : Nat) (C : World → Prop) (Q : Act → World → Prop) : Nat → Array Bool → Act → World → Prop
  | 0, listed, a, w => Region.ready md ops listed = [] ∧ Q a w
  | f + 1, listed, a, w => Region.ready md ops listed ≠ [] ∧ ∀ j ∈ Region.ready md ops listed, wpOp P ops Q0 j (fun a' w' => (j = z ∨ C w') ∧ anyZ P md ops z C Q f (listed.setIfInBounds j true) a' w') a w
theorem wpAny_of_anyZ {Q' : Exit → Act → World → Prop} (hQ : ∀ a w, Q a w → Q' .normal a w) : ∀ (f : Nat) (listed : Array Bool) (a : Act) (w : World), anyZ P md ops z C Q f listed a w → wpAny P md ops Q' f listed a w
  | 0, _, _, _, h => ⟨h.1, hQ _ _ h.2⟩
  | f + 1, _, _, _, h => ⟨fun e => absurd e h.1, fun j hj => wpOp_mono (fun a' w' hk => wpAny_of_anyZ hQ f _ a' w' hk.2) (wpOp_of_Q0 (h.2 j hj))⟩

theorem anyZ_first {i : Nat} {oi : Oper} {v : Value} (hi : ops[i]? = some oi) (hsel : ∀ (j : Nat) (o : Oper) cs b, ops[j]? = some o → o.op ≠ .select cs b)
    (hz : ∀ oz, ops[z]? = some oz → ∃ e ∈ oz.after, Region.binds md e = true ∧ e.on = i) :
    ∀ (f : Nat) (listed : Array Bool) (a : Act) (w : World),
      (∀ j oj, ops[j]? = some oj → j ≠ i → listed.getD j true = false → (∀ e ∈ oj.after, Region.binds md e = true → e.on ≠ i) → oi.apart ops oj = true) →
      i ∈ Region.ready md ops listed → Steady P ops C oi v a → C w →
      anyZ P md ops z C Q f (listed.setIfInBounds i true) (a.put oi.dst v) w → anyZ P md ops z C Q (f + 1) listed a w := by
  intro f
  induction f with
  | zero =>
    intro listed a w _ hr hy hw H
    refine ⟨fun e => (by rw [e] at hr; cases hr), fun j hj => ?_⟩
    by_cases hji : j = i
    · subst hji; exact hy.wpOp hi hw ⟨.inr hw, H⟩
    · have h1 := ready_mono hj hji
      rw [H.1] at h1
      cases h1
  | succ f ih =>
    intro listed a w hfree hr hy hw H
    refine ⟨fun e => (by rw [e] at hr; cases hr), fun j hj => ?_⟩
    by_cases hji : j = i
    · subst hji; exact hy.wpOp hi hw ⟨.inr hw, H⟩
    · have h1 := H.2 j (ready_mono hj hji)
      have hrun := (mem_ready.1 hr).1
      obtain ⟨hjun, oj, hoj, hall⟩ := mem_ready.1 hj
      have hnot : ∀ e ∈ oj.after, Region.binds md e = true → e.on ≠ i := fun e he hb heq => by
        have h2 := hall e he hb
        rw [heq, getD_both hrun] at h2
        cases h2
      have hjz : j ≠ z := fun e => by
        subst e
        obtain ⟨e, he, hb, ho⟩ := hz oj hoj
        exact hnot e he hb ho
      have h2 := wpOp_put hoj (hfree j oj hoj hji hjun hnot) (fun cs b => hsel i oi cs b hi) (fun cs b => hsel j oj cs b hoj) hy h1
      refine wpOp_mono (fun a' w' h3 => ?_) h2
      have hCw : C w' := h3.2.1.resolve_left hjz
      refine ⟨.inr hCw, ih (listed.setIfInBounds j true) a' w' ?_ (ready_mono hr (Ne.symm hji)) h3.1 hCw ?_⟩
      · intro k ok hk hki hun hno
        refine hfree k ok hk hki ?_ hno
        by_cases hjk : j = k
        · subst hjk; exact hjun
        · rw [getD_set_ne true hjk] at hun; exact hun
      · rw [Array.setIfInBounds_comm _ _ hji]
        exact h3.2.2

def boundB (md : Region.Mode) (ops : Array Oper) (z i : Nat) : Bool := match ops[z]? with
  | some oz => oz.after.any fun e => Region.binds md e && e.on == i
  | none => false
theorem boundB_spec {i : Nat} (h : boundB md ops z i = true) : ∀ oz, ops[z]? = some oz → ∃ e ∈ oz.after, Region.binds md e = true ∧ e.on = i := by
  intro oz hoz
  unfold boundB at h
  rw [hoz] at h
  simp only [Array.any_eq_true'] at h
  obtain ⟨e, he, h2⟩ := h
  simp at h2
  exact ⟨e, he, h2.1, h2.2⟩
/-- a word of its own, that the walk's own steps leave alone -/
structure CorZ (j z : Nat) (C : World → Prop) (w : World) : Prop where
  h : j = z ∨ C w
def seqZ (P : Program) (ops : Array Oper) (z : Nat) (C : World → Prop) (Q : Act → World → Prop) : List Nat → Act → World → Prop
  | [], a, w => Q a w
  | j :: t, a, w => wpOp P ops Q0 j (fun a' w' => CorZ j z C w' ∧ seqZ P ops z C Q t a' w') a w
theorem any_of_tailZ : ∀ (t : List Nat) (l : Array Bool) (a : Act) (w : World), tailB md ops t l = true → seqZ P ops z C Q t a w → anyZ P md ops z C Q t.length l a w
  | [], _, _, _, hB, h => ⟨by simpa [tailB] using hB, h⟩
  | j :: t, l, a, w, hB, h => by
    simp only [tailB, Bool.and_eq_true, decide_eq_true_eq] at hB
    refine ⟨by rw [hB.1]; simp, fun i hi => ?_⟩
    rw [hB.1] at hi
    obtain rfl : i = j := by simpa using hi
    exact wpOp_mono (fun a' w' h' => ⟨h'.1.h, any_of_tailZ t _ a' w' hB.2 h'.2⟩) h
theorem any_of_headZ (hsel : Region.noSelect ops = true) (b : Act) (f : Nat) : ∀ (s : List Nat) (l : Array Bool) (a : Act) (w : World), headB md ops s l = true → s.all (boundB md ops z) = true → C w → steadyAll P ops C b s a →
    anyZ P md ops z C Q f (listedBy s l) b w → anyZ P md ops z C Q (s.length + f) l a w
  | [], l, a, w, _, _, _, hs, h => by
    subst hs
    simpa [listedBy] using h
  | i :: s, l, a, w, hB, hZ, hw, hs, h => by
    simp only [headB, Bool.and_eq_true] at hB
    simp only [List.all_cons, Bool.and_eq_true] at hZ
    obtain ⟨o, v, ho, hy, hr⟩ := hs
    have h1 := any_of_headZ hsel b f s (l.setIfInBounds i true) (a.put o.dst v) w hB.2 hZ.2 hw hr h
    have := anyZ_first ho (Region.noSelect_spec hsel) (boundB_spec hZ.1) (s.length + f) l a w (Region.free_spec ho hB.1.2) (by simpa using hB.1.1) hy hw h1
    rw [List.length_cons, show s.length + 1 + f = s.length + f + 1 by omega]
    exact this
theorem region_steadyZ {id : Nat} {Q' : Exit → Act → World → Prop} {a b : Act} {w : World} (C : World → Prop) (z : Nat) (s t : List Nat) (hm : P.follows .mixedOrders = true) (hB : regionB ops s t = true) (hZ : s.all (boundB .any ops z) = true)
    (hC : C w.drew) (hs : steadyAll P ops C b s a) (ht : seqZ P ops z C (fun a w => Q' .normal a w) t b w.drew) : (Code.region id ops true).wp P Q' a w := by
  simp only [regionB, Bool.and_eq_true, decide_eq_true_eq] at hB
  refine wp_region_any hm ?_
  have h1 := any_of_tailZ (md := .any) t _ b w.drew hB.1.2 ht
  have h2 := any_of_headZ hB.1.1.1 b _ s _ a w.drew hB.1.1.2 hZ hC hs h1
  rw [hB.2] at h2
  exact wpAny_of_anyZ (fun _ _ h => h) _ _ _ _ h2
/-- the first n steady, then the chain t, whose last is z -/
theorem region_takeZ {l : List Oper} {id : Nat} {Q' : Exit → Act → World → Prop} {a b : Act} {w : World} (C : World → Prop) (n z : Nat) (t : List Nat) (hm : P.follows .mixedOrders = true) (hB : regionB l.toArray (List.range n) t = true) (hZ : (List.range n).all (boundB .any l.toArray z) = true)
    (hl : ((List.range n).map fun i => l.toArray[i]?) = (l.take n).map some) (hd : dstB a.tmps.size (l.take n) = true) (hC : C w.drew)
    (hs : ∀ wx, C wx → wpStill P l.toArray wx (fun a' => a' = b) (l.take n) a) (ht : seqZ P l.toArray z C (fun a w => Q' .normal a w) t b w.drew) : (Code.region id l.toArray true).wp P Q' a w :=
  region_steadyZ C z (List.range n) t hm hB hZ hC (steadyAll_of hC _ _ _ hl hd hs) ht
theorem wpOp_of_list {j : Nat} {o : Oper} {a : Act} {w : World} {K : Act → World → Prop} (ho : ops[j]? = some o) (h : wpList P ops (fun e a' w' => e = .normal ∧ K a' w') [o] a w) : wpOp P ops Q0 j K a w := by
  unfold wpOp
  simp only [ho]
  simp only [wpList] at h
  split
  · rename_i hw
    rw [if_pos hw] at h
    rcases h with h | ⟨_, _, _, h⟩
    · left
      unfold Oper.wp at *
      generalize (execOp a.eval o).run P w = r at *
      cases r with
      | ok n w' =>
        cases n <;> simp only [Oper.upon] at h ⊢
        case enter f args =>
          refine h.mono fun e w'' he => ?_
          cases e with
          | returned v => exact he.2
          | panicked c => exact absurd he.1 (by simp)
          | outgrown => obtain ⟨_, _, h'⟩ := he; exact absurd h'.1 (by simp)
        case row f args => exact Rows.mono h fun v w'' he => he.2
        all_goals first | exact h.2 | exact h
      | halt x w' => cases x <;> simp only [Oper.upon] at h ⊢ <;> first | exact absurd h.1 (by simp) | exact h
    · exact absurd h.1 (by simp)
  · rename_i hw
    rw [if_neg hw] at h
    exact h.2
theorem seq_dropZ {l r : List Oper} {j : Nat} {t : List Nat} {o : Oper} {a : Act} {w : World} (hd : l.drop j = o :: r) (h : wpList P l.toArray (fun e a' w' => e = .normal ∧ CorZ j z C w' ∧ seqZ P l.toArray z C Q t a' w') [o] a w) : seqZ P l.toArray z C Q (j :: t) a w := by
  have h1 : (l.drop j)[0]? = some o := by rw [hd]; rfl
  rw [List.getElem?_drop] at h1
  exact wpOp_of_list (o := o) (by simpa using h1) h
end
end Go.Proofs.Ybulkbpqa
