/- Regions that draw their order: what yields the same in every world of a class C may go first, whatever stands between. Own work over Derived/Orders and Derived/Still. -/
import Derived.StillTailTactics
namespace Go.Proofs.Ybulkbpqa
open Go

section
variable {P : Program} {ops : Array Oper} {md : Region.Mode} {C : World → Prop} {Q : Act → World → Prop}

/-- no way out but the normal one -/
def Q0 : Exit → Act → World → Prop := fun _ _ _ => False
theorem not_letsOut_Q0 : ¬ LetsOut Q0 := fun ⟨_, _, h⟩ => h

/-- every order, each world on the way in C, no exit but the normal one -/
def anyC (P : Program) (md : Region.Mode) (ops : Array Oper) (C : World → Prop) (Q : Act → World → Prop) : Nat → Array Bool → Act → World → Prop
  | 0, listed, a, w => Region.ready md ops listed = [] ∧ Q a w
  | f + 1, listed, a, w => Region.ready md ops listed ≠ [] ∧ ∀ j ∈ Region.ready md ops listed, wpOp P ops Q0 j (fun a' w' => C w' ∧ anyC P md ops C Q f (listed.setIfInBounds j true) a' w') a w

theorem oper_of_Q0 {o : Oper} {a : Act} {w : World} {K : Act → World → Prop} {Q' : Exit → Act → World → Prop} (h : o.wp P a w K Q0) : o.wp P a w K Q' := by
  unfold Oper.wp at *
  generalize (execOp a.eval o).run P w = r at *
  cases r with
  | ok n w' =>
    cases n <;> simp only [Oper.upon] at h ⊢
    case enter f args =>
      refine h.mono fun e w'' he => ?_
      cases e with
      | returned v => exact he
      | panicked c => exact he.elim
      | outgrown => exact (not_letsOut_Q0 he).elim
    all_goals exact h
  | halt x w' => cases x <;> simp only [Oper.upon] at h ⊢ <;> exact h.elim
theorem wpOp_of_Q0 {j : Nat} {a : Act} {w : World} {K : Act → World → Prop} {Q' : Exit → Act → World → Prop} (h : wpOp P ops Q0 j K a w) : wpOp P ops Q' j K a w := by
  unfold wpOp at *
  cases ho : ops[j]? with
  | none => simp only [ho] at h ⊢; exact h
  | some o =>
    simp only [ho] at h ⊢
    split
    · rename_i hw
      rw [if_pos hw] at h
      rcases h with h | h
      · exact .inl (oper_of_Q0 h)
      · exact (not_letsOut_Q0 h.2).elim
    · rename_i hw
      rw [if_neg hw] at h
      exact h
theorem wpAny_of_anyC {Q' : Exit → Act → World → Prop} (hQ : ∀ a w, Q a w → Q' .normal a w) : ∀ (f : Nat) (listed : Array Bool) (a : Act) (w : World), anyC P md ops C Q f listed a w → wpAny P md ops Q' f listed a w
  | 0, _, _, _, h => ⟨h.1, hQ _ _ h.2⟩
  | f + 1, _, _, _, h => ⟨fun e => absurd e h.1, fun j hj => wpOp_mono (fun a' w' hk => wpAny_of_anyC hQ f _ a' w' hk.2) (wpOp_of_Q0 (h.2 j hj))⟩

/-- it yields v in every world of C -/
def Steady (P : Program) (ops : Array Oper) (C : World → Prop) (o : Oper) (v : Value) (a : Act) : Prop := ∀ w, C w → YieldsAt P ops w o v a

theorem Steady.put {oi oj : Oper} {v : Value} {a : Act} (hy : Steady P ops C oi v a) (hap : oi.apart ops oj = true) (hsi : ∀ cs b, oi.op ≠ .select cs b) (u : Value) : Steady P ops C oi v (a.put oj.dst u) :=
  fun w hw => (hy w hw).of_same (execOp_put oi hsi a oj.dst u (Oper.apart_spec hap).2.2) (wanted_put oi a oj.dst u (Oper.apart_spec hap).2.2)

theorem oper_put {oi oj : Oper} {v : Value} {K : Act → World → Prop} {a : Act} {w : World} (hap : oi.apart ops oj = true)
    (hsi : ∀ cs b, oi.op ≠ .select cs b) (hsj : ∀ cs b, oj.op ≠ .select cs b) (hy : Steady P ops C oi v a) (h : oj.wp P (a.put oi.dst v) w K Q0) :
    oj.wp P a w (fun a' w' => Steady P ops C oi v a' ∧ K (a'.put oi.dst v) w') Q0 := by
  have sp := Oper.apart_spec hap
  have hc : ∀ u, (a.put oi.dst v).put oj.dst u = (a.put oj.dst u).put oi.dst v := fun u => Act.put_comm a v u sp.2.1
  unfold Oper.wp at *
  rw [execOp_put oj hsj a oi.dst v sp.1] at h
  generalize (execOp a.eval oj).run P w = r at *
  cases r with
  | ok n w' =>
    cases n <;> simp only [Oper.upon] at h ⊢
    case value u => exact ⟨hy.put hap hsi u, by rw [← hc]; exact h⟩
    case skip => exact ⟨hy.put hap hsi _, by rw [← hc]; exact h⟩
    case defer d =>
      have hy' : Steady P ops C oi v { a with defers := d :: a.defers } := hy
      refine ⟨hy'.put hap hsi _, ?_⟩
      have e := Act.put_comm { a with defers := d :: a.defers } v undef sp.2.1
      rw [← e]
      have e2 : ({ a with defers := d :: a.defers } : Act).put oi.dst v = { a.put oi.dst v with defers := d :: a.defers } := by cases oi.dst <;> rfl
      have e3 : (a.put oi.dst v).defers = a.defers := by cases oi.dst <;> rfl
      rw [e3] at h
      rw [e2]
      exact h
    case enter f args =>
      refine h.mono fun e w'' he => ?_
      cases e with
      | returned u => exact ⟨hy.put hap hsi u, by rw [← hc]; exact he⟩
      | panicked c => exact he
      | outgrown => exact he
    case row f args => exact Rows.mono h fun u w'' he => ⟨hy.put hap hsi u, by rw [← hc]; exact he⟩
    all_goals exact h
  | halt x w' => cases x <;> simp only [Oper.upon] at h ⊢ <;> exact h

theorem wpOp_put {j : Nat} {oi oj : Oper} {v : Value} {K : Act → World → Prop} {a : Act} {w : World} (hj : ops[j]? = some oj) (hap : oi.apart ops oj = true)
    (hsi : ∀ cs b, oi.op ≠ .select cs b) (hsj : ∀ cs b, oj.op ≠ .select cs b) (hy : Steady P ops C oi v a) (h : wpOp P ops Q0 j K (a.put oi.dst v) w) :
    wpOp P ops Q0 j (fun a' w' => Steady P ops C oi v a' ∧ K (a'.put oi.dst v) w') a w := by
  have sp := Oper.apart_spec hap
  unfold wpOp at *
  simp only [hj] at h ⊢
  rw [wanted_put oj a oi.dst v sp.1] at h
  split
  · rename_i hw
    rw [if_pos hw] at h
    rcases h with h | h
    · exact .inl (oper_put hap hsi hsj hy h)
    · exact (not_letsOut_Q0 h.2).elim
  · rename_i hw
    rw [if_neg hw] at h
    refine ⟨hy.put hap hsi _, ?_⟩
    rw [← Act.put_comm a v undef sp.2.1]
    exact h

theorem Steady.wpOp {i : Nat} {oi : Oper} {v : Value} {K : Act → World → Prop} {a : Act} {w : World} (hi : ops[i]? = some oi) (hy : Steady P ops C oi v a) (hw : C w) (h : K (a.put oi.dst v) w) : wpOp P ops Q0 i K a w :=
  wpOp_of_stOp (K := fun a' => K a' w) (fun _ h => h) ((hy w hw).stOp hi h)

/-- A STEADY OPERATION THAT IS READY MAY GO FIRST. -/
theorem anyC_first {i : Nat} {oi : Oper} {v : Value} (hi : ops[i]? = some oi) (hsel : ∀ (j : Nat) (o : Oper) cs b, ops[j]? = some o → o.op ≠ .select cs b) :
    ∀ (f : Nat) (listed : Array Bool) (a : Act) (w : World),
      (∀ j oj, ops[j]? = some oj → j ≠ i → listed.getD j true = false → (∀ e ∈ oj.after, Region.binds md e = true → e.on ≠ i) → oi.apart ops oj = true) →
      i ∈ Region.ready md ops listed → Steady P ops C oi v a → C w →
      anyC P md ops C Q f (listed.setIfInBounds i true) (a.put oi.dst v) w → anyC P md ops C Q (f + 1) listed a w := by
  intro f
  induction f with
  | zero =>
    intro listed a w _ hr hy hw H
    refine ⟨fun e => (by rw [e] at hr; cases hr), fun j hj => ?_⟩
    by_cases hji : j = i
    · subst hji; exact hy.wpOp hi hw ⟨hw, H⟩
    · have h1 := ready_mono hj hji
      rw [H.1] at h1
      cases h1
  | succ f ih =>
    intro listed a w hfree hr hy hw H
    refine ⟨fun e => (by rw [e] at hr; cases hr), fun j hj => ?_⟩
    by_cases hji : j = i
    · subst hji; exact hy.wpOp hi hw ⟨hw, H⟩
    · have h1 := H.2 j (ready_mono hj hji)
      have hrun := (mem_ready.1 hr).1
      obtain ⟨hjun, oj, hoj, hall⟩ := mem_ready.1 hj
      have hnot : ∀ e ∈ oj.after, Region.binds md e = true → e.on ≠ i := fun e he hb heq => by
        have h2 := hall e he hb
        rw [heq, getD_both hrun] at h2
        cases h2
      have h2 := wpOp_put hoj (hfree j oj hoj hji hjun hnot) (fun cs b => hsel i oi cs b hi) (fun cs b => hsel j oj cs b hoj) hy h1
      refine wpOp_mono (fun a' w' h3 => ⟨h3.2.1, ih (listed.setIfInBounds j true) a' w' ?_ (ready_mono hr (Ne.symm hji)) h3.1 h3.2.1 ?_⟩) h2
      · intro k ok hk hki hun hno
        refine hfree k ok hk hki ?_ hno
        by_cases hjk : j = k
        · subst hjk; exact hjun
        · rw [getD_set_ne true hjk] at hun; exact hun
      · rw [Array.setIfInBounds_comm _ _ hji]
        exact h3.2.2

/-! ### a list of steady operations, then a chain -/
def headB (md : Region.Mode) (ops : Array Oper) : List Nat → Array Bool → Bool
  | [], _ => true
  | i :: s, l => (Region.ready md ops l).contains i && Region.free md ops l i && headB md ops s (l.setIfInBounds i true)
def listedBy : List Nat → Array Bool → Array Bool
  | [], l => l
  | i :: s, l => listedBy s (l.setIfInBounds i true)
def tailB (md : Region.Mode) (ops : Array Oper) : List Nat → Array Bool → Bool
  | [], l => (Region.ready md ops l).isEmpty
  | j :: t, l => decide (Region.ready md ops l = [j]) && tailB md ops t (l.setIfInBounds j true)
def seqC (P : Program) (ops : Array Oper) (C : World → Prop) (Q : Act → World → Prop) : List Nat → Act → World → Prop
  | [], a, w => Q a w
  | j :: t, a, w => wpOp P ops Q0 j (fun a' w' => C w' ∧ seqC P ops C Q t a' w') a w
def steadyAll (P : Program) (ops : Array Oper) (C : World → Prop) (b : Act) : List Nat → Act → Prop
  | [], a => a = b
  | i :: s, a => ∃ o v, ops[i]? = some o ∧ Steady P ops C o v a ∧ steadyAll P ops C b s (a.put o.dst v)

theorem any_of_tail : ∀ (t : List Nat) (l : Array Bool) (a : Act) (w : World), tailB md ops t l = true → seqC P ops C Q t a w → anyC P md ops C Q t.length l a w
  | [], _, _, _, hB, h => ⟨by simpa [tailB] using hB, h⟩
  | j :: t, l, a, w, hB, h => by
    simp only [tailB, Bool.and_eq_true, decide_eq_true_eq] at hB
    refine ⟨by rw [hB.1]; simp, fun i hi => ?_⟩
    rw [hB.1] at hi
    obtain rfl : i = j := by simpa using hi
    exact wpOp_mono (fun a' w' h' => ⟨h'.1, any_of_tail t _ a' w' hB.2 h'.2⟩) h
theorem any_of_head (hsel : Region.noSelect ops = true) (b : Act) (f : Nat) : ∀ (s : List Nat) (l : Array Bool) (a : Act) (w : World), headB md ops s l = true → C w → steadyAll P ops C b s a →
    anyC P md ops C Q f (listedBy s l) b w → anyC P md ops C Q (s.length + f) l a w
  | [], l, a, w, _, _, hs, h => by
    subst hs
    simpa [listedBy] using h
  | i :: s, l, a, w, hB, hw, hs, h => by
    simp only [headB, Bool.and_eq_true] at hB
    obtain ⟨o, v, ho, hy, hr⟩ := hs
    have h1 := any_of_head hsel b f s (l.setIfInBounds i true) (a.put o.dst v) w hB.2 hw hr h
    have := anyC_first ho (Region.noSelect_spec hsel) (s.length + f) l a w (Region.free_spec ho hB.1.2) (by simpa using hB.1.1) hy hw h1
    rw [List.length_cons, show s.length + 1 + f = s.length + f + 1 by omega]
    exact this

def regionB (ops : Array Oper) (s t : List Nat) : Bool :=
  Region.noSelect ops && headB .any ops s (Array.replicate ops.size false) && tailB .any ops t (listedBy s (Array.replicate ops.size false)) && decide (s.length + t.length = ops.size)

/-- A REGION THAT DRAWS: the steady ones first, then the chain. -/
theorem region_steady {id : Nat} {Q' : Exit → Act → World → Prop} {a b : Act} {w : World} (C : World → Prop) (s t : List Nat) (hm : P.follows .mixedOrders = true) (hB : regionB ops s t = true)
    (hC : C w.drew) (hs : steadyAll P ops C b s a) (ht : seqC P ops C (fun a w => Q' .normal a w) t b w.drew) : (Code.region id ops true).wp P Q' a w := by
  simp only [regionB, Bool.and_eq_true, decide_eq_true_eq] at hB
  refine wp_region_any hm ?_
  have h1 := any_of_tail (md := .any) t _ b w.drew hB.1.2 ht
  have h2 := any_of_head hB.1.1.1 b _ s _ a w.drew hB.1.1.2 hC hs h1
  rw [hB.2] at h2
  exact wpAny_of_anyC (fun _ _ h => h) _ _ _ _ h2

/-! ### the steady ones by one walk in a world of C -/
def dstB (n : Nat) : List Oper → Bool
  | [] => true
  | o :: l => (match o.dst with | some d => decide (d < n) && l.all (fun o' => decide (o'.dst ≠ some d)) | none => false) && dstB n l
theorem size_put (a : Act) (d : Option Tmp) (v : Value) : (a.put d v).tmps.size = a.tmps.size := by cases d <;> simp [Act.put]
theorem still_cons {w : World} {i : Nat} {o : Oper} {l : List Oper} {a b : Act} (ho : ops[i]? = some o) (h : wpStill P ops w (fun a' => a' = b) (o :: l) a) : ∃ v, YieldsAt P ops w o v a ∧ wpStill P ops w (fun a' => a' = b) l (a.put o.dst v) := by
  have hst : stOp P ops w i (wpStill P ops w (fun a' => a' = b) l) a := by unfold stOp; simp only [ho]; exact h
  exact yieldsAt_of_stOp ho hst
theorem still_keeps {w : World} {b : Act} {d : Nat} : ∀ (s : List Nat) (l : List Oper) (a : Act), (s.map fun i => ops[i]?) = l.map some → (∀ o ∈ l, o.dst ≠ some d) → wpStill P ops w (fun a' => a' = b) l a → b.tmps[d]? = a.tmps[d]?
  | [], [], a, _, _, h => by
    have e : a = b := h
    rw [e]
  | i :: s, o :: l, a, he, hd, h => by
    simp only [List.map_cons, List.cons.injEq] at he
    obtain ⟨v, _, h2⟩ := still_cons he.1 h
    rw [still_keeps s l _ he.2 (fun o' ho' => hd o' (List.mem_cons_of_mem _ ho')) h2]
    have h1 := hd o (List.mem_cons_self ..)
    cases hdst : o.dst with
    | none => rfl
    | some d' =>
      have hne : d' ≠ d := fun e => h1 (by rw [hdst, e])
      simp [Act.put, Array.getElem?_setIfInBounds_ne hne]
  | [], _ :: _, _, he, _, _ => by simp at he
  | _ :: _, [], _, he, _, _ => by simp at he
theorem steadyAll_of {w0 : World} (hw0 : C w0) {b : Act} : ∀ (s : List Nat) (l : List Oper) (a : Act), (s.map fun i => ops[i]?) = l.map some → dstB a.tmps.size l = true →
    (∀ w, C w → wpStill P ops w (fun a' => a' = b) l a) → steadyAll P ops C b s a
  | [], [], a, _, _, h => h w0 hw0
  | i :: s, o :: l, a, he, hd, h => by
    simp only [List.map_cons, List.cons.injEq] at he
    cases hdst : o.dst with
    | none => simp [dstB, hdst] at hd
    | some d =>
      simp only [dstB, hdst, Bool.and_eq_true, decide_eq_true_eq, List.all_eq_true] at hd
      obtain ⟨⟨hlt, hall⟩, hd2⟩ := hd
      have key : ∀ w, C w → ∀ v, wpStill P ops w (fun a' => a' = b) l (a.put o.dst v) → b.tmps[d]? = some v := by
        intro w _ v hv
        rw [still_keeps s l _ he.2 hall hv, hdst]
        simp [Act.put, hlt]
      obtain ⟨v, _, h1⟩ := still_cons he.1 (h w0 hw0)
      have hv := key w0 hw0 v h1
      have all : ∀ w, C w → YieldsAt P ops w o v a ∧ wpStill P ops w (fun a' => a' = b) l (a.put o.dst v) := by
        intro w hw
        obtain ⟨u, y, h2⟩ := still_cons he.1 (h w hw)
        have hu := key w hw u h2
        rw [hv] at hu
        cases hu
        exact ⟨y, h2⟩
      exact ⟨o, v, he.1, fun w hw => (all w hw).1, steadyAll_of hw0 s l (a.put o.dst v) he.2 (by rw [size_put]; exact hd2) fun w hw => (all w hw).2⟩
  | [], _ :: _, _, he, _, _ => by simp at he
  | _ :: _, [], _, he, _, _ => by simp at he

/-- the first n steady, then the chain t -/
theorem region_take {l : List Oper} {id : Nat} {Q' : Exit → Act → World → Prop} {a b : Act} {w : World} (C : World → Prop) (n : Nat) (t : List Nat) (hm : P.follows .mixedOrders = true) (hB : regionB l.toArray (List.range n) t = true)
    (hl : ((List.range n).map fun i => l.toArray[i]?) = (l.take n).map some) (hd : dstB a.tmps.size (l.take n) = true) (hC : C w.drew)
    (hs : ∀ wx, C wx → wpStill P l.toArray wx (fun a' => a' = b) (l.take n) a) (ht : seqC P l.toArray C (fun a w => Q' .normal a w) t b w.drew) : (Code.region id l.toArray true).wp P Q' a w :=
  region_steady C (List.range n) t hm hB hC (steadyAll_of hC _ _ _ hl hd hs) ht
/-- the first n and the m-th steady, then the chain t -/
theorem region_take_one {l : List Oper} {id : Nat} {Q' : Exit → Act → World → Prop} {a b : Act} {w : World} (C : World → Prop) (n m : Nat) (t : List Nat) (hm : P.follows .mixedOrders = true) (hB : regionB l.toArray (List.range n ++ [m]) t = true)
    (hl : ((List.range n ++ [m]).map fun i => l.toArray[i]?) = (l.take n ++ (l.drop m).take 1).map some) (hd : dstB a.tmps.size (l.take n ++ (l.drop m).take 1) = true) (hC : C w.drew)
    (hs : ∀ wx, C wx → wpStill P l.toArray wx (fun a' => a' = b) (l.take n ++ (l.drop m).take 1) a) (ht : seqC P l.toArray C (fun a w => Q' .normal a w) t b w.drew) : (Code.region id l.toArray true).wp P Q' a w :=
  region_steady C (List.range n ++ [m]) t hm hB hC (steadyAll_of hC _ _ _ hl hd hs) ht

/-- one link of the chain, by the walk's own steps -/
theorem seq_step {j : Nat} {t : List Nat} {o : Oper} {a : Act} {w : World} (ho : ops[j]? = some o) (h : wpList P ops (fun e a' w' => e = .normal ∧ C w' ∧ seqC P ops C Q t a' w') [o] a w) : seqC P ops C Q (j :: t) a w := by
  show wpOp P ops Q0 j _ a w
  unfold wpOp
  simp only [ho]
  simp only [wpList] at h
  split
  · rename_i hw
    rw [if_pos hw] at h
    rcases h with h | ⟨_, _, _, h⟩
    · left
      unfold Oper.wp at *
      generalize (execOp a.eval o).run P w = r at *
      cases r with
      | ok n w' =>
        cases n <;> simp only [Oper.upon] at h ⊢
        case enter f args =>
          refine h.mono fun e w'' he => ?_
          cases e with
          | returned v => exact he.2
          | panicked c => exact absurd he.1 (by simp)
          | outgrown => obtain ⟨_, _, h'⟩ := he; exact absurd h'.1 (by simp)
        case row f args => exact Rows.mono h fun v w'' he => he.2
        all_goals first | exact h.2 | exact h
      | halt x w' => cases x <;> simp only [Oper.upon] at h ⊢ <;> first | exact absurd h.1 (by simp) | exact h
    · exact absurd h.1 (by simp)
  · rename_i hw
    rw [if_neg hw] at h
    exact h.2

/-! ### two links in either order, then the chain -/
def twoB (ops : Array Oper) (s : List Nat) (p q : Nat) (t : List Nat) : Bool :=
  Region.noSelect ops && headB .any ops s (Array.replicate ops.size false) && decide (Region.ready .any ops (listedBy s (Array.replicate ops.size false)) = [p, q]) &&
    tailB .any ops (q :: t) ((listedBy s (Array.replicate ops.size false)).setIfInBounds p true) && tailB .any ops (p :: t) ((listedBy s (Array.replicate ops.size false)).setIfInBounds q true) && decide (s.length + (t.length + 2) = ops.size)
theorem region_two {id : Nat} {Q' : Exit → Act → World → Prop} {a b : Act} {w : World} (C : World → Prop) (s : List Nat) (p q : Nat) (t : List Nat) (hm : P.follows .mixedOrders = true) (hB : twoB ops s p q t = true)
    (hC : C w.drew) (hs : steadyAll P ops C b s a) (h1 : seqC P ops C (fun a w => Q' .normal a w) (p :: q :: t) b w.drew) (h2 : seqC P ops C (fun a w => Q' .normal a w) (q :: p :: t) b w.drew) : (Code.region id ops true).wp P Q' a w := by
  simp only [twoB, Bool.and_eq_true, decide_eq_true_eq] at hB
  obtain ⟨⟨⟨⟨⟨hsel, hh⟩, hr⟩, ht1⟩, ht2⟩, hz⟩ := hB
  refine wp_region_any hm ?_
  have hmid : anyC P .any ops C (fun a w => Q' .normal a w) (t.length + 2) (listedBy s (Array.replicate ops.size false)) b w.drew := by
    refine ⟨by rw [hr]; simp, fun j hj => ?_⟩
    rw [hr] at hj
    simp at hj
    rcases hj with rfl | rfl
    · exact wpOp_mono (fun a' w' h' => ⟨h'.1, any_of_tail (q :: t) _ a' w' ht1 h'.2⟩) h1
    · exact wpOp_mono (fun a' w' h' => ⟨h'.1, any_of_tail (p :: t) _ a' w' ht2 h'.2⟩) h2
  have h3 := any_of_head hsel b _ s _ a w.drew hh hC hs hmid
  rw [hz] at h3
  exact wpAny_of_anyC (fun _ _ h => h) _ _ _ _ h3

/-- the first n and k from the m-th on steady, then p and q in either order, then the chain t -/
theorem region_two_take {l : List Oper} {id : Nat} {Q' : Exit → Act → World → Prop} {a b : Act} {w : World} (C : World → Prop) (n m k p q : Nat) (t : List Nat) (hm : P.follows .mixedOrders = true) (hB : twoB l.toArray (List.range n ++ List.range' m k) p q t = true)
    (hl : ((List.range n ++ List.range' m k).map fun i => l.toArray[i]?) = (l.take n ++ (l.drop m).take k).map some) (hd : dstB a.tmps.size (l.take n ++ (l.drop m).take k) = true) (hC : C w.drew)
    (hs : ∀ wx, C wx → wpStill P l.toArray wx (fun a' => a' = b) (l.take n ++ (l.drop m).take k) a)
    (h1 : seqC P l.toArray C (fun a w => Q' .normal a w) (p :: q :: t) b w.drew) (h2 : seqC P l.toArray C (fun a w => Q' .normal a w) (q :: p :: t) b w.drew) : (Code.region id l.toArray true).wp P Q' a w :=
  region_two C (List.range n ++ List.range' m k) p q t hm hB hC (steadyAll_of hC _ _ _ hl hd hs) h1 h2

/-- 'seq_step', the operation found by dropping -/
theorem seq_drop {l r : List Oper} {j : Nat} {t : List Nat} {o : Oper} {a : Act} {w : World} (hd : l.drop j = o :: r) (h : wpList P l.toArray (fun e a' w' => e = .normal ∧ C w' ∧ seqC P l.toArray C Q t a' w') [o] a w) : seqC P l.toArray C Q (j :: t) a w := by
  refine seq_step (o := o) ?_ h
  have h1 : (l.drop j)[0]? = some o := by rw [hd]; rfl
  rw [List.getElem?_drop] at h1
  simpa using h1
end
end Go.Proofs.Ybulkbpqa
