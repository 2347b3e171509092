/- The plain side of the two laws on receipts and queues; rows of the call's own that lie apart; the raw events that came in. -/
import Derived.Test.YbulkbpqaProg
import Derived.WalkKit
import Derived.WalkSpells
import Derived.Below
import Derived.OwnWalk
import Derived.Maps.AppendAt
import Derived.Deep.OwnRows
namespace Go.Proofs.Ybulkbpqa
open Go.RowKit

/-! ### raw data -/
abbrev RawR := Int × ByteArray
abbrev RawE := Int × List RawR

/-- the host of event i -/
def hostA (h : Nat) (E : List RawE) (i : Nat) : Nat := ((E.getD i (0, [])).1 % h).toNat
/-- how many of the first i events lie on host g -/
def cntA (h : Nat) (E : List RawE) : Nat → Nat → Nat
  | 0, _ => 0
  | i + 1, g => cntA h E i g + if hostA h E i = g then 1 else 0
/-- the own time of event i -/
def ownA (h : Nat) (E : List RawE) (i : Nat) : Nat := cntA h E (i + 1) (hostA h E i)
/-- a receipt: its id, the event that sent, the receiving host -/
structure RecA where
  id : ByteArray
  s : Nat
  rcv : Nat
instance : Inhabited RecA := ⟨⟨default, 0, 0⟩⟩
def recOf (h : Nat) (E : List RawE) (i : Nat) (r : RawR) : RecA := ⟨r.2, (r.1 % i).toNat, hostA h E i⟩
def recsOf (h : Nat) (E : List RawE) (i : Nat) : List RecA := if i = 0 then [] else (E.getD i (0, [])).2.map (recOf h E i)
def recsA (h : Nat) (E : List RawE) : Nat → List RecA
  | 0 => []
  | i + 1 => recsA h E i ++ recsOf h E i

theorem hostA_lt {h : Nat} (hp : 0 < h) (E : List RawE) (i : Nat) : hostA h E i < h := by
  unfold hostA
  have h1 := Int.emod_nonneg (E.getD i (0, [])).1 (show (h : Int) ≠ 0 by omega)
  have h2 := Int.emod_lt_of_pos (E.getD i (0, [])).1 (show (0 : Int) < h by omega)
  omega
theorem cntA_le (h : Nat) (E : List RawE) (i g : Nat) : cntA h E i g ≤ i := by
  induction i with
  | zero => exact Nat.le_refl _
  | succ i ih => rw [cntA]; split <;> omega
theorem ownA_le (h : Nat) (E : List RawE) (i : Nat) : ownA h E i ≤ i + 1 := cntA_le _ _ _ _
/-- how many raw receipts the first i events bear -/
def totA (E : List RawE) : Nat → Nat
  | 0 => 0
  | i + 1 => totA E i + (E.getD i (0, [])).2.length
theorem recsA_le (h : Nat) (E : List RawE) (i : Nat) : (recsA h E i).length ≤ totA E i := by
  induction i with
  | zero => exact Nat.le_refl _
  | succ i ih =>
    rw [recsA, totA, List.length_append]
    unfold recsOf
    split
    · simp; omega
    · simp; omega
theorem totA_mono (E : List RawE) {i j : Nat} (hij : i ≤ j) : totA E i ≤ totA E j := by
  induction j with
  | zero => have : i = 0 := by omega
            subst this; exact Nat.le_refl _
  | succ j ih =>
    by_cases h : i ≤ j
    · exact Nat.le_trans (ih h) (by rw [totA]; omega)
    · have : i = j + 1 := by omega
      subst this; exact Nat.le_refl _

/-! ### rows of the call's own, each apart from each -/
structure RwA where
  t : TypeId
  sz : Nat
  v : Value
  n : Nat
  xs : List Value
def ApartA (a b : Value) : Prop := a.ownBlock = none ∨ a.ownBlock ≠ b.ownBlock
theorem ApartA.symm {a b : Value} (h : ApartA a b) : ApartA b a := by
  unfold ApartA at *
  cases hb : b.ownBlock with
  | none => exact .inl rfl
  | some k =>
    rcases h with h | h
    · right; rw [h]; simp
    · right; rw [hb] at h; exact fun e => h e.symm
structure Sep (W : World) (base : Nat) (L : List RwA) : Prop where
  owns : ∀ r ∈ L, W.ownsRow base r.t r.sz r.v r.n r.xs
  apart : L.Pairwise fun a b => ApartA a.v b.v

theorem Sep.kept {W W' : World} {base : Nat} {L : List RwA} {row : Option Nat} (h : Sep W base L) (hg : W.grownBy W' row) (hne : ∀ r ∈ L, r.v.ownBlock = none ∨ r.v.ownBlock ≠ row) : Sep W' base L :=
  ⟨fun r hr => (h.owns r hr).kept hg (hne r hr), h.apart⟩
theorem Sep.alloc {W : World} {base : Nat} {L : List RwA} (h : Sep W base L) (o : Obj) : Sep (W.alloc o) base L :=
  ⟨fun r hr => (h.owns r hr).alloc o, h.apart⟩
theorem Sep.of_below {W W' : World} {base : Nat} {L : List RwA} (h : Sep W base L) (he : ∀ k, base ≤ k → k < W.heap.size → W'.heap[k]? = W.heap[k]?) : Sep W' base L := by
  refine ⟨fun r hr => ?_, h.apart⟩
  obtain ⟨h1, h2⟩ := h.owns r hr
  refine ⟨h1, ?_⟩
  rcases h2 with h2 | ⟨g, cap, cur, hv, hb, hg, rest⟩
  · exact .inl h2
  · exact .inr ⟨g, cap, cur, hv, hb, (he g hb (Array.getElem?_eq_some_iff.1 hg).1).trans hg, rest⟩
theorem Sep.set {W : World} {base : Nat} {L : List RwA} (h : Sep W base L) {a : Addr} (ha : a.block < base) (u : Value) : Sep (W.setCell a u) base L :=
  h.of_below fun k hk _ => Below.heap_setCell _ _ _ _ (by omega)
theorem Sep.app {W W' : World} {base : Nat} {L1 L2 : List RwA} {r : RwA} {v' : Value} {n' : Nat} {xs' : List Value} (h : Sep W base (L1 ++ r :: L2))
    (hown : W'.ownsRow base r.t r.sz v' n' xs') (hg : W.grownBy W' r.v.ownBlock) (hat : v'.ownBlock = r.v.ownBlock ∨ v'.ownBlock = some W.heap.size) : Sep W' base (L1 ++ ⟨r.t, r.sz, v', n', xs'⟩ :: L2) := by
  have hap := h.apart
  rw [List.pairwise_append, List.pairwise_cons] at hap
  obtain ⟨p1, ⟨p2, p3⟩, p4⟩ := hap
  have fresh : ∀ x ∈ L1 ++ L2, ApartA x.v r.v → ApartA x.v v' := by
    intro x hx hxr
    have hlt := (h.owns x (by simp at hx ⊢; rcases hx with hx | hx; exact .inl hx; exact .inr (.inr hx))).lt
    unfold ApartA at *
    rcases hat with e | e
    · rw [e]; exact hxr
    · cases hb : x.v.ownBlock with
      | none => exact .inl rfl
      | some k =>
        right
        rw [e]
        have := (hlt k hb).2
        intro e; cases e; omega
  refine ⟨fun x hx => ?_, ?_⟩
  · simp at hx
    rcases hx with hx | rfl | hx
    · exact (h.owns x (by simp [hx])).kept hg (p4 x hx r (by simp))
    · exact hown
    · exact (h.owns x (by simp [hx])).kept hg (p2 x hx).symm
  · rw [List.pairwise_append, List.pairwise_cons]
    refine ⟨p1, ⟨fun x hx => (fresh x (by simp [hx]) (p2 x hx).symm).symm, p3⟩, fun x hx y hy => ?_⟩
    simp at hy
    rcases hy with rfl | hy
    · exact fresh x (by simp [hx]) (p4 x hx r (by simp))
    · exact p4 x hx y (by simp [hy])
theorem Sep.nils (W : World) (base : Nat) (L : List RwA) (h : ∀ r ∈ L, r.v = .slice none 0 0 ∧ r.n = 0 ∧ r.xs = []) : Sep W base L := by
  refine ⟨fun r hr => ?_, ?_⟩
  · obtain ⟨e1, e2, e3⟩ := h r hr
    rw [e1, e2, e3]
    exact World.ownsRow_nil _ _ _ _
  · induction L with
    | nil => exact .nil
    | cons a L ih =>
      refine List.pairwise_cons.2 ⟨fun b _ => .inl ?_, ih fun r hr => h r (by simp [hr])⟩
      rw [(h a (by simp)).1]; rfl

/-! ### the raw events that came in -/
def RcsIn (W : World) (ro : Option Addr) (rl : Nat) (rs : List RawR) : Prop :=
  rs.length = rl ∧ (rl = 0 ∨ ∃ b off, ro = some ⟨b, off, none⟩ ∧ b < W.heap.size ∧ ∀ k, k < rl →
    W.cell? ⟨b, off + k * 2, none⟩ = some (.int .u16 (rs.getD k (0, default)).1) ∧ W.cell? ⟨b, off + k * 2 + 1, none⟩ = some (.string (rs.getD k (0, default)).2) ∧ 0 ≤ (rs.getD k (0, default)).1 ∧ (rs.getD k (0, default)).1 ≤ 65535)
def EvsIn (W : World) (ao : Option Addr) (len : Nat) (E : List RawE) : Prop :=
  E.length = len ∧ (len = 0 ∨ ∃ b off, ao = some ⟨b, off, none⟩ ∧ b < W.heap.size ∧ ∀ i, i < len →
    W.cell? ⟨b, off + i * 2, none⟩ = some (.int .u8 (E.getD i (0, [])).1) ∧ 0 ≤ (E.getD i (0, [])).1 ∧ (E.getD i (0, [])).1 ≤ 255 ∧
    ∃ ro rl rc, rl ≤ 140737488355328 ∧ W.cell? ⟨b, off + i * 2 + 1, none⟩ = some (.slice ro rl rc) ∧ RcsIn W ro rl (E.getD i (0, [])).2)
theorem RcsIn.below {n : Nat} {W W' : World} {ro : Option Addr} {rl : Nat} {rs : List RawR} (h : RcsIn W ro rl rs) (hn : W.heap.size ≤ n) (hb : Below n W W') : RcsIn W' ro rl rs := by
  obtain ⟨hl, h⟩ := h
  refine ⟨hl, ?_⟩
  rcases h with h | ⟨b, off, ha, hlt, h⟩
  · exact .inl h
  · exact .inr ⟨b, off, ha, Nat.lt_of_lt_of_le hlt hb.size, fun k hk => ⟨(hb.cell (p := ⟨b, off + k * 2, none⟩) (Nat.lt_of_lt_of_le hlt hn)).trans (h k hk).1, (hb.cell (p := ⟨b, off + k * 2 + 1, none⟩) (Nat.lt_of_lt_of_le hlt hn)).trans (h k hk).2.1, (h k hk).2.2⟩⟩
theorem EvsIn.below {W W' : World} {ao : Option Addr} {len : Nat} {E : List RawE} (h : EvsIn W ao len E) (hb : Below W.heap.size W W') : EvsIn W' ao len E := by
  obtain ⟨hl, h⟩ := h
  refine ⟨hl, ?_⟩
  rcases h with h | ⟨b, off, ha, hlt, h⟩
  · exact .inl h
  · refine .inr ⟨b, off, ha, Nat.lt_of_lt_of_le hlt hb.size, fun i hi => ?_⟩
    obtain ⟨c0, g0, g1, ro, rl, rc, hm, c1, hr⟩ := h i hi
    exact ⟨(hb.cell (p := ⟨b, off + i * 2, none⟩) hlt).trans c0, g0, g1, ro, rl, rc, hm, (hb.cell (p := ⟨b, off + i * 2 + 1, none⟩) hlt).trans c1, hr.below (Nat.le_refl _) hb⟩
end Go.Proofs.Ybulkbpqa
