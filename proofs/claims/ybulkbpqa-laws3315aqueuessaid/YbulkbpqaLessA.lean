/- 'zzs3315aless' (function 10), and what 'LawS3315AQueues' (function 4) reads of the watch. -/
import Derived.Test.YbulkbpqaColA
namespace Go.Proofs.Ybulkbpqa
open Go.RowKit
set_option linter.unusedVariables false

set_option maxRecDepth 100000 in
set_option maxHeartbeats 1000000 in
theorem less_any (x y : Aw) (W : World) (h : ltAw x y) : Calls Yba.prog 10 #[.agg (encAw x).toArray, .agg (encAw y).toArray] W fun e w' => e = .returned (.bool true) ∧ Below W.heap.size W w' := by
  obtain ⟨x0, x1, x2, x3, x4, x5, x6, x7⟩ := x
  obtain ⟨y0, y1, y2, y3, y4, y5, y6, y7⟩ := y
  unfold ltAw at h
  dsimp only at h
  simp only [encAw]
  have bb : ∀ a b : Obj, Below W.heap.size W ((W.alloc a).alloc b) := fun a b => ((Below.refl _ _).alloc (Nat.le_refl _) _).alloc (by simp) _
  have HB : Hid (∀ a b : Obj, Below W.heap.size W ((W.alloc a).alloc b)) := bb
  clear bb
  rcases h with h1 | ⟨e1, h2 | ⟨e2, h3 | ⟨e3, h4⟩⟩⟩
  · have t1 : (x1 != y1) = true := by simp; omega
    go_enter Yba.func10, Yba.ntmps10
    go_wp2
    go_ret
    exact ⟨rfl, HB.out _ _⟩
  · have t1 : (x1 != y1) = false := by simp [e1]
    have t2 : (x2 != y2) = true := by simp; omega
    clear e1
    go_enter Yba.func10, Yba.ntmps10
    go_wp2
    go_ret
    exact ⟨rfl, HB.out _ _⟩
  · have t1 : (x1 != y1) = false := by simp [e1]
    have t2 : (x2 != y2) = false := by simp [e2]
    have t3 : (x3 != y3) = true := by simp; omega
    clear e1 e2
    go_enter Yba.func10, Yba.ntmps10
    go_wp2
    go_ret
    exact ⟨rfl, HB.out _ _⟩
  · have t1 : (x1 != y1) = false := by simp [e1]
    have t2 : (x2 != y2) = false := by simp [e2]
    have t3 : (x3 != y3) = false := by simp [e3]
    clear e1 e2 e3
    go_enter Yba.func10, Yba.ntmps10
    go_wp2
    go_ret
    exact ⟨rfl, HB.out _ _⟩

theorem headsA_prefix (s : Nat → Aw) {k n : Nat} (hkn : k ≤ n) (r : Int) : ∃ t, headsA s n r = headsA s k r ++ t := by
  induction n with
  | zero => obtain rfl : k = 0 := by omega
            exact ⟨[], by simp⟩
  | succ n ih =>
    by_cases e : k = n + 1
    · subst e; exact ⟨[], by simp⟩
    · obtain ⟨t, ht⟩ := ih (by omega)
      exact ⟨t ++ _, by rw [headsA_succ, ht, List.append_assoc]⟩
theorem heads_at {s : Nat → Aw} {k n : Nat} (hk : k < n) {r : Int} (hr : (s k).rcv = r) (hs : sameA s k = false) : (headsA s n r)[(headsA s k r).length]? = some k ∧ (headsA s k r).length < (headsA s n r).length := by
  obtain ⟨t, ht⟩ := headsA_prefix s (show k + 1 ≤ n by omega) r
  rw [heads_new hr hs, List.append_assoc] at ht
  have h1 : (headsA s n r)[(headsA s k r).length]? = some k := by rw [ht, List.getElem?_append_right (Nat.le_refl _)]; simp
  exact ⟨h1, (List.getElem?_eq_some_iff.1 h1).1⟩
theorem flat_encQ (s : Nat → Aw) (l : List Nat) : ∀ (i j : Nat), l[i]? = some j → (l.flatMap (encQ s))[i * 2]? = some (.int .i64 (s j).snd) ∧ (l.flatMap (encQ s))[i * 2 + 1]? = some (.int .i64 j) := by
  induction l with
  | nil => intro i j h; simp at h
  | cons x l ih =>
    intro i j h
    have hl : (encQ s x).length = 2 := rfl
    rw [List.flatMap_cons]
    cases i with
    | zero =>
      simp at h
      subst h
      exact ⟨rfl, rfl⟩
    | succ i =>
      simp at h
      rw [List.getElem?_append_right (by omega), List.getElem?_append_right (by omega), show (i + 1) * 2 - (encQ s x).length = i * 2 by omega, show (i + 1) * 2 + 1 - (encQ s x).length = i * 2 + 1 by omega]
      exact ih i j h
/-- the queues as they lie -/
theorem WaA.que {h : Nat} {E : List RawE} {n : Nat} {f : Nat → Aw} {ao : Option Addr} {T D Qb Ab g c5 base : Nat} {w W : World} (H : WaA h E n f ao T D Qb Ab g c5 base w W) {r : Nat} (hr : r < h) :
    ∃ qa qc, W.cell? ⟨Qb, r, none⟩ = some (.slice qa (headsA f n r).length qc) ∧ ∀ i j, (headsA f n r)[i]? = some j → ∃ gq, qa = some ⟨gq, 0, none⟩ ∧ gq < W.heap.size ∧ W.cell? ⟨gq, i * 2, none⟩ = some (.int .i64 (f j).snd) ∧ W.cell? ⟨gq, i * 2 + 1, none⟩ = some (.int .i64 j) := by
  obtain ⟨qv, h1, h2⟩ := H.lr.qs
  have c := h1.cell hr
  rcases (QL_owns h2 hr).2 with ⟨e0, e1⟩ | ⟨gq, cap, cur, hv, hb, hg, hc, hm, hs, ht⟩
  · rw [e0] at c
    refine ⟨none, 0, by rw [e1]; exact c, fun i j hij => ?_⟩
    have := (List.getElem?_eq_some_iff.1 hij).1
    omega
  · rw [hv] at c
    refine ⟨_, cap, c, fun i j hij => ⟨gq, rfl, (Array.getElem?_eq_some_iff.1 hg).1, ?_⟩⟩
    have hi := (List.getElem?_eq_some_iff.1 hij).1
    obtain ⟨m0, m1⟩ := flat_encQ f _ i j hij
    rw [← ht, List.getElem?_take, if_pos (by omega)] at m0 m1
    rw [cell_of_row _ gq _ cur 41 (0, 0) hg, cell_of_row _ gq _ cur 41 (0, 0) hg]
    exact ⟨by simpa using m0, by simpa using m1⟩

/-- a copy of one awaited receipt -/
structure CpA (W : World) (A : Nat) (x : Aw) : Prop where
  c : ∀ c, c < 8 → W.cell? ⟨A, c, none⟩ = (encAw x)[c]?
  lt : A < W.heap.size
theorem CpA.below {W W' : World} {A : Nat} {x : Aw} (H : CpA W A x) (hb : Below W.heap.size W W') : CpA W' A x :=
  ⟨fun c hc => (hb.cell (p := ⟨A, c, none⟩) H.lt).trans (H.c c hc), Nat.lt_of_lt_of_le H.lt hb.size⟩
theorem CpA.set {W : World} {A : Nat} {x : Aw} (H : CpA W A x) {a : Addr} (ha : a.block ≠ A) (v : Value) : CpA (W.setCell a v) A x :=
  ⟨fun c hc => (World.cell?_of_block (a := ⟨A, c, none⟩) (Below.heap_setCell _ _ _ _ (fun e => ha e.symm))).trans (H.c c hc), by simpa [World.setCell] using H.lt⟩
theorem cpA_new (W : World) (x : Aw) : CpA (W.alloc (.cells (encAw x).toArray 36)) W.heap.size x := by
  refine ⟨fun c hc => ?_, by simp⟩
  rw [cell_of_row _ W.heap.size c (encAw x).toArray 36 (0, 0) (heap_alloc_new W _)]
  simp
/-- the counts, and all that lay before -/
structure QS (f : Nat → Aw) (h N k : Nat) (w W : World) : Prop where
  cnt : W.rowIs N 3 h (fun r => .int .i64 (headsA f k r).length)
  bel : Below N w W
theorem QS.below {f : Nat → Aw} {h N k : Nat} {w W W' : World} (H : QS f h N k w W) (hb : Below W.heap.size W W') : QS f h N k w W' :=
  ⟨H.cnt.of_block (hb.block N H.cnt.lt), H.bel.comp hb (Nat.le_of_lt H.cnt.lt)⟩
theorem QS.same {f : Nat → Aw} {h N k : Nat} {w W : World} (H : QS f h N k w W) (hs : sameA f k = true) : QS f h N (k + 1) w W :=
  ⟨H.cnt.congr fun r _ => by rw [heads_same hs], H.bel⟩
theorem QS.bump {f : Nat → Aw} {h N k r : Nat} {w W : World} (H : QS f h N k w W) (hr : (f k).rcv = (r : Nat)) (hs : sameA f k = false) : QS f h N (k + 1) w (W.setCell ⟨N, r, none⟩ (.int .i64 (((headsA f k r).length : Int) + 1))) := by
  refine ⟨(H.cnt.set r _).congr fun x _ => ?_, H.bel.setCell (p := ⟨N, r, none⟩) (Nat.le_refl _) _⟩
  by_cases e : x = r
  · subst e
    rw [if_pos rfl, heads_new hr hs]
    simp
  · rw [if_neg e, heads_other (by omega)]
theorem qs_start {f : Nat → Aw} {h : Nat} (w : World) : QS f h w.heap.size 0 w (w.alloc (.cells (madeCells #[.int .i64 0] h) 3)) :=
  ⟨(World.rowIs_made w (.int .i64 0) h 3).congr fun r _ => by simp [headsA], (Below.refl _ _).alloc (Nat.le_refl _) _⟩
theorem below_drew (W : World) (q : Nat) : Below W.heap.size W (W.drewN q) := ⟨rfl, rfl, rfl, Nat.le_refl _, fun _ _ => rfl⟩
end Go.Proofs.Ybulkbpqa
