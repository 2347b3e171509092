/- What 'zzs3315abuild' hands back, read: the trace as 'newDeliveryWatch' reads it, the four columns. -/
import Derived.Test.YbulkbpqaLastA
namespace Go.Proofs.Ybulkbpqa
open Go.RowKit
set_option linter.unusedVariables false

def Col (W : World) (ao : Option Addr) (n : Nat) (F : Nat → Value) : Prop :=
  0 < n → ∃ g, ao = some ⟨g, 0, none⟩ ∧ g < W.heap.size ∧ ∀ j, j < n → W.cell? ⟨g, j, none⟩ = some (F j)
theorem Col.below {W W' : World} {ao : Option Addr} {n : Nat} {F : Nat → Value} (h : Col W ao n F) (hb : Below W.heap.size W W') : Col W' ao n F := by
  intro hp
  obtain ⟨g, ha, hg, hx⟩ := h hp
  exact ⟨g, ha, Nat.lt_of_lt_of_le hg hb.size, fun j hj => (hb.cell (p := ⟨g, j, none⟩) hg).trans (hx j hj)⟩
theorem col_of {W : World} {base n : Nat} {t : TypeId} {v : Value} {l : List RecA} {F : RecA → Value} (h : W.ownsRow base t 1 v n (l.map F)) (hn : l.length = n) : ∃ ao cap, v = .slice ao n cap ∧ Col W ao n (fun j => F (l.getD j default)) := by
  rcases h.2 with ⟨h0, h1⟩ | ⟨g, cap, cur, hv, hb, hg, hc, hm, hs, ht⟩
  · exact ⟨none, 0, by rw [h0, h1], fun hp => by omega⟩
  · refine ⟨_, cap, hv, fun _ => ⟨g, rfl, (Array.getElem?_eq_some_iff.1 hg).1, fun j hj => ?_⟩⟩
    rw [cell_of_row _ g j cur t (0, 0) hg]
    have h2 : (cur.toList.take (n * 1))[j]? = (l.map F)[j]? := by rw [ht]
    have hjl : j < l.length := by omega
    rw [List.getElem?_take, if_pos (by omega), List.getElem?_map, List.getElem?_eq_getElem (l := l) hjl] at h2
    show _ = some (F (l.getD j default))
    rw [List.getD_eq_getElem?_getD, List.getElem?_eq_getElem hjl]
    simpa using h2

theorem evcA_1 {h : Nat} {E : List RawE} {i s : Nat} (hs : s < i) : evcA h E i (s * 4 + 1) = .bool false := by
  unfold evcA
  rw [show (s * 4 + 1) / 4 = s by omega, show (s * 4 + 1) % 4 = 1 by omega, if_pos hs]; simp
theorem evcA_2 {h : Nat} {E : List RawE} {i s : Nat} (hs : s < i) : evcA h E i (s * 4 + 2) = .int .i64 (recsA h E (s + 1)).length := by
  unfold evcA
  rw [show (s * 4 + 2) / 4 = s by omega, show (s * 4 + 2) % 4 = 2 by omega, if_pos hs]; simp
theorem evcA_3 {h : Nat} {E : List RawE} {i s : Nat} (hs : s < i) : evcA h E i (s * 4 + 3) = .int .i64 0 := by
  unfold evcA
  rw [show (s * 4 + 3) / 4 = s by omega, show (s * 4 + 3) % 4 = 3 by omega, if_pos hs]; simp
theorem flat_msg (l : List RecA) : ∀ (j : Nat) (r : RecA), l[j]? = some r → (l.flatMap msgC)[j * 2]? = some (.string r.id) ∧ (l.flatMap msgC)[j * 2 + 1]? = some (.int .i64 r.s) := by
  induction l with
  | nil => intro j r h; simp at h
  | cons x l ih =>
    intro j r h
    have hl : (msgC x).length = 2 := rfl
    rw [List.flatMap_cons]
    cases j with
    | zero =>
      simp at h
      subst h
      exact ⟨rfl, rfl⟩
    | succ j =>
      simp at h
      rw [List.getElem?_append_right (by omega), List.getElem?_append_right (by omega), show (j + 1) * 2 - (msgC x).length = j * 2 by omega, show (j + 1) * 2 + 1 - (msgC x).length = j * 2 + 1 by omega]
      exact ih j r h
theorem trR_of {h : Nat} {E : List RawE} {w W : World} {T : Nat} {v16 v17 v18 v19 v20 : Value} (H : TrA h E w W T v16 v17 v18 v19 v20) : ∃ ao cap, TrR h E W T w.heap.size (w.heap.size + 1 + 1 + 1) ao cap := by
  have h16 := H.ba.sep.owns ⟨63, 2, v16, (recsA h E E.length).length, (recsA h E E.length).flatMap msgC⟩ (by simp)
  have hT : T < W.heap.size := (Array.getElem?_eq_some_iff.1 H.tr).1
  have t0 : W.cell? ⟨T, 0, none⟩ = some (.slice (some ⟨w.heap.size, 0, none⟩) h h) := by rw [cell_of_row _ T 0 _ 70 (0, 0) H.tr]; rfl
  have t1 : W.cell? ⟨T, 1, none⟩ = some (.slice (some ⟨w.heap.size + 1 + 1 + 1, 0, none⟩) E.length E.length) := by rw [cell_of_row _ T 1 _ 70 (0, 0) H.tr]; rfl
  have t2 : W.cell? ⟨T, 2, none⟩ = some v16 := by rw [cell_of_row _ T 2 _ 70 (0, 0) H.tr]; rfl
  have ev : ∀ i, i < E.length → W.cell? ⟨w.heap.size + 1 + 1 + 1, i * 4, none⟩ = some (.int .i64 (hostA h E i)) ∧ W.cell? ⟨w.heap.size + 1 + 1 + 1, i * 4 + 1, none⟩ = some (.bool false) ∧ W.cell? ⟨w.heap.size + 1 + 1 + 1, i * 4 + 2, none⟩ = some (.int .i64 (recsA h E (i + 1)).length) ∧ W.cell? ⟨w.heap.size + 1 + 1 + 1, i * 4 + 3, none⟩ = some (.int .i64 0) := by
    intro i hi
    have c0 := H.ba.evs.cell (show i * 4 < E.length * 4 by omega)
    have c1 := H.ba.evs.cell (show i * 4 + 1 < E.length * 4 by omega)
    have c2 := H.ba.evs.cell (show i * 4 + 2 < E.length * 4 by omega)
    have c3 := H.ba.evs.cell (show i * 4 + 3 < E.length * 4 by omega)
    rw [evcA_host hi] at c0
    rw [evcA_1 hi] at c1
    rw [evcA_2 hi] at c2
    rw [evcA_3 hi] at c3
    exact ⟨c0, c1, c2, c3⟩
  have hEb : w.heap.size + 1 + 1 + 1 < W.heap.size := H.ba.evs.lt
  rcases h16.2 with ⟨h0, h1⟩ | ⟨g, cap, cur, hv, hb, hg, hc, hm, hs, ht⟩
  · dsimp only at h0 h1
    subst h0
    refine ⟨none, 0, t0, t1, by rw [h1]; exact t2, ev, .inl ⟨rfl, rfl, List.eq_nil_of_length_eq_zero h1⟩, by omega, by unfold maxLen; omega, hT, hEb⟩
  · dsimp only at hv ht hs hc hb hg
    subst hv
    refine ⟨_, cap, t0, t1, t2, ev, .inr ⟨g, rfl, (Array.getElem?_eq_some_iff.1 hg).1, fun j hj => ?_⟩, hc, hm, hT, hEb⟩
    obtain ⟨m0, m1⟩ := flat_msg (recsA h E E.length) j _ (List.getElem?_eq_getElem hj)
    rw [← ht, List.getElem?_take, if_pos (by omega)] at m0 m1
    rw [cell_of_row _ g _ cur 63 (0, 0) hg, cell_of_row _ g _ cur 63 (0, 0) hg, List.getD_eq_getElem?_getD, List.getElem?_eq_getElem hj]
    exact ⟨by simpa using m0, by simpa using m1⟩
/-- the four columns -/
theorem cols_of {h : Nat} {E : List RawE} {w W : World} {T : Nat} {v16 v17 v18 v19 v20 : Value} (H : TrA h E w W T v16 v17 v18 v19 v20) {n : Nat} (hn : (recsA h E E.length).length = n) :
    (∃ a c, v17 = .slice a n c ∧ Col W a n (fun j => rcvC ((recsA h E E.length).getD j default))) ∧ (∃ a c, v18 = .slice a n c ∧ Col W a n (fun j => sndC h E ((recsA h E E.length).getD j default))) ∧
    (∃ a c, v19 = .slice a n c ∧ Col W a n (fun j => tmC h E ((recsA h E E.length).getD j default))) ∧ (∃ a c, v20 = .slice a n c ∧ Col W a n (fun j => idC ((recsA h E E.length).getD j default))) := by
  have h17 := H.ba.sep.owns ⟨3, 1, v17, (recsA h E E.length).length, (recsA h E E.length).map rcvC⟩ (by simp)
  have h18 := H.ba.sep.owns ⟨3, 1, v18, (recsA h E E.length).length, (recsA h E E.length).map (sndC h E)⟩ (by simp)
  have h19 := H.ba.sep.owns ⟨3, 1, v19, (recsA h E E.length).length, (recsA h E E.length).map (tmC h E)⟩ (by simp)
  have h20 := H.ba.sep.owns ⟨9, 1, v20, (recsA h E E.length).length, (recsA h E E.length).map idC⟩ (by simp)
  subst hn
  exact ⟨col_of h17 rfl, col_of h18 rfl, col_of h19 rfl, col_of h20 rfl⟩
end Go.Proofs.Ybulkbpqa
