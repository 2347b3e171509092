/- The trace, read: '(*Trace).part' (function 23) and '(*Trace).from' (function 16). -/
import Derived.Test.YbulkbpqaBuildA
import Derived.Test.YbulkbpqaCmpA
import Derived.StillTailTactics
import Derived.BigRegion
namespace Go.Proofs.Ybulkbpqa
open Go.RowKit
set_option linter.unusedVariables false

/-- the trace as it lies: hosts, events, receipts -/
structure TrR (h : Nat) (E : List RawE) (W : World) (T Hb Eb : Nat) (ao : Option Addr) (cap : Nat) : Prop where
  t0 : W.cell? ⟨T, 0, none⟩ = some (.slice (some ⟨Hb, 0, none⟩) h h)
  t1 : W.cell? ⟨T, 1, none⟩ = some (.slice (some ⟨Eb, 0, none⟩) E.length E.length)
  t2 : W.cell? ⟨T, 2, none⟩ = some (.slice ao (recsA h E E.length).length cap)
  ev : ∀ i, i < E.length → W.cell? ⟨Eb, i * 4, none⟩ = some (.int .i64 (hostA h E i)) ∧ W.cell? ⟨Eb, i * 4 + 1, none⟩ = some (.bool false) ∧ W.cell? ⟨Eb, i * 4 + 2, none⟩ = some (.int .i64 (recsA h E (i + 1)).length) ∧ W.cell? ⟨Eb, i * 4 + 3, none⟩ = some (.int .i64 0)
  ms : (ao = none ∧ cap = 0 ∧ recsA h E E.length = []) ∨ ∃ g, ao = some ⟨g, 0, none⟩ ∧ g < W.heap.size ∧ ∀ j, j < (recsA h E E.length).length → W.cell? ⟨g, j * 2, none⟩ = some (.string ((recsA h E E.length).getD j default).id) ∧ W.cell? ⟨g, j * 2 + 1, none⟩ = some (.int .i64 ((recsA h E E.length).getD j default).s)
  ncap : (recsA h E E.length).length ≤ cap
  cmax : cap ≤ maxLen
  Tlt : T < W.heap.size
  Elt : Eb < W.heap.size

theorem TrR.below {h : Nat} {E : List RawE} {W W' : World} {T Hb Eb : Nat} {ao : Option Addr} {cap n : Nat} (H : TrR h E W T Hb Eb ao cap) (hn : W.heap.size ≤ n) (hb : Below n W W') : TrR h E W' T Hb Eb ao cap := by
  have hT := Nat.lt_of_lt_of_le H.Tlt hn
  have hEb := Nat.lt_of_lt_of_le H.Elt hn
  refine ⟨(hb.cell (p := ⟨T, 0, none⟩) hT).trans H.t0, (hb.cell (p := ⟨T, 1, none⟩) hT).trans H.t1, (hb.cell (p := ⟨T, 2, none⟩) hT).trans H.t2, fun i hi => ?_, ?_, H.ncap, H.cmax, Nat.lt_of_lt_of_le H.Tlt hb.size, Nat.lt_of_lt_of_le H.Elt hb.size⟩
  · obtain ⟨e0, e1, e2, e3⟩ := H.ev i hi
    exact ⟨(hb.cell (p := ⟨Eb, i * 4, none⟩) hEb).trans e0, (hb.cell (p := ⟨Eb, i * 4 + 1, none⟩) hEb).trans e1, (hb.cell (p := ⟨Eb, i * 4 + 2, none⟩) hEb).trans e2, (hb.cell (p := ⟨Eb, i * 4 + 3, none⟩) hEb).trans e3⟩
  · rcases H.ms with h0 | ⟨g, ha, hg, hm⟩
    · exact .inl h0
    · exact .inr ⟨g, ha, Nat.lt_of_lt_of_le hg hb.size, fun j hj => ⟨(hb.cell (p := ⟨g, j * 2, none⟩) (Nat.lt_of_lt_of_le hg hn)).trans (hm j hj).1, (hb.cell (p := ⟨g, j * 2 + 1, none⟩) (Nat.lt_of_lt_of_le hg hn)).trans (hm j hj).2⟩⟩

theorem recsA_mono (h : Nat) (E : List RawE) {i j : Nat} (hij : i ≤ j) : ∃ t, recsA h E j = recsA h E i ++ t := by
  induction j with
  | zero => have : i = 0 := by omega
            subst this; exact ⟨[], by simp⟩
  | succ j ih =>
    by_cases e : i = j + 1
    · subst e; exact ⟨[], by simp⟩
    · obtain ⟨t, ht⟩ := ih (by omega)
      exact ⟨t ++ recsOf h E j, by rw [recsA, ht, List.append_assoc]⟩

set_option maxRecDepth 100000 in
set_option maxHeartbeats 1000000 in
theorem part_pos (h : Nat) (E : List RawE) (T Hb Eb i : Nat) (ao : Option Addr) (cap : Nat) (w : World) (H : TrR h E w T Hb Eb ao cap) (hi : i < E.length) (h0 : 0 < i) (hL : E.length ≤ 1024) (hR : (recsA h E E.length).length ≤ 4096) :
    Calls Yba.prog 23 #[.pointer (some ⟨T, 0, none⟩), .int .i64 i] w fun e w' => e = .returned (.tuple #[.agg #[.int .i64 (recsA h E i).length, .int .i64 0], .agg #[.int .i64 (recsA h E (i + 1)).length, .int .i64 0]]) ∧ Below w.heap.size w w' := by
  obtain ⟨a0, a1, a2, a3⟩ := H.ev i hi
  obtain ⟨b0, b1, b2, b3⟩ := H.ev (i - 1) (by omega)
  rw [show i - 1 + 1 = i by omega] at b2
  have t1 := H.t1
  have hT := H.Tlt
  have hEb := H.Elt
  obtain ⟨p, hp⟩ : ∃ p, i - 1 = p := ⟨_, rfl⟩
  obtain rfl : i = p + 1 := by omega
  rw [hp] at b0 b1 b2 b3
  clear hp
  go_enter Yba.func23, Yba.ntmps23
  go_wp2
  obtain ⟨wq, hwq⟩ : ∃ wq, ((w.alloc (.cells #[.int .i64 (recsA h E (p + 1)).length, .int .i64 0] 65)).alloc (.cells #[.int .i64 0, .int .i64 0] 65)) = wq := ⟨_, rfl⟩
  have bq : Below w.heap.size w wq := by rw [← hwq]; exact ((Below.refl _ _).alloc (Nat.le_refl _) _).alloc (by simp) _
  have q1 := (bq.cell (p := ⟨T, 1, none⟩) hT).trans t1
  have q2 := (bq.cell (p := ⟨Eb, (p + 1) * 4 + 2, none⟩) hEb).trans a2
  have q3 := (bq.cell (p := ⟨Eb, (p + 1) * 4 + 3, none⟩) hEb).trans a3
  have s0 : wq.cell? ⟨w.heap.size, 0, none⟩ = some (.int .i64 (recsA h E (p + 1)).length) := by rw [← hwq]; simp
  have s1 : wq.cell? ⟨w.heap.size, 1, none⟩ = some (.int .i64 0) := by rw [← hwq]; simp
  have s2 : wq.cell? ⟨w.heap.size + 1, 0, none⟩ = some (.int .i64 0) := by rw [← hwq]; simp
  have s3 : wq.cell? ⟨w.heap.size + 1, 1, none⟩ = some (.int .i64 0) := by rw [← hwq]; simp
  have r0 : wq.frozen? ⟨w.heap.size, 0, none⟩ = false := by rw [← hwq]; simp
  have r1 : wq.frozen? ⟨w.heap.size, 1, none⟩ = false := by rw [← hwq]; simp
  have r2 : wq.frozen? ⟨w.heap.size + 1, 0, none⟩ = false := by rw [← hwq]; simp
  have r3 : wq.frozen? ⟨w.heap.size + 1, 1, none⟩ = false := by rw [← hwq]; simp
  rw [hwq]
  clear hwq a0 a1 a2 a3 b0 b1 b2 b3 t1 H
  go_region
  go_wp2
  (try simp only [Exit.inBlock, Exit.then])
  refine bodyPost_ret (v := .tuple #[.agg #[.int .i64 (recsA h E (p + 1)).length, .int .i64 0], .agg #[.int .i64 (recsA h E (p + 1 + 1)).length, .int .i64 0]]) ?_ rfl ?_
  · simp [results, Yba.f23, go_sem, s0, s1, s2, s3]
  · exact ⟨rfl, Below.drew ((((bq.setCell (p := ⟨w.heap.size, 0, none⟩) (Nat.le_refl _) _).setCell (p := ⟨w.heap.size, 1, none⟩) (Nat.le_refl _) _).setCell (p := ⟨w.heap.size + 1, 0, none⟩) (Nat.le_succ _) _).setCell (p := ⟨w.heap.size + 1, 1, none⟩) (Nat.le_succ _) _)⟩

set_option maxRecDepth 100000 in
set_option maxHeartbeats 1000000 in
theorem part_zero (h : Nat) (E : List RawE) (T Hb Eb i : Nat) (ao : Option Addr) (cap : Nat) (w : World) (H : TrR h E w T Hb Eb ao cap) (hi : i < E.length) (h0 : i ≤ 0) (hL : E.length ≤ 1024) (hR : (recsA h E E.length).length ≤ 4096) :
    Calls Yba.prog 23 #[.pointer (some ⟨T, 0, none⟩), .int .i64 i] w fun e w' => e = .returned (.tuple #[.agg #[.int .i64 0, .int .i64 0], .agg #[.int .i64 (recsA h E (i + 1)).length, .int .i64 0]]) ∧ Below w.heap.size w w' := by
  obtain ⟨a0, a1, a2, a3⟩ := H.ev i hi
  have t1 := H.t1
  have hT := H.Tlt
  have hEb := H.Elt
  go_enter Yba.func23, Yba.ntmps23
  go_wp2
  obtain ⟨wq, hwq⟩ : ∃ wq, ((w.alloc (.cells #[.int .i64 0, .int .i64 0] 65)).alloc (.cells #[.int .i64 0, .int .i64 0] 65)) = wq := ⟨_, rfl⟩
  have bq : Below w.heap.size w wq := by rw [← hwq]; exact ((Below.refl _ _).alloc (Nat.le_refl _) _).alloc (by simp) _
  have q1 := (bq.cell (p := ⟨T, 1, none⟩) hT).trans t1
  have q2 := (bq.cell (p := ⟨Eb, i * 4 + 2, none⟩) hEb).trans a2
  have q3 := (bq.cell (p := ⟨Eb, i * 4 + 3, none⟩) hEb).trans a3
  have s0 : wq.cell? ⟨w.heap.size, 0, none⟩ = some (.int .i64 0) := by rw [← hwq]; simp
  have s1 : wq.cell? ⟨w.heap.size, 1, none⟩ = some (.int .i64 0) := by rw [← hwq]; simp
  have s2 : wq.cell? ⟨w.heap.size + 1, 0, none⟩ = some (.int .i64 0) := by rw [← hwq]; simp
  have s3 : wq.cell? ⟨w.heap.size + 1, 1, none⟩ = some (.int .i64 0) := by rw [← hwq]; simp
  have r0 : wq.frozen? ⟨w.heap.size, 0, none⟩ = false := by rw [← hwq]; simp
  have r1 : wq.frozen? ⟨w.heap.size, 1, none⟩ = false := by rw [← hwq]; simp
  have r2 : wq.frozen? ⟨w.heap.size + 1, 0, none⟩ = false := by rw [← hwq]; simp
  have r3 : wq.frozen? ⟨w.heap.size + 1, 1, none⟩ = false := by rw [← hwq]; simp
  rw [hwq]
  clear hwq a0 a1 a2 a3 t1 H
  go_region
  go_wp2
  (try simp only [Exit.inBlock, Exit.then])
  refine bodyPost_ret (v := .tuple #[.agg #[.int .i64 0, .int .i64 0], .agg #[.int .i64 (recsA h E (i + 1)).length, .int .i64 0]]) ?_ rfl ?_
  · simp [results, Yba.f23, go_sem, s0, s1, s2, s3]
  · exact ⟨rfl, Below.drew ((((bq.setCell (p := ⟨w.heap.size, 0, none⟩) (Nat.le_refl _) _).setCell (p := ⟨w.heap.size, 1, none⟩) (Nat.le_refl _) _).setCell (p := ⟨w.heap.size + 1, 0, none⟩) (Nat.le_succ _) _).setCell (p := ⟨w.heap.size + 1, 1, none⟩) (Nat.le_succ _) _)⟩

theorem part_any (h : Nat) (E : List RawE) (T Hb Eb i : Nat) (ao : Option Addr) (cap : Nat) (w : World) (H : TrR h E w T Hb Eb ao cap) (hi : i < E.length) (hL : E.length ≤ 1024) (hR : (recsA h E E.length).length ≤ 4096) :
    Calls Yba.prog 23 #[.pointer (some ⟨T, 0, none⟩), .int .i64 i] w fun e w' => e = .returned (.tuple #[.agg #[.int .i64 (recsA h E i).length, .int .i64 0], .agg #[.int .i64 (recsA h E (i + 1)).length, .int .i64 0]]) ∧ Below w.heap.size w w' := by
  by_cases h0 : 0 < i
  · exact part_pos h E T Hb Eb i ao cap w H hi h0 hL hR
  · have := part_zero h E T Hb Eb i ao cap w H hi (by omega) hL hR
    obtain rfl : i = 0 := by omega
    exact this

set_option maxRecDepth 100000 in
set_option maxHeartbeats 1000000 in
theorem from_some (h : Nat) (E : List RawE) (T Hb Eb i g : Nat) (cap : Nat) (w : World) (H : TrR h E w T Hb Eb (some ⟨g, 0, none⟩) cap) (hi : i < E.length) (hL : E.length ≤ 1024) (hR : (recsA h E E.length).length ≤ 4096) :
    Calls Yba.prog 16 #[.pointer (some ⟨T, 0, none⟩), .int .i64 i] w fun e w' => (∃ p c, e = .returned (.slice p (recsOf h E i).length c) ∧ (0 < (recsOf h E i).length → p = some ⟨g, (recsA h E i).length * 2, none⟩)) ∧ Below w.heap.size w w' := by
  obtain ⟨t, ht⟩ := recsA_mono h E (show i + 1 ≤ E.length by omega)
  have hlen : (recsA h E (i + 1)).length = (recsA h E i).length + (recsOf h E i).length := by rw [recsA, List.length_append]
  have htot : (recsA h E E.length).length = (recsA h E (i + 1)).length + t.length := by rw [ht, List.length_append]
  have hcap := H.ncap
  have hcmax := H.cmax
  unfold maxLen at hcmax
  have hp := fun W (hb : Below w.heap.size w W) => part_any h E T Hb Eb i (some ⟨g, 0, none⟩) cap W (H.below (Nat.le_refl _) hb) hi hL hR
  rw [hlen] at hp
  obtain ⟨n, hn⟩ : ∃ n, (recsA h E E.length).length = n := ⟨_, rfl⟩
  obtain ⟨a, ha⟩ : ∃ a, (recsA h E i).length = a := ⟨_, rfl⟩
  obtain ⟨b, hb⟩ : ∃ b, (recsOf h E i).length = b := ⟨_, rfl⟩
  have t2 := H.t2
  have hT := H.Tlt
  rw [hn] at htot hR hcap t2
  rw [ha, hb] at hlen hp ⊢
  clear ht hn
  go_enter Yba.func16, Yba.ntmps16
  go_wp2_with (go_at_call 23; refine (hp _ (Below.refl _ _)).mono ?_; rintro e w1 ⟨rfl, b1⟩)
  obtain ⟨wq, hwq⟩ : ∃ wq, ((w1.alloc (.cells #[.int .i64 a, .int .i64 0] 65)).alloc (.cells #[.int .i64 ((a : Int) + b), .int .i64 0] 65)) = wq := ⟨_, rfl⟩
  have bq : Below w.heap.size w wq := by rw [← hwq]; exact (b1.alloc b1.size _).alloc (by have := b1.size; simp; omega) _
  have q2 := (bq.cell (p := ⟨T, 2, none⟩) hT).trans t2
  have s0 : wq.cell? ⟨w1.heap.size, 0, none⟩ = some (.int .i64 a) := by rw [← hwq]; simp
  have s2 : wq.cell? ⟨w1.heap.size + 1, 0, none⟩ = some (.int .i64 ((a : Int) + b)) := by rw [← hwq]; simp
  rw [hwq]
  clear hwq t2 H b1 hp
  go_region
  go_wp2
  · go_ret
    exact ⟨⟨_, ⟨_, rfl⟩, fun hpos => by omega⟩, bq.drew⟩
  · go_ret
    exact ⟨⟨_, ⟨_, rfl⟩, fun _ => rfl⟩, bq.drew⟩

set_option maxRecDepth 100000 in
set_option maxHeartbeats 1000000 in
theorem from_none (h : Nat) (E : List RawE) (T Hb Eb i : Nat) (w : World) (H : TrR h E w T Hb Eb none 0) (hi : i < E.length) (hL : E.length ≤ 1024) (hR : recsA h E E.length = []) :
    Calls Yba.prog 16 #[.pointer (some ⟨T, 0, none⟩), .int .i64 i] w fun e w' => e = .returned (.slice none 0 0) ∧ recsOf h E i = [] ∧ Below w.heap.size w w' := by
  obtain ⟨t, ht⟩ := recsA_mono h E (show i + 1 ≤ E.length by omega)
  rw [hR] at ht
  have e1 : recsA h E (i + 1) = [] := (List.append_eq_nil_iff.1 ht.symm).1
  have e1' := e1
  rw [recsA] at e1'
  have e2 := (List.append_eq_nil_iff.1 e1').1
  have e3 := (List.append_eq_nil_iff.1 e1').2
  have hp := fun W (hb : Below w.heap.size w W) => part_any h E T Hb Eb i none 0 W (H.below (Nat.le_refl _) hb) hi hL (by rw [hR]; simp)
  rw [e1, e2] at hp
  have t2 := H.t2
  have hT := H.Tlt
  rw [hR] at t2
  simp only [List.length_nil] at hp t2
  have E3 : Hid (recsOf h E i = []) := e3
  clear ht e1 e2 e3 e1' hR
  go_enter Yba.func16, Yba.ntmps16
  go_wp2_with (go_at_call 23; refine (hp _ (Below.refl _ _)).mono ?_; rintro e w1 ⟨rfl, b1⟩)
  obtain ⟨wq, hwq⟩ : ∃ wq, ((w1.alloc (.cells #[.int .i64 0, .int .i64 0] 65)).alloc (.cells #[.int .i64 0, .int .i64 0] 65)) = wq := ⟨_, rfl⟩
  have bq : Below w.heap.size w wq := by rw [← hwq]; exact (b1.alloc b1.size _).alloc (by have := b1.size; simp; omega) _
  have q2 := (bq.cell (p := ⟨T, 2, none⟩) hT).trans t2
  have s0 : wq.cell? ⟨w1.heap.size, 0, none⟩ = some (.int .i64 0) := by rw [← hwq]; simp
  have s2 : wq.cell? ⟨w1.heap.size + 1, 0, none⟩ = some (.int .i64 0) := by rw [← hwq]; simp
  first | rw [hwq] | (simp only [Int.natCast_zero, Int.ofNat_zero] at *; rw [hwq])
  clear hwq t2 H b1 hp
  go_region
  go_wp2
  go_ret
  exact ⟨rfl, E3.out, bq.drew⟩

/-- 'from', the receipts nil or not -/
theorem from_any (h : Nat) (E : List RawE) (T Hb Eb i : Nat) (ao : Option Addr) (cap : Nat) (w : World) (H : TrR h E w T Hb Eb ao cap) (hi : i < E.length) (hL : E.length ≤ 1024) (hR : (recsA h E E.length).length ≤ 4096) :
    Calls Yba.prog 16 #[.pointer (some ⟨T, 0, none⟩), .int .i64 i] w fun e w' => (∃ p c, e = .returned (.slice p (recsOf h E i).length c) ∧ (0 < (recsOf h E i).length → ∃ g, ao = some ⟨g, 0, none⟩ ∧ p = some ⟨g, (recsA h E i).length * 2, none⟩)) ∧ Below w.heap.size w w' := by
  rcases H.ms with ⟨rfl, rfl, h0⟩ | ⟨g, rfl, _⟩
  · refine (from_none h E T Hb Eb i w H hi hL h0).mono ?_
    rintro e w' ⟨rfl, h1, hb⟩
    exact ⟨⟨none, 0, by rw [h1]; rfl, fun hp => by rw [h1] at hp; simp at hp⟩, hb⟩
  · refine (from_some h E T Hb Eb i g cap w H hi hL hR).mono ?_
    rintro e w' ⟨⟨p, c, rfl, hp⟩, hb⟩
    exact ⟨⟨p, c, rfl, fun h0 => ⟨g, rfl, hp h0⟩⟩, hb⟩
end Go.Proofs.Ybulkbpqa
