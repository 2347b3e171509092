/- 'nextWithin' (function 5), 'zzs3316cin' (function 6). -/
import Derived.Test.YbulkbpqoProg
import Derived.WalkKit
import Derived.WalkSpells
import Derived.Deep.QuietTactic
import Derived.BigQuiet
namespace Go.Proofs.Ybulkbpqo
open Go.RowKit

/-- x lies within one of the two runs -/
def inB (x a0 e0 a1 e1 : Int) : Bool := decide ((a0 ≤ x ∧ x < e0) ∨ (a1 ≤ x ∧ x < e1))
/-- where the corner goes, and what is answered -/
def nxt (c a0 e0 a1 e1 : Int) : Int × Bool :=
  if c + 1 = e0 then (if a1 < e1 then (a1, true) else (a0, false)) else (if c + 1 < e1 then (c + 1, true) else (a0, false))

set_option maxRecDepth 100000 in
set_option maxHeartbeats 1000000 in
theorem cin_any (x a0 e0 a1 e1 : Int) (w : World) :
    Calls Yba.prog 6 #[.int .i64 x, .int .i64 a0, .int .i64 e0, .int .i64 a1, .int .i64 e1] w fun e w' => e = .returned (.bool (inB x a0 e0 a1 e1)) ∧ w' = w := by
  by_cases h0 : a0 ≤ x ∧ x < e0
  · have hf : inB x a0 e0 a1 e1 = true := decide_eq_true (.inl h0)
    rw [hf]
    have t1 : decide (a0 ≤ x) = true := decide_eq_true h0.1
    have t2 : decide (x < e0) = true := decide_eq_true h0.2
    clear h0 hf
    go_enter Yba.func6, Yba.ntmps6
    go_wp2
    go_ret
    exact ⟨rfl, rfl⟩
  · have hf : inB x a0 e0 a1 e1 = decide (a1 ≤ x ∧ x < e1) := by
      unfold inB
      by_cases h1 : a1 ≤ x ∧ x < e1
      · rw [decide_eq_true h1, decide_eq_true (.inr h1)]
      · rw [decide_eq_false h1, decide_eq_false (by rintro (h | h); exact h0 h; exact h1 h)]
    rw [hf]
    clear hf
    have hor : decide (a0 ≤ x) = false ∨ (decide (a0 ≤ x) = true ∧ decide (x < e0) = false) := by
      by_cases h : a0 ≤ x
      · exact .inr ⟨decide_eq_true h, decide_eq_false (fun h' => h0 ⟨h, h'⟩)⟩
      · exact .inl (decide_eq_false h)
    have hor2 : (decide (a1 ≤ x) = false ∧ decide (a1 ≤ x ∧ x < e1) = false) ∨ (decide (a1 ≤ x) = true ∧ decide (x < e1) = false ∧ decide (a1 ≤ x ∧ x < e1) = false) ∨ (decide (a1 ≤ x) = true ∧ decide (x < e1) = true ∧ decide (a1 ≤ x ∧ x < e1) = true) := by
      by_cases h : a1 ≤ x
      · by_cases h' : x < e1
        · exact .inr (.inr ⟨decide_eq_true h, decide_eq_true h', decide_eq_true ⟨h, h'⟩⟩)
        · exact .inr (.inl ⟨decide_eq_true h, decide_eq_false h', decide_eq_false (fun k => h' k.2)⟩)
      · exact .inl ⟨decide_eq_false h, decide_eq_false (fun k => h k.1)⟩
    clear h0
    rcases hor with s1 | ⟨s1, s2⟩ <;> rcases hor2 with ⟨u1, u2⟩ | ⟨u1, u2, u3⟩ | ⟨u1, u2, u3⟩
    all_goals
      generalize hq : decide (a1 ≤ x ∧ x < e1) = q at *
      clear hq
      subst q
      go_enter Yba.func6, Yba.ntmps6
      go_wp2
      go_ret
      exact ⟨rfl, rfl⟩

set_option maxRecDepth 100000 in
set_option maxHeartbeats 2000000 in
theorem next_any (Bs Bc Bb n capc capb d : Nat) (c a0 e0 a1 e1 : Int) (w : World) (hd : d < n)
    (hc0 : -100000 ≤ c ∧ c ≤ 100000)
    (k1 : w.cell? ⟨Bs, 26, none⟩ = some (.slice (some ⟨Bc, 0, none⟩) n capc)) (k2 : w.cell? ⟨Bs, 28, none⟩ = some (.slice (some ⟨Bb, 0, none⟩) n capb))
    (k3 : w.cell? ⟨Bc, d, none⟩ = some (.int .i64 c)) (k4 : w.frozen? ⟨Bc, d, none⟩ = false)
    (q0 : w.cell? ⟨Bb, d * 4, none⟩ = some (.int .i64 a0)) (q1 : w.cell? ⟨Bb, d * 4 + 1, none⟩ = some (.int .i64 e0)) (q2 : w.cell? ⟨Bb, d * 4 + 2, none⟩ = some (.int .i64 a1)) (q3 : w.cell? ⟨Bb, d * 4 + 2 + 1, none⟩ = some (.int .i64 e1)) :
    Calls Yba.prog 5 #[.pointer (some ⟨Bs, 0, none⟩), .int .i64 d] w fun e w' => e = .returned (.bool (nxt c a0 e0 a1 e1).2) ∧ ∃ q, w' = (w.setCell ⟨Bc, d, none⟩ (.int .i64 (nxt c a0 e0 a1 e1).1)).drewN q := by
  by_cases h1 : c + 1 = e0
  · have t1 : (c + 1 == e0) = true := by simpa using h1
    by_cases h2 : a1 < e1
    · have hf : nxt c a0 e0 a1 e1 = (a1, true) := by simp [nxt, h1, h2]
      rw [hf]
      clear hf h1
      go_enter Yba.func5, Yba.ntmps5
      go_wp2
      go_quiet (fail)
      go_wp2
      go_ret
      exact ⟨rfl, nq, rfl⟩
    · have hf : nxt c a0 e0 a1 e1 = (a0, false) := by simp [nxt, h1, h2]
      rw [hf]
      clear hf h1
      go_enter Yba.func5, Yba.ntmps5
      go_wp2
      go_quiet (fail)
      go_wp2
      go_region
      all_goals
        go_wp2
        go_ret
        exact ⟨rfl, nq + 1, rfl⟩
  · have t1 : (c + 1 == e0) = false := by simpa using h1
    by_cases h2 : c + 1 < e1
    · have hf : nxt c a0 e0 a1 e1 = (c + 1, true) := by simp [nxt, h1, h2]
      rw [hf]
      clear hf h1
      go_enter Yba.func5, Yba.ntmps5
      go_wp2
      go_quiet (fail)
      go_wp2
      go_ret
      exact ⟨rfl, nq, rfl⟩
    · have hf : nxt c a0 e0 a1 e1 = (a0, false) := by simp [nxt, h1, h2]
      rw [hf]
      clear hf h1
      go_enter Yba.func5, Yba.ntmps5
      go_wp2
      go_quiet (fail)
      go_wp2
      go_region
      all_goals
        go_wp2
        go_ret
        exact ⟨rfl, nq + 1, rfl⟩
end Go.Proofs.Ybulkbpqo
