/- The walk of 'LawS3328BFresh' (function 3). -/
import Derived.Test.YbulkbpxaProg
import Derived.WalkKit
import Derived.WalkSpells
import Derived.WalkLawsBesides
import Derived.Below
import Derived.Test.YbulkbpxaFloat
namespace Go.Proofs.Ybulkbpxa
open Go.RowKit

/-- any int64, mapped above zero -/
def posI (x : Int) : Int := if x < 0 then (if x = -1 then 1 else -(x + 1)) else if x = 0 then 1 else x
theorem posI_bd (x : Int) (h : -9223372036854775808 ≤ x ∧ x ≤ 9223372036854775807) : 1 ≤ posI x ∧ posI x ≤ 9223372036854775807 := by
  unfold posI
  split
  · split <;> omega
  · split <;> omega

set_option maxRecDepth 100000 in
set_option maxHeartbeats 1000000 in
theorem pos_any (x : Int) (w : World) (h : -9223372036854775808 ≤ x ∧ x ≤ 9223372036854775807) : Calls Yba.prog 4 #[.int .i64 x] w fun e w' => e = .returned (.int .i64 (posI x)) ∧ w' = w := by
  by_cases h1 : x < 0
  · by_cases h2 : x = -1
    · subst h2
      go_enter Yba.func4, Yba.ntmps4
      go_wp2
      go_ret
      exact ⟨rfl, rfl⟩
    · have hp : posI x = -(x + 1) := by unfold posI; rw [if_pos h1, if_neg h2]
      rw [hp]
      go_enter Yba.func4, Yba.ntmps4
      go_wp2
      go_ret
      exact ⟨rfl, rfl⟩
  · by_cases h2 : x = 0
    · subst h2
      go_enter Yba.func4, Yba.ntmps4
      go_wp2
      go_ret
      exact ⟨rfl, rfl⟩
    · have hp : posI x = x := by unfold posI; rw [if_neg h1, if_neg h2]
      rw [hp]
      go_enter Yba.func4, Yba.ntmps4
      go_wp2
      go_ret
      exact ⟨rfl, rfl⟩

set_option maxRecDepth 100000 in
set_option maxHeartbeats 1000000 in
theorem arrival_any (p q : Int) (w : World) (hp : 1 ≤ p ∧ p ≤ 9223372036854775807) (hq : 1 ≤ q ∧ q ≤ 9223372036854775807) :
    Calls Yba.prog 5 #[.int .i64 p, .int .i64 q] w fun e w' => e = .returned (.pointer (some ⟨w.heap.size, 0, none⟩)) ∧
      w' = w.alloc (.cells #[.float .f64 (floatOfInt .f64 p), .bool false, .int .u64 0, .int .i64 0, .float .f64 0, .int .i64 q, .slice none 0 0, .int .i64 0, .float .f64 (floatOfInt .f64 p)] 34) := by
  go_enter Yba.func5, Yba.ntmps5
  go_wp2
  go_ret
  exact ⟨rfl, rfl⟩

theorem slice_nil (w : World) : (binOp .neq 30 (.slice none 0 0) (.slice none 0 0)).run Yba.prog w = .ok (.bool false) w := run_neq_slice_nil_any w 30 _ none 0 0 0 0 Yba.underlying30

set_option maxRecDepth 100000 in
set_option maxHeartbeats 1000000 in
theorem fresh_any (x y : Int) (w : World) (hx : -9223372036854775808 ≤ x ∧ x ≤ 9223372036854775807) (hy : -9223372036854775808 ≤ y ∧ y ≤ 9223372036854775807) :
    Calls Yba.prog 3 #[.int .i64 x, .int .i64 y] w fun e w' => e = .returned (.bool true) ∧ Below w.heap.size w w' := by
  have hp := posI_bd x hx
  have hpos := fun w' => pos_any x w' hx
  have hf := order_floatOfInt (posI x) (by omega)
  have hz := order_zero
  have hs := slice_nil
  generalize posI x = p at *
  by_cases h1 : y < 0
  · by_cases h2 : y = -1
    · subst h2
      go_enter Yba.func3, Yba.ntmps3
      go_wp2_with (first | (go_at_call 4; refine (hpos _).mono ?_; rintro e w ⟨rfl, rfl⟩) | (go_at_call 5; refine (arrival_any _ _ _ hp (by omega)).mono ?_; rintro e w1 ⟨rfl, rfl⟩))
      go_ret
      exact ⟨rfl, (Below.refl _ _).alloc (Nat.le_refl _) _⟩
    · have h3 : (-(y + 1) == 0) = false := beq_eq_false_iff_ne.2 (by omega)
      go_enter Yba.func3, Yba.ntmps3
      go_wp2_with (first | (go_at_call 4; refine (hpos _).mono ?_; rintro e w ⟨rfl, rfl⟩) | (go_at_call 5; refine (arrival_any _ _ _ hp (by omega)).mono ?_; rintro e w1 ⟨rfl, rfl⟩))
      go_ret
      exact ⟨rfl, (Below.refl _ _).alloc (Nat.le_refl _) _⟩
  · by_cases h2 : y = 0
    · subst h2
      go_enter Yba.func3, Yba.ntmps3
      go_wp2_with (first | (go_at_call 4; refine (hpos _).mono ?_; rintro e w ⟨rfl, rfl⟩) | (go_at_call 5; refine (arrival_any _ _ _ hp (by omega)).mono ?_; rintro e w1 ⟨rfl, rfl⟩))
      go_ret
      exact ⟨rfl, (Below.refl _ _).alloc (Nat.le_refl _) _⟩
    · have h3 : (y == 0) = false := beq_eq_false_iff_ne.2 (by omega)
      go_enter Yba.func3, Yba.ntmps3
      go_wp2_with (first | (go_at_call 4; refine (hpos _).mono ?_; rintro e w ⟨rfl, rfl⟩) | (go_at_call 5; refine (arrival_any _ _ _ hp (by omega)).mono ?_; rintro e w1 ⟨rfl, rfl⟩))
      go_ret
      exact ⟨rfl, (Below.refl _ _).alloc (Nat.le_refl _) _⟩
end Go.Proofs.Ybulkbpxa
