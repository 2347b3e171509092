/- 'float64(n)' is no NaN: it equals itself. -/
import Derived.Laws.FloatArith
namespace Go.Proofs.Ybulkbpxa

theorem datum_order_self (d : Ieee.Datum) (h : d.isNaN = false) : d.order d = some .eq := by
  cases d with
  | number s m i => simp [Ieee.Datum.order]
  | infinity s => simp [Ieee.Datum.order]
  | nan s t => simp [Ieee.Datum.isNaN] at h

theorem read_not_nan (r : Nat) (h : r ≤ Ieee.double.infRung) : (Ieee.double.read r).isNaN = false := by
  have hi : Ieee.double.infRung = 9218868437227405312 := by decide
  have hs : Ieee.double.signWeight = 9223372036854775808 := by decide
  have hr : r % Ieee.double.signWeight = r := Nat.mod_eq_of_lt (by omega)
  unfold Ieee.Format.read
  simp only [hr]
  split
  · rfl
  · split
    · rfl
    · split
      · rfl
      · omega

theorem floatOfInt_rung (n : Int) (h : 0 ≤ n) : floatOfInt .f64 n ≤ Ieee.double.infRung := by
  show Ieee.double.write (.number (n < 0) n.natAbs 0) ≤ _
  have hn : decide (n < 0) = false := decide_eq_false (by omega)
  rw [hn]
  simp only [Ieee.Format.write, Ieee.Format.nearest, Ieee.Format.word]
  split
  · simp
  · simp only [Bool.false_eq_true, if_false]
    exact Nat.min_le_right _ _

/-- 'float64(n) == float64(n)' -/
theorem order_floatOfInt (n : Int) (h : 0 ≤ n) : FloatKind.f64.format.order (floatOfInt .f64 n) (floatOfInt .f64 n) = some .eq :=
  datum_order_self _ (read_not_nan _ (floatOfInt_rung n h))
theorem order_zero : FloatKind.f64.format.order 0 0 = some .eq := datum_order_self _ (read_not_nan 0 (Nat.zero_le _))
end Go.Proofs.Ybulkbpxa
