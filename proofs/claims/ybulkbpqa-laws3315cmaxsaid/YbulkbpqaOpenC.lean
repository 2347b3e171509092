/- A slice of raw entries that came in, opened. -/
import Derived.Test.YbulkbpqaBuildC
import Derived.Deep.SlicePairs
import Derived.ProofKit
import Derived.OpenShut
namespace Go.Proofs.Ybulkbpqa
open Go.ChangeShapes Go.WideShapes Go.ChangeAt Go.RowKit

theorem ents_of {H : Type} {enc : TypeId × Value → H} {W : World} {a : Option Addr} {len cap : Nat} {d : DataW H} {p : List MemPlace} {fuel : Nat}
    (h : DataW.trod enc Yba.prog W 0 (fun _ => true) true fuel 42 [.slice a len cap] = some (d, p)) : ∃ xs, Ents W a len xs := by
  have u78 := Yba.underlying78
  rcases Go.Deep.open_slice_pairs Yba.underlying42 Yba.underlying78 (by kernel_rfl) rfl rfl (by kernel_rfl) (by kernel_rfl) h with ⟨hcs, _⟩ | ⟨x, l, c, m, n, V0, V1, D0, D1, P0, P1, hcs, _, hl, hm, hmm, _, hcell⟩
  · simp at hcs
    obtain ⟨rfl, rfl, rfl⟩ := hcs
    exact ⟨[], rfl, .inl rfl⟩
  · simp at hcs
    obtain ⟨rfl, rfl, rfl⟩ := hcs
    have hlm : len ≤ m := by rw [hmm]; simpa using hl
    have each : ∀ i, i < len → ∃ g k : Int, V0 i = .int .u8 g ∧ V1 i = .int .i64 k ∧ 0 ≤ g ∧ g ≤ 255 := by
      intro i hi
      obtain ⟨_, _, t0, t1⟩ := hcell i (by omega)
      obtain ⟨g, e0, _, wg⟩ := DataW.trod_int Yba.underlying5 t0
      obtain ⟨k, e1, _, _⟩ := DataW.trod_int Yba.underlying3 t1
      have := bounds_u8 wg
      exact ⟨g, k, by simpa using e0, by simpa using e1, this.1, this.2⟩
    have hget : ∀ i, i < len → ((List.range len).map fun i => (intOf (V0 i), intOf (V1 i))).getD i (0, 0) = (intOf (V0 i), intOf (V1 i)) := by
      intro i hi
      simp [hi]
    refine ⟨(List.range len).map fun i => (intOf (V0 i), intOf (V1 i)), by simp, ?_⟩
    by_cases hz : len = 0
    · exact .inl hz
    · obtain ⟨b, off, spot⟩ := x
      have hspot : spot = none := by have := (hcell 0 (by omega)).1; simpa [Addr.add] using World.cell?_spot this
      subst hspot
      have hadd : ∀ j, (⟨b, off, none⟩ : Addr).add j = ⟨b, off + j, none⟩ := fun j => add_plain _ _ _
      refine .inr ⟨b, off, rfl, ?_, fun i hi => ?_, fun i hi => ?_, fun i hi => ?_⟩
      · have h0 := (hcell 0 (by omega)).1
        exact World.block_lt_of_cell? W _ h0
      · obtain ⟨g, k, e0, e1, hg⟩ := each i hi
        rw [hget i hi]
        have := (hcell i (by omega)).1
        rw [hadd, e0] at this
        rw [e0]
        exact this
      · obtain ⟨g, k, e0, e1, hg⟩ := each i hi
        rw [hget i hi]
        have := (hcell i (by omega)).2.1
        rw [hadd, e1] at this
        rw [e1]
        exact this
      · obtain ⟨g, k, e0, e1, hg⟩ := each i hi
        rw [hget i hi, e0]
        exact hg
end Go.Proofs.Ybulkbpqa
