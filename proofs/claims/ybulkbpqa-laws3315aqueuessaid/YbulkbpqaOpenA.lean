/- The slice of raw events that came in, opened: the nested slices too; their lengths by the row's reach. -/
import Derived.Test.YbulkbpqaPlainA
import Derived.Deep.SlicePairs
import Derived.ProofKit
import Derived.OpenShut
import Derived.SizedLaws
namespace Go.Proofs.Ybulkbpqa
open Go.ChangeShapes Go.WideShapes Go.ChangeAt Go.RowKit

theorem Yba.bytes56 : Yba.prog.bytesOf 56 = 32 := by kernel_rfl
theorem Yba.bytes61 : Yba.prog.bytesOf 61 = 24 := by kernel_rfl
theorem reachA : reachBytes = 140737488351232 := rfl
theorem weightsAll_memA {H : Type} {P : Program} {e : TypeId} : ∀ {l : List (DataW H)} {d : DataW H}, d ∈ l → ∀ n ∈ d.weights P e, n ∈ DataW.weightsAll P e l
  | d' :: r, d, hd, n, hn => by
    simp only [DataW.weightsAll, List.mem_append]
    rcases List.mem_cons.1 hd with rfl | h
    · exact Or.inl hn
    · exact Or.inr (weightsAll_memA h n hn)

def strOfA : Value → ByteArray
  | .string s => s
  | _ => default
theorem rcs_of {H : Type} {enc : TypeId × Value → H} {W : World} {v : Value} {d : DataW H} {p : List MemPlace} {fuel : Nat}
    (h : DataW.trod enc Yba.prog W 0 (fun _ => true) true fuel 54 [v] = some (d, p)) (hw : ∀ n ∈ d.weights Yba.prog 54, n ≤ reachBytes) :
    ∃ q : (Option Addr × Nat × Nat) × List RawR, v = .slice q.1.1 q.1.2.1 q.1.2.2 ∧ q.1.2.1 ≤ 140737488355328 ∧ RcsIn W q.1.1 q.1.2.1 q.2 := by
  rcases Go.Deep.open_slice_pairs Yba.underlying54 Yba.underlying61 (by kernel_rfl) rfl rfl (by kernel_rfl) (by kernel_rfl) h with ⟨hcs, _⟩ | ⟨x, l, c, m, n, V0, V1, D0, D1, P0, P1, hcs, _, hl, hm, hmm, hd, hcell⟩
  · simp at hcs
    exact ⟨((none, 0, 0), []), hcs, by simp, rfl, .inl rfl⟩
  · simp at hcs
    have hlm : l ≤ m := by rw [hmm]; simpa using hl
    have hdl : l ≤ 140737488355328 := by
      simp only [Prod.mk.injEq] at hd
      obtain ⟨rfl, _⟩ := hd
      have := hw (((List.range l).map fun i => DataW.agg [D0 i, D1 i]).length * 24 + ((List.range (m - l)).map fun j => DataW.agg [D0 (l + j), D1 (l + j)]).length * 24) (by
        simp only [DataW.weights, Yba.underlying54, Yba.bytes61, List.mem_cons]
        left
        rw [Nat.add_mul])
      rw [reachA] at this
      simp at this
      omega
    have each : ∀ i, i < l → ∃ (g : Int) (s : ByteArray), V0 i = .int .u16 g ∧ V1 i = .string s ∧ 0 ≤ g ∧ g ≤ 65535 := by
      intro i hi
      obtain ⟨_, _, t0, t1⟩ := hcell i (by omega)
      obtain ⟨g, e0, _, wg⟩ := DataW.trod_int Yba.underlying59 t0
      obtain ⟨s, e1, _⟩ := DataW.trod_string Yba.underlying9 t1
      exact ⟨g, s, by simpa using e0, by simpa using e1, bounds_u16 wg⟩
    have hget : ∀ i, i < l → ((List.range l).map fun i => (intOf (V0 i), strOfA (V1 i))).getD i (0, default) = (intOf (V0 i), strOfA (V1 i)) := by
      intro i hi
      simp [hi]
    refine ⟨((some x, l, c), (List.range l).map fun i => (intOf (V0 i), strOfA (V1 i))), hcs, hdl, by simp, ?_⟩
    by_cases hz : l = 0
    · exact .inl hz
    · obtain ⟨b, off, spot⟩ := x
      have hspot : spot = none := by have := (hcell 0 (by omega)).1; simpa [Addr.add] using World.cell?_spot this
      subst hspot
      have hadd : ∀ j, (⟨b, off, none⟩ : Addr).add j = ⟨b, off + j, none⟩ := fun j => add_plain _ _ _
      refine .inr ⟨b, off, rfl, World.block_lt_of_cell? W _ (hcell 0 (by omega)).1, fun i hi => ?_⟩
      obtain ⟨g, s, e0, e1, hg⟩ := each i hi
      have hi' : i < l := hi
      show W.cell? _ = some (.int .u16 (((List.range l).map fun i => (intOf (V0 i), strOfA (V1 i))).getD i (0, default)).1) ∧ _
      rw [hget i hi']
      have h0 := (hcell i (by omega)).1
      have h1 := (hcell i (by omega)).2.1
      rw [hadd, e0] at h0
      rw [hadd, e1] at h1
      rw [e0, e1]
      exact ⟨h0, h1, hg⟩

theorem evs_of {H : Type} {enc : TypeId × Value → H} {W : World} {a : Option Addr} {len cap : Nat} {d : DataW H} {p : List MemPlace} {fuel : Nat}
    (h : DataW.trod enc Yba.prog W 0 (fun _ => true) true fuel 22 [.slice a len cap] = some (d, p)) (hw : ∀ n ∈ d.weights Yba.prog 22, n ≤ reachBytes) : len ≤ 140737488355328 ∧ ∃ E, EvsIn W a len E := by
  rcases Go.Deep.open_slice_pairs Yba.underlying22 Yba.underlying56 (by kernel_rfl) rfl rfl (by kernel_rfl) (by kernel_rfl) h with ⟨hcs, _⟩ | ⟨x, l, c, m, n, V0, V1, D0, D1, P0, P1, hcs, _, hl, hm, hmm, hd, hcell⟩
  · simp at hcs
    obtain ⟨rfl, rfl, rfl⟩ := hcs
    exact ⟨by simp, [], rfl, .inl rfl⟩
  · simp at hcs
    obtain ⟨rfl, rfl, rfl⟩ := hcs
    have hlm : len ≤ m := by rw [hmm]; simpa using hl
    simp only [Prod.mk.injEq] at hd
    obtain ⟨rfl, _⟩ := hd
    have hdl : len ≤ 140737488355328 := by
      have := hw (((List.range len).map fun i => DataW.agg [D0 i, D1 i]).length * 32 + ((List.range (m - len)).map fun j => DataW.agg [D0 (len + j), D1 (len + j)]).length * 32) (by
        simp only [DataW.weights, Yba.underlying22, Yba.bytes56, List.mem_cons]
        left
        rw [Nat.add_mul])
      rw [reachA] at this
      simp at this
      omega
    have each : ∀ i, i < len → ∃ q : (Option Addr × Nat × Nat) × List RawR, V1 i = .slice q.1.1 q.1.2.1 q.1.2.2 ∧ q.1.2.1 ≤ 140737488355328 ∧ RcsIn W q.1.1 q.1.2.1 q.2 := by
      intro i hi
      obtain ⟨_, _, t0, t1⟩ := hcell i (by omega)
      refine rcs_of t1 fun n hn => hw n ?_
      simp only [DataW.weights, Yba.underlying22, List.mem_cons, List.mem_append]
      refine .inr (.inl (weightsAll_memA (d := .agg [D0 i, D1 i]) (List.mem_map.2 ⟨i, List.mem_range.2 hi, rfl⟩) n ?_))
      simp only [DataW.weights, Yba.underlying56]
      exact DataW.weights_mem_each (j := 1) (t := 54) rfl rfl n hn
    obtain ⟨q, hq⟩ := Go.Deep.choose_lt each
    have hget : ∀ i, i < len → ((List.range len).map fun i => (intOf (V0 i), (q i).2)).getD i (0, []) = (intOf (V0 i), (q i).2) := by
      intro i hi
      simp [hi]
    refine ⟨hdl, (List.range len).map fun i => (intOf (V0 i), (q i).2), by simp, ?_⟩
    by_cases hz : len = 0
    · exact .inl hz
    · obtain ⟨b, off, spot⟩ := x
      have hspot : spot = none := by have := (hcell 0 (by omega)).1; simpa [Addr.add] using World.cell?_spot this
      subst hspot
      have hadd : ∀ j, (⟨b, off, none⟩ : Addr).add j = ⟨b, off + j, none⟩ := fun j => add_plain _ _ _
      refine .inr ⟨b, off, rfl, World.block_lt_of_cell? W _ (hcell 0 (by omega)).1, fun i hi => ?_⟩
      rw [hget i hi]
      obtain ⟨h0, h1, t0, t1⟩ := hcell i (by omega)
      obtain ⟨g, e0, _, wg⟩ := DataW.trod_int Yba.underlying5 t0
      have e0' : V0 i = .int .u8 g := by simpa using e0
      obtain ⟨k0, k1, k2⟩ := hq i hi
      rw [hadd, e0'] at h0
      rw [hadd, k0] at h1
      rw [e0']
      exact ⟨h0, (bounds_u8 wg).1, (bounds_u8 wg).2, _, _, _, k1, h1, k2⟩
end Go.Proofs.Ybulkbpqa
