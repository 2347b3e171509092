/- The walk of 'zzs3315atoobig' (function 7). -/
import Derived.Test.YbulkbpqaPlainA
namespace Go.Proofs.Ybulkbpqa
open Go.RowKit

set_option maxRecDepth 100000 in
set_option maxHeartbeats 400000 in
theorem big_some (b off len cap : Nat) (E : List RawE) (w : World) (hl : E.length = len) (hlen : len ≤ 1024) (hb : b < w.heap.size)
    (hE : ∀ i, i < len → w.cell? ⟨b, off + i * 2, none⟩ = some (.int .u8 (E.getD i (0, [])).1) ∧ (E.getD i (0, [])).2.length ≤ 140737488355328 ∧ ∃ ro rc, w.cell? ⟨b, off + i * 2 + 1, none⟩ = some (.slice ro (E.getD i (0, [])).2.length rc)) :
    Calls Yba.prog 7 #[.slice (some ⟨b, off, none⟩) len cap] w fun e w' => (∃ t, e = .returned (.bool t) ∧ (t = false → len ≤ 1024 ∧ totA E len ≤ 4096)) ∧ Below w.heap.size w w' := by
  go_enter Yba.func7, Yba.ntmps7
  go_wp2
  go_loopw [3, 11] (fun tot i wr => ∃ k : Nat, k ≤ len ∧ i = .int .i64 k ∧ tot = .int .i64 (totA E k) ∧ totA E k ≤ 4096 ∧ Below w.heap.size w wr)
    (fun _ i _ => len - (intOf i).toNat)
  case atStart => exact ⟨0, Nat.zero_le _, rfl, rfl, by simp [totA], Below.refl _ _⟩
  case round =>
    obtain ⟨k, hk, rfl, rfl, htot, hnx⟩ := hrel
    by_cases hlt : k < len
    · obtain ⟨q0, hm0, ro, rc, q1⟩ := hE k hlt
      have c0 := (hnx.cell (p := ⟨b, off + k * 2, none⟩) hb).trans q0
      have c1 := (hnx.cell (p := ⟨b, off + k * 2 + 1, none⟩) hb).trans q1
      have HT : Hid (totA E (k + 1) = totA E k + (E.getD k (0, [])).2.length) := rfl
      clear q0 q1 hE
      obtain ⟨m, hm⟩ : ∃ m, (E.getD k (0, [])).2.length = m := ⟨_, rfl⟩
      rw [hm] at c1 HT hm0
      clear hm
      generalize (E.getD k (0, [])).1 = g at c0
      obtain ⟨T, HTe⟩ : ∃ T, totA E k = T := ⟨_, rfl⟩
      rw [HTe] at htot HT ⊢
      clear HTe
      by_cases hbig : T + m ≤ 4096
      · go_wp2
        go_roundw
        case rel => exact ⟨k + 1, by omega, by go_num, by rw [HT.out]; go_num, by rw [HT.out]; exact hbig, hnx.alloc hnx.size _⟩
        case measure => simp [intOf]; omega
      · go_wp2
        go_ret
        exact ⟨⟨true, rfl, fun h => by cases h⟩, hnx.alloc hnx.size _⟩
    · obtain rfl : k = len := by omega
      go_wp2
      go_ret
      exact ⟨⟨false, rfl, fun _ => ⟨hlen, htot⟩⟩, hnx⟩

theorem big_long (ao : Option Addr) (len cap : Nat) (w : World) (hlen : 1024 < len) (hmax : len ≤ 140737488355328) :
    Calls Yba.prog 7 #[.slice ao len cap] w fun e w' => e = .returned (.bool true) ∧ w' = w := by
  go_enter Yba.func7, Yba.ntmps7
  go_wp2
  go_ret
  exact ⟨rfl, rfl⟩

theorem big_none (ao : Option Addr) (cap : Nat) (w : World) :
    Calls Yba.prog 7 #[.slice ao 0 cap] w fun e w' => e = .returned (.bool false) ∧ w' = w := by
  go_enter Yba.func7, Yba.ntmps7
  go_wp2
  refine wp_loop_rounds 1 ?_
  rw [rounds_succ]
  go_wp2
  go_ret
  exact ⟨rfl, rfl⟩

theorem big_any (ao : Option Addr) (len cap : Nat) (E : List RawE) (w : World) (h : EvsIn w ao len E) (hmax : len ≤ 140737488355328) :
    Calls Yba.prog 7 #[.slice ao len cap] w fun e w' => (∃ t, e = .returned (.bool t) ∧ (t = false → len ≤ 1024 ∧ totA E len ≤ 4096)) ∧ Below w.heap.size w w' := by
  obtain ⟨hl, h⟩ := h
  by_cases h1 : len ≤ 1024
  · rcases h with rfl | ⟨b, off, rfl, hlt, h⟩
    · refine (big_none ao cap w).mono ?_
      rintro e w' ⟨rfl, rfl⟩
      exact ⟨⟨false, rfl, fun _ => ⟨by omega, by simp [totA]⟩⟩, Below.refl _ _⟩
    · refine big_some b off len cap E w hl h1 hlt fun i hi => ?_
      obtain ⟨c0, _, _, ro, rl, rc, hm, c1, hr⟩ := h i hi
      rw [hr.1]
      exact ⟨c0, hm, ro, rc, c1⟩
  · refine (big_long ao len cap w (by omega) hmax).mono ?_
    rintro e w' ⟨rfl, rfl⟩
    exact ⟨⟨true, rfl, fun h => by cases h⟩, Below.refl _ _⟩
end Go.Proofs.Ybulkbpqa
