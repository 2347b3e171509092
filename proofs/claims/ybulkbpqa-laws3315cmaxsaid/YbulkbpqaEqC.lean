/- 'slices.Equal', 'slices.Clone' at clocks (functions 14, 12). -/
import Derived.Test.YbulkbpqaBuildC
import Derived.Test.YbulkbpqaExcC
import Derived.Laws.StructEq
import Derived.Deep.QuietTactic
import Derived.BigQuiet
import Derived.WalkSpells
namespace Go.Proofs.Ybulkbpqa
open Go.RowKit Cl

theorem guard48 : Yba.prog.eqGuardType Yba.prog.depth 48 = false := by kernel_rfl
theorem eql48 (x y : Int × Int) (w : World) : (binOp .eql 48 (.agg #[.int .i64 x.1, .int .i64 x.2]) (.agg #[.int .i64 y.1, .int .i64 y.2])).run Yba.prog w = .ok (.bool (decide (x = y))) w := by
  have u3 := Yba.underlying3
  have a3 := Yba.isAgg3
  have z3 := Yba.sizeOf3
  have hS : Yba.prog.underlying 48 = some (.struct (Yba.prog.fieldsOf 48)) := by kernel_rfl
  have hp : Yba.prog.stoodInHeld 48 = false := by kernel_rfl
  rw [run_eql_struct, show (10000 : Nat) = 9999 + 1 from rfl, run_equalIn_agg w 9999 48 _ _ hS hp]
  simp only [Program.fieldsOf, Yba.underlying48]
  obtain ⟨x1, x2⟩ := x
  obtain ⟨y1, y2⟩ := y
  go_simp
  by_cases h1 : x1 = y1 <;> by_cases h2 : x2 = y2 <;> simp [h1, h2]
theorem neq48 (x y : Int × Int) (w : World) : (binOp .neq 48 (.agg #[.int .i64 x.1, .int .i64 x.2]) (.agg #[.int .i64 y.1, .int .i64 y.2])).run Yba.prog w = .ok (.bool (!decide (x = y))) w := by
  have u3 := Yba.underlying3
  have a3 := Yba.isAgg3
  have z3 := Yba.sizeOf3
  have hS : Yba.prog.underlying 48 = some (.struct (Yba.prog.fieldsOf 48)) := by kernel_rfl
  have hp : Yba.prog.stoodInHeld 48 = false := by kernel_rfl
  rw [run_neq_struct, show (10000 : Nat) = 9999 + 1 from rfl, run_equalIn_agg w 9999 48 _ _ hS hp]
  simp only [Program.fieldsOf, Yba.underlying48]
  obtain ⟨x1, x2⟩ := x
  obtain ⟨y1, y2⟩ := y
  go_simp
  by_cases h1 : x1 = y1 <;> by_cases h2 : x2 = y2 <;> simp [h1, h2]

set_option maxRecDepth 100000 in
set_option maxHeartbeats 1000000 in
theorem equal_len (b1 b2 l1 l2 cap1 cap2 : Nat) (w : World) (hl : (l1 : Int) ≠ l2) :
    Calls Yba.prog 14 #[.slice (some ⟨b1, 0, none⟩) l1 cap1, .slice (some ⟨b2, 0, none⟩) l2 cap2] w fun e w' => e = .returned (.bool false) ∧ w' = w := by
  have h : ((l1 : Int) != (l2 : Int)) = true := by simpa using hl
  clear hl
  go_enter Yba.func14, Yba.ntmps14
  go_wp2
  go_ret
  exact ⟨rfl, rfl⟩

set_option maxRecDepth 100000 in
set_option maxHeartbeats 1000000 in
theorem equal_same (b1 b2 cap1 cap2 n : Nat) (c1 c2 : List (Int × Int)) (w : World) (h1 : c1.length = n) (h2 : c2.length = n) (hlen : n ≤ 4096) (H1 : ClkAt w.heap.size w b1 c1) (H2 : ClkAt w.heap.size w b2 c2) :
    Calls Yba.prog 14 #[.slice (some ⟨b1, 0, none⟩) n cap1, .slice (some ⟨b2, 0, none⟩) n cap2] w fun e w' => e = .returned (.bool (decide (c1 = c2))) ∧ ∃ q, w' = w.drewN q := by
  have hg := guard48
  go_enter Yba.func14, Yba.ntmps14
  go_wp2
  go_loopw [13, 5] (fun i _ wr => ∃ k : Nat, k ≤ n ∧ i = .int .i64 k ∧ Hid (c1.take k = c2.take k) ∧ ∃ q, wr = w.drewN q)
    (fun i _ _ => n - (intOf i).toNat)
  case atStart => exact ⟨0, Nat.zero_le _, rfl, rfl, 0, rfl⟩
  case round =>
    obtain ⟨k, hk, rfl, HT, q, rfl⟩ := hrel
    by_cases hlt : k < n
    · have a0 : w.cell? ⟨b1, k * 2, none⟩ = some (.int .i64 (c1.getD k (0, 0)).1) := H1.2.1 k (by omega)
      have a1 : w.cell? ⟨b1, k * 2 + 1, none⟩ = some (.int .i64 (c1.getD k (0, 0)).2) := H1.2.2 k (by omega)
      have d0 : w.cell? ⟨b2, k * 2, none⟩ = some (.int .i64 (c2.getD k (0, 0)).1) := H2.2.1 k (by omega)
      have d1 : w.cell? ⟨b2, k * 2 + 1, none⟩ = some (.int .i64 (c2.getD k (0, 0)).2) := H2.2.2 k (by omega)
      obtain ⟨x, hx⟩ : ∃ x, c1.getD k (0, 0) = x := ⟨_, rfl⟩
      obtain ⟨y, hy⟩ : ∃ y, c2.getD k (0, 0) = y := ⟨_, rfl⟩
      rw [hx] at a0 a1
      rw [hy] at d0 d1
      have Hx : Hid (c1.getD k (0, 0) = x) := hx
      have Hy : Hid (c2.getD k (0, 0) = y) := hy
      clear hx hy
      have hne := fun wx => neq48 x y wx
      by_cases hxy : x = y
      · have hb : decide (x = y) = true := by simpa using hxy
        simp only [hb, Bool.not_true] at hne
        clear hb
        have Hxy : Hid (x = y) := hxy
        clear hxy
        go_wp2
        go_quiet (fail)
        go_wp2
        go_roundw
        case rel => exact ⟨k + 1, by omega, by go_num, by show c1.take (k + 1) = c2.take (k + 1); rw [take_snoc c1 k (by omega), take_snoc c2 k (by omega), HT.out, Hx.out, Hy.out, Hxy.out], q + nq, rfl⟩
        case measure => simp [intOf]; omega
      · have hb : decide (x = y) = false := by simpa using hxy
        simp only [hb, Bool.not_false] at hne
        clear hb
        have Hxy : Hid (¬ x = y) := hxy
        clear hxy
        go_wp2
        go_quiet (fail)
        go_wp2
        go_ret
        exact ⟨by rw [decide_eq_false (fun e => Hxy.out (by rw [← Hx.out, ← Hy.out, e]))]; rfl, q + nq, World.drewN_drewN _ _ _⟩
    · obtain rfl : k = n := by omega
      go_wp2
      go_ret
      have e : c1 = c2 := by
        have := HT.out
        rwa [List.take_of_length_le (by omega), List.take_of_length_le (by omega)] at this
      exact ⟨by rw [decide_eq_true e]; rfl, q, rfl⟩

/-- 'slices.Equal(c1, c2)' at clocks. -/
theorem equal_any (b1 b2 cap1 cap2 : Nat) (c1 c2 : List (Int × Int)) (w : World) (hlen : c1.length ≤ 4096) (H1 : ClkAt w.heap.size w b1 c1) (H2 : ClkAt w.heap.size w b2 c2) :
    Calls Yba.prog 14 #[.slice (some ⟨b1, 0, none⟩) c1.length cap1, .slice (some ⟨b2, 0, none⟩) c2.length cap2] w fun e w' => e = .returned (.bool (decide (c1 = c2))) ∧ Below w.heap.size w w' := by
  by_cases hl : c1.length = c2.length
  · have h := equal_same b1 b2 cap1 cap2 c1.length c1 c2 w rfl hl.symm hlen H1 H2
    rw [← hl]
    refine h.mono ?_
    rintro e w' ⟨rfl, q, rfl⟩
    exact ⟨rfl, below_drewN' _ _ _⟩
  · refine (equal_len b1 b2 c1.length c2.length cap1 cap2 w (by omega)).mono ?_
    rintro e w' ⟨rfl, rfl⟩
    exact ⟨by rw [decide_eq_false (fun e => hl (by rw [e]))], Below.refl _ _⟩

/-- the cells of a clock that a row owns -/
theorem clkAt_of_owns {w : World} {base g n cap : Nat} {cs : List (Int × Int)} (h : w.ownsRow base 48 2 (.slice (some ⟨g, 0, none⟩) n cap) n (flat cs)) : ClkAt w.heap.size w g cs := by
  have hn : cs.length = n := by have := h.1; rw [flat_length] at this; omega
  refine ⟨(h.lt g rfl).2, fun i hi => ?_, fun i hi => ?_⟩
  · rw [h.cellAt (i * 2) (by omega), flat_even cs i hi]
  · rw [h.cellAt (i * 2 + 1) (by omega), flat_odd cs i hi]
theorem ClkAt.mono {n₀ n₁ : Nat} {W : World} {b : Nat} {cs : List (Int × Int)} (h : ClkAt n₀ W b cs) (hn : n₀ ≤ n₁) : ClkAt n₁ W b cs := ⟨Nat.lt_of_lt_of_le h.1 hn, h.2⟩
/-- a clock that lay in A lies in B -/
theorem ClkAt.later {A B : World} {b : Nat} {cs : List (Int × Int)} (h : ClkAt A.heap.size A b cs) (hb : Below A.heap.size A B) : ClkAt B.heap.size B b cs := (h.below hb).mono hb.size
theorem ClkAt.news {w : World} {b : Nat} {cs : List (Int × Int)} (h : ClkAt w.heap.size w b cs) : ∀ j u, (flat cs)[j]? = some u → w.cell? ((⟨b, 0, none⟩ : Addr).add j) = some u := by
  intro j u hj
  have hadd : (⟨b, 0, none⟩ : Addr).add j = ⟨b, j, none⟩ := by unfold Addr.add; split <;> simp_all
  rw [hadd]
  have hlt : j < (flat cs).length := (List.getElem?_eq_some_iff.1 hj).1
  rw [flat_length] at hlt
  rcases Nat.mod_two_eq_zero_or_one j with h0 | h1
  · obtain ⟨i, rfl⟩ : ∃ i, j = i * 2 := ⟨j / 2, by omega⟩
    rw [h.2.1 i (by omega), ← flat_even cs i (by omega), hj]
  · obtain ⟨i, rfl⟩ : ∃ i, j = i * 2 + 1 := ⟨j / 2, by omega⟩
    rw [h.2.2 i (by omega), ← flat_odd cs i (by omega), hj]

set_option maxRecDepth 100000 in
set_option maxHeartbeats 1000000 in
/-- 'slices.Clone(c)' at a clock that is not nil. -/
theorem clone_any (b cap : Nat) (cs : List (Int × Int)) (w : World) (hlen : cs.length ≤ 4096) (H : ClkAt w.heap.size w b cs) :
    Calls Yba.prog 12 #[.slice (some ⟨b, 0, none⟩) cs.length cap] w fun e w' => ∃ g cap', e = .returned (.slice (some ⟨g, 0, none⟩) cs.length cap') ∧ ClkAt w'.heap.size w' g cs ∧ Below w.heap.size w w' := by
  obtain ⟨i0, hi, hz0, hz1, hz2⟩ := info_parts Yba.info48
  have hnil := fun wx => Lib.run_eql_slice_nil (P := Yba.prog) wx 44 48 (some ⟨b, 0, none⟩) cs.length cap 0 0 Yba.underlying44
  have H' : ClkAt (w.alloc (.cells #[] 48)).heap.size (w.alloc (.cells #[] 48)) b cs := H.later ((Below.refl _ _).alloc (Nat.le_refl _) _)
  go_enter Yba.func12, Yba.ntmps12
  go_wp2_with (at_builtin; refine wpList_append_own _ rfl _ _ 44 rfl w.heap.size 48 i0 _ 2 16 Yba.underlying44 hi hz0 hz1 hz2 rfl (by decide) _ 0 [] rfl (World.ownsRow_made w #[] 0 (Nat.le_refl _) (Nat.zero_le _) rfl) ⟨b, 0, none⟩ cs.length cap (flat cs) rfl (flat_length cs) H'.news (flat_one cs) ?c1 ?c2 ?c3 ?_)
  case c1 => unfold maxLen; omega
  case c2 => omega
  case c3 => simp
  intro v' w1 hown hgrow hnilv
  have hex : ∃ g cap', v' = .slice (some ⟨g, 0, none⟩) cs.length cap' := by
    rcases hown.2 with ⟨h, _⟩ | ⟨g, cap', cur, h, _⟩
    · exact absurd h hnilv
    · exact ⟨g, cap', h⟩
  obtain ⟨g, cap', hv⟩ := hex
  rw [hv] at hown
  rw [hv]
  clear hv hnilv
  go_wp2
  go_ret
  refine ⟨g, cap', rfl, clkAt_of_owns hown, ((Below.refl _ _).alloc (Nat.le_refl _) _).grown hgrow (by simp) (fun k hk => by simp [Value.ownBlock] at hk; omega)⟩
end Go.Proofs.Ybulkbpqa
