/- 'rises', 'rises$1' (functions 21, 27): the iterator's contract. -/
import Derived.RangeFuncNested
import Derived.RangeFuncBound
import Derived.RangeFuncCalls
import Derived.RangeFuncLeaves
import Derived.Shelf.Abstract
import Derived.Shelf.RegionOpen
import Derived.WalkKit
import Derived.OwnWalkIn
import Derived.TacticsInMore
import Derived.LoopNIn
import Derived.LoopIn
import Derived.Sort.QuietIn
import Derived.Test.YbulkbpqaProg
import Derived.Test.YbulkbpqaRiseC
namespace Go.Proofs.Ybulkbpqa
open Go.RowKit Go.Shelf Cl
attribute [local go_sem] Oper.semAt_some

/-- a clock at the head of block b -/
def ClkAt (n₀ : Nat) (W : World) (b : Nat) (cs : List (Int × Int)) : Prop :=
  b < n₀ ∧ (∀ i, i < cs.length → W.cell? ⟨b, i * 2, none⟩ = some (.int .i64 (cs.getD i (0, 0)).1)) ∧ ∀ i, i < cs.length → W.cell? ⟨b, i * 2 + 1, none⟩ = some (.int .i64 (cs.getD i (0, 0)).2)
theorem ClkAt.below {n₀ : Nat} {A B : World} {b : Nat} {cs : List (Int × Int)} (h : ClkAt n₀ A b cs) (hb : Below n₀ A B) : ClkAt n₀ B b cs :=
  ⟨h.1, fun i hi => (hb.cell (p := ⟨b, i * 2, none⟩) h.1).trans (h.2.1 i hi), fun i hi => (hb.cell (p := ⟨b, i * 2 + 1, none⟩) h.1).trans (h.2.2 i hi)⟩

set_option maxHeartbeats 1000000 in
theorem rises_in (F : Fence) (n : Nat) (h21 : F.fn 21) (hro : F.round = none) (ac ad : Option Addr) (lc cc ld cd : Nat) (w : World) :
    CallsIn F n Yba.prog 21 #[.slice ac lc cc, .slice ad ld cd] w fun e w' => e = .returned (.func (.func 27) #[] #[.pointer (some ⟨w.heap.size, 0, none⟩), .pointer (some ⟨w.heap.size + 1, 0, none⟩)]) ∧ w' = (w.alloc (.cells #[.slice ac lc cc] 44)).alloc (.cells #[.slice ad ld cd] 44) := by
  refine callsIn_of_wp Yba.func21 rfl h21 ?_ hro
  simp only [Yba.ntmps21, List.size_toArray, List.length_cons, List.length_nil, Nat.reduceAdd, Nat.reduceSub, Array.replicate_succ, Array.replicate_zero, List.push_toArray, List.append_toArray, List.nil_append, List.cons_append]
  gi_wp2
  go_ret
  exact ⟨rfl, rfl⟩

theorem grownBy_drewN' (w : World) (q : Nat) : w.grownBy (w.drewN q) none := ⟨rfl, rfl, rfl, Nat.le_refl _, fun _ _ _ => rfl⟩
theorem below_drewN' (B : Nat) (w : World) (q : Nat) : Below B w (w.drewN q) := ⟨rfl, rfl, rfl, Nat.le_refl _, fun _ _ => rfl⟩

theorem low_next {c d : List (Int × Int)} {x : Int × Int} {j k : Nat} (hu : Up c) (hx : c.getD k (0, 0) = x) (hl : ∀ q, q < j → (d.getD q (0, 0)).1 < x.1) :
    ∀ q, q < j → ∀ m, k + 1 ≤ m → m < c.length → (d.getD q (0, 0)).1 < (c.getD m (0, 0)).1 := by
  intro q hq m hm hmc
  have h1 := hl q hq
  have h2 := up_get hu (show k < m by omega) hmc
  rw [hx] at h2
  omega

set_option maxRecDepth 100000 in
set_option maxHeartbeats 2000000 in
theorem rises1_in (n : Nat) (hn : 1 ≤ n) (l Bc Bd n₀ bc bd capc capd : Nat) (c d : List (Int × Int)) (hu : Up d) (huc : Up c) (hlc : c.length ≤ 1024) (hld : d.length ≤ 1024)
    (hBd : Bd < n₀) (J Jx : List (Int × Int) → World → Prop)
    (W : World) (hn₀ : n₀ ≤ W.heap.size) (hJ : AbidesFrom W.heap.size J)
    (hY : ∀ pre x W1, J pre W1 → pre.length < c.length → YieldAt Fence.wide (n - 1) Yba.prog l #[.agg #[.int .i64 x.1, .int .i64 x.2]] W1 fun e W' =>
      (e = .returned (.bool true) ∧ J (pre ++ [x]) W' ∧ Below n₀ W1 W') ∨ (e = .returned (.bool false) ∧ Jx (pre ++ [x]) W'))
    (cBc : W.cell? ⟨Bc, 0, none⟩ = some (.slice (some ⟨bc, 0, none⟩) c.length capc)) (cBd : W.cell? ⟨Bd, 0, none⟩ = some (.slice (some ⟨bd, 0, none⟩) d.length capd))
    (hC : ClkAt n₀ W bc c) (hD : ClkAt n₀ W bd d) (h0 : J [] W) :
    CallsIn Fence.wide n Yba.prog 27 #[.func (.yield l) #[] #[], .pointer (some ⟨Bc, 0, none⟩), .pointer (some ⟨Bd, 0, none⟩)] W fun e W' => (∃ v, e = .returned v) ∧
      ((∃ ys, ys = c.filter (rise d) ∧ J ys W') ∨ (∃ pre, pre <+: c.filter (rise d) ∧ Jx pre W')) := by
  refine callsIn_of_wp Yba.func27 rfl trivial ?_ rfl
  simp only [Yba.ntmps27, List.size_toArray, List.length_cons, List.length_nil, Nat.reduceAdd, Nat.reduceSub, Array.replicate_succ, Array.replicate_zero, List.push_toArray, List.append_toArray, List.nil_append, List.cons_append]
  gi_wp2
  gi_loopw [4, 9] (fun j i wr => ∃ jn k : Nat, jn ≤ d.length ∧ k ≤ c.length ∧ j = .int .i64 jn ∧ i = .int .i64 k ∧ Hid (∀ q, q < jn → ∀ m, k ≤ m → m < c.length → (d.getD q (0, 0)).1 < (c.getD m (0, 0)).1) ∧ J (rs c d k) wr ∧ Below n₀ W wr)
    (fun _ i _ => c.length - (intOf i).toNat)
  case atStart => exact ⟨0, 0, Nat.zero_le _, Nat.zero_le _, rfl, rfl, (fun q hq => absurd hq (Nat.not_lt_zero _)), by simpa [rs] using h0, Below.refl _ _⟩
  case round =>
    obtain ⟨j0, k, hj0, hk, rfl, rfl, Hlow, hJs, hnx⟩ := hrel
    have hsz : n₀ ≤ wr.heap.size := Nat.le_trans hn₀ hnx.size
    obtain ⟨wo, rfl⟩ : ∃ wo, wo = wr := ⟨_, rfl⟩
    by_cases hlt : k < c.length
    · have c0 : wo.cell? ⟨bc, k * 2, none⟩ = some (.int .i64 (c.getD k (0, 0)).1) := (hnx.cell (p := ⟨bc, k * 2, none⟩) hC.1).trans (hC.2.1 k hlt)
      have c1 : wo.cell? ⟨bc, k * 2 + 1, none⟩ = some (.int .i64 (c.getD k (0, 0)).2) := (hnx.cell (p := ⟨bc, k * 2 + 1, none⟩) hC.1).trans (hC.2.2 k hlt)
      obtain ⟨x, hx⟩ : ∃ x, c.getD k (0, 0) = x := ⟨_, rfl⟩
      rw [hx] at c0 c1
      have Hx : Hid (c.getD k (0, 0) = x) := hx
      clear hx
      gi_wp2
      gi_loopw [4] (fun j w2 => ∃ jn : Nat, jn ≤ d.length ∧ j = .int .i64 jn ∧ Hid (∀ q, q < jn → (d.getD q (0, 0)).1 < x.1) ∧ J (rs c d k) w2 ∧ Below n₀ W w2 ∧ w2.cell? ⟨wo.heap.size, 0, none⟩ = some (.int .i64 x.1) ∧ w2.cell? ⟨wo.heap.size, 1, none⟩ = some (.int .i64 x.2))
        (fun j _ => d.length - (intOf j).toNat)
      case atStart => exact ⟨j0, hj0, rfl, (fun q hq => by have := Hlow.out q hq k (Nat.le_refl _) hlt; rw [Hx.out] at this; exact this), hJ _ _ _ none hJs (World.grownBy_alloc wo _ none) (by simp), hnx.alloc hsz _, by simp, by simp⟩
      case round =>
        obtain ⟨j, hj, rfl, Hl, hJ2, hnx2, e0, e1⟩ := hrel
        have dB : wr.cell? ⟨Bd, 0, none⟩ = some (.slice (some ⟨bd, 0, none⟩) d.length capd) := (hnx2.cell (p := ⟨Bd, 0, none⟩) hBd).trans cBd
        by_cases hjl : j < d.length
        · have d0 : wr.cell? ⟨bd, j * 2, none⟩ = some (.int .i64 (d.getD j (0, 0)).1) := (hnx2.cell (p := ⟨bd, j * 2, none⟩) hD.1).trans (hD.2.1 j hjl)
          have d1 : wr.cell? ⟨bd, j * 2 + 1, none⟩ = some (.int .i64 (d.getD j (0, 0)).2) := (hnx2.cell (p := ⟨bd, j * 2 + 1, none⟩) hD.1).trans (hD.2.2 j hjl)
          obtain ⟨y, hy⟩ : ∃ y, d.getD j (0, 0) = y := ⟨_, rfl⟩
          rw [hy] at d0 d1
          have Hy : Hid (d.getD j (0, 0) = y) := hy
          clear hy
          by_cases hyx : y.1 < x.1
          · gi_wp2
            gi_quiet (fail)
            gi_wp2
            go_roundw
            case rel => exact ⟨j + 1, by omega, by go_num, (fun q hq => by
              by_cases e : q = j
              · subst e; rw [Hy.out]; exact hyx
              · exact Hl.out q (by omega)), hJ _ _ _ none hJ2 (grownBy_drewN' _ _) (by simp), hnx2.trans (below_drewN' _ _ _), by simpa using e0, by simpa using e1⟩
            case measure => simp [intOf]; omega
          · have hjd : ((j : Int) == (d.length : Int)) = false := beq_eq_false_iff_ne.2 (by omega)
            have Hend : Hid (x.1 ≤ (d.getD j (0, 0)).1) := by show x.1 ≤ (d.getD j (0, 0)).1; rw [Hy.out]; omega
            have HR : Hid (rise d x = true ↔ (j = d.length ∨ (d.getD j (0, 0)).1 ≠ x.1 ∨ (d.getD j (0, 0)).2 < x.2)) := rise_at hu hj Hl.out (.inr Hend.out)
            by_cases hno : y.1 = x.1 ∧ ¬ y.2 < x.2
            · have t1 : (y.1 != x.1) = false := by simp [hno.1]
              have t2 : decide (y.2 < x.2) = false := by simpa using hno.2
              have Hno : Hid (¬ rise d x = true) := by
                show ¬ rise d x = true
                rw [HR.out, Hy.out]
                rintro (h | h | h)
                · omega
                · exact h hno.1
                · exact hno.2 h
              clear hno HR
              gi_wp2
              gi_quiet (fail)
              gi_wp2
              gi_quiet (fail)
              gi_wp2
              go_roundw
              case rel => exact ⟨j, k + 1, hj, by omega, rfl, by go_num, low_next huc Hx.out Hl.out, by rw [rs_no hlt (by rw [Hx.out]; exact Hno.out)]; exact hJ _ _ _ none hJ2 (grownBy_drewN' _ _) (by simp), hnx2.trans (below_drewN' _ _ _)⟩
              case measure => simp [intOf]; omega
            · have Hyes : Hid (rise d x = true) := by
                show rise d x = true
                rw [HR.out, Hy.out]
                by_cases e : y.1 = x.1
                · exact .inr (.inr (by by_cases e2 : y.2 < x.2; exact e2; exact absurd ⟨e, e2⟩ hno))
                · exact .inr (.inl e)
              have hor : (y.1 != x.1) = true ∨ ((y.1 != x.1) = false ∧ decide (y.2 < x.2) = true) := by
                by_cases e : y.1 = x.1
                · exact .inr ⟨by simp [e], by by_cases e2 : y.2 < x.2; simpa using e2; exact absurd ⟨e, e2⟩ hno⟩
                · exact .inl (by simpa using e)
              clear hno HR
              rcases hor with t1 | ⟨t1, t2⟩
              all_goals
                gi_wp2
                gi_quiet (fail)
                obtain ⟨n1, rfl⟩ : ∃ n1, n1 = nq := ⟨_, rfl⟩
                gi_wp2
                gi_quiet (fail)
                obtain ⟨fn, tmps, assign, body, hy, hR⟩ := hY _ x _ (hJ _ _ (wr.drewN (n1 + nq)) none hJ2 (grownBy_drewN' _ _) (by simp)) (Nat.lt_of_le_of_lt (rs_length c d k) hlt)
                gi_wp2
                refine hR.mono ?_
                rintro e W3 (⟨rfl, hJ3, hk3⟩ | ⟨rfl, hJx3⟩)
                · gi_wp2
                  go_roundw
                  case rel => exact ⟨j, k + 1, hj, by omega, rfl, by go_num, low_next huc Hx.out Hl.out, by rw [rs_yes hlt (by rw [Hx.out]; exact Hyes.out), Hx.out]; exact hJ3, (hnx2.trans (below_drewN' _ _ _)).trans hk3⟩
                  case measure => simp [intOf]; omega
                · gi_wp2
                  refine bodyPost_ret (results_none rfl _ _ _) rfl ?_
                  exact ⟨⟨_, rfl⟩, .inr ⟨_, by have := rs_prefix c d (k + 1); rw [rs_yes hlt (by rw [Hx.out]; exact Hyes.out), Hx.out] at this; exact this, hJx3⟩⟩
        · obtain rfl : j = d.length := by omega
          have hjd : ((d.length : Int) == (d.length : Int)) = true := by simp
          have Hyes : Hid (rise d x = true) := (rise_at hu hj Hl.out (.inl rfl)).2 (.inl rfl)
          have hlf : decide ((d.length : Int) < (d.length : Int)) = false := by simp
          gi_wp2
          gi_quiet (fail)
          obtain ⟨n1, rfl⟩ : ∃ n1, n1 = nq := ⟨_, rfl⟩
          gi_wp2
          gi_quiet (fail)
          obtain ⟨fn, tmps, assign, body, hy, hR⟩ := hY _ x _ (hJ _ _ (wr.drewN (n1 + nq)) none hJ2 (grownBy_drewN' _ _) (by simp)) (Nat.lt_of_le_of_lt (rs_length c d k) hlt)
          gi_wp2
          refine hR.mono ?_
          rintro e W3 (⟨rfl, hJ3, hk3⟩ | ⟨rfl, hJx3⟩)
          · gi_wp2
            go_roundw
            case rel => exact ⟨d.length, k + 1, hj, by omega, rfl, by go_num, low_next huc Hx.out Hl.out, by rw [rs_yes hlt (by rw [Hx.out]; exact Hyes.out), Hx.out]; exact hJ3, (hnx2.trans (below_drewN' _ _ _)).trans hk3⟩
            case measure => simp [intOf]; omega
          · gi_wp2
            refine bodyPost_ret (results_none rfl _ _ _) rfl ?_
            exact ⟨⟨_, rfl⟩, .inr ⟨_, by have := rs_prefix c d (k + 1); rw [rs_yes hlt (by rw [Hx.out]; exact Hyes.out), Hx.out] at this; exact this, hJx3⟩⟩
    · obtain rfl : k = c.length := by omega
      gi_wp2
      go_end0
      exact ⟨⟨_, rfl⟩, .inl ⟨_, rfl, by rw [← rs_all]; exact hJs⟩⟩

theorem rises_stops (n : Nat) (hn : 1 ≤ n) (Bc Bd n₀ bc bd capc capd : Nat) (c d : List (Int × Int)) (hu : Up d) (huc : Up c) (hlc : c.length ≤ 1024) (hld : d.length ≤ 1024)
    (w : World) (hn₀ : n₀ ≤ w.heap.size) (hBc : Bc < n₀) (hBd : Bd < n₀)
    (cBc : w.cell? ⟨Bc, 0, none⟩ = some (.slice (some ⟨bc, 0, none⟩) c.length capc)) (cBd : w.cell? ⟨Bd, 0, none⟩ = some (.slice (some ⟨bd, 0, none⟩) d.length capd))
    (hC : ClkAt n₀ w bc c) (hD : ClkAt n₀ w bd d) :
    SeqStopsK Fence.wide n Yba.prog 27 #[.pointer (some ⟨Bc, 0, none⟩), .pointer (some ⟨Bd, 0, none⟩)] (fun x : Int × Int => #[Value.agg #[.int .i64 x.1, .int .i64 x.2]]) (Below n₀) (fun ys => ys = c.filter (rise d)) (fun pre => pre <+: c.filter (rise d)) c.length w :=
  fun l J Jx W hW hJ _ hY h0 =>
    rises1_in n hn l Bc Bd n₀ bc bd capc capd c d hu huc hlc hld hBd J Jx W (Nat.le_trans hn₀ hW.size) hJ hY ((hW.cell (p := ⟨Bc, 0, none⟩) (Nat.lt_of_lt_of_le hBc hn₀)).trans cBc)
      ((hW.cell (p := ⟨Bd, 0, none⟩) (Nat.lt_of_lt_of_le hBd hn₀)).trans cBd) (hC.below (hW.mono hn₀)) (hD.below (hW.mono hn₀)) h0

end Go.Proofs.Ybulkbpqa
