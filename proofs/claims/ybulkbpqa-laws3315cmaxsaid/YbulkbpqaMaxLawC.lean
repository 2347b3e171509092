/- The walk of 'LawS3315CMax' (function 6). -/
import Derived.Test.YbulkbpqaMaxC
namespace Go.Proofs.Ybulkbpqa
open Go.RowKit Cl

set_option maxRecDepth 100000 in
set_option maxHeartbeats 1000000 in
theorem equal_zero (a1 a2 : Option Addr) (cap1 cap2 : Nat) (w : World) :
    Calls Yba.prog 14 #[.slice a1 0 cap1, .slice a2 0 cap2] w fun e w' => e = .returned (.bool true) ∧ w' = w := by
  go_enter Yba.func14, Yba.ntmps14
  go_wp2
  refine wp_loop_rounds 1 ?_
  rw [rounds_succ]
  go_wp2
  go_ret
  exact ⟨rfl, rfl⟩
set_option maxRecDepth 100000 in
set_option maxHeartbeats 1000000 in
theorem equal_len' (a1 a2 : Option Addr) (l1 l2 cap1 cap2 : Nat) (w : World) (hl : (l1 : Int) ≠ l2) :
    Calls Yba.prog 14 #[.slice a1 l1 cap1, .slice a2 l2 cap2] w fun e w' => e = .returned (.bool false) ∧ w' = w := by
  have h : ((l1 : Int) != (l2 : Int)) = true := by simpa using hl
  clear hl
  go_enter Yba.func14, Yba.ntmps14
  go_wp2
  go_ret
  exact ⟨rfl, rfl⟩
/-- 'slices.Equal(m, d)', m a slice that the call owns, it may be nil. -/
theorem equal_owned (b2 cap2 base : Nat) (v : Value) (c1 c2 : List (Int × Int)) (w : World) (hlen : c1.length ≤ 4096) (H1 : w.ownsRow base 48 2 v c1.length (flat c1)) (H2 : ClkAt w.heap.size w b2 c2) :
    Calls Yba.prog 14 #[v, .slice (some ⟨b2, 0, none⟩) c2.length cap2] w fun e w' => e = .returned (.bool (decide (c1 = c2))) ∧ Below w.heap.size w w' := by
  have H1' := H1
  rcases H1.2 with ⟨rfl, hz⟩ | ⟨g, cap, cur, rfl, _⟩
  · obtain rfl : c1 = [] := List.length_eq_zero_iff.1 hz
    by_cases h2 : c2 = []
    · subst h2
      refine (equal_zero none (some ⟨b2, 0, none⟩) 0 cap2 w).mono ?_
      rintro e w' ⟨rfl, rfl⟩
      exact ⟨rfl, Below.refl _ _⟩
    · have : c2.length ≠ 0 := fun e => h2 (List.length_eq_zero_iff.1 e)
      refine (equal_len' none (some ⟨b2, 0, none⟩) 0 c2.length 0 cap2 w (by omega)).mono ?_
      rintro e w' ⟨rfl, rfl⟩
      exact ⟨by rw [decide_eq_false (fun e => h2 e.symm)], Below.refl _ _⟩
  · exact equal_any g b2 cap cap2 c1 c2 w hlen (clkAt_of_owns H1') H2

theorem exc_snd (c d : List (Int × Int)) (hc : Up c) (hd : Up d) : (exc c d).2 = !decide (mx c d = d) := by
  unfold exc
  cases h : c.find? (rise d) with
  | none =>
    have := (mx_eq hc hd).2 (fun x hx => by have := List.find?_eq_none.1 h x hx; simpa using this)
    simp [this]
  | some x =>
    have h1 := List.find?_some h
    have h2 := List.mem_of_find?_eq_some h
    have : ¬ mx c d = d := fun e => by have := (mx_eq hc hd).1 e x h2; rw [h1] at this; cases this
    simp [this]

set_option maxRecDepth 100000 in
set_option maxHeartbeats 2000000 in
theorem max_small (aa ab : Option Addr) (la ca lb cb : Nat) (xs ys : List (Int × Int)) (w : World) (ha : Ents w aa la xs) (hb : Ents w ab lb ys) (hla : la ≤ 1024) (hlb : lb ≤ 1024) :
    Calls Yba.prog 6 #[.slice aa la ca, .slice ab lb cb] w fun e w' => e = .returned (.bool true) ∧ Below w.heap.size w w' := by
  have ta : decide (1024 < (la : Int)) = false := decide_eq_false (by omega)
  have tb : decide (1024 < (lb : Int)) = false := decide_eq_false (by omega)
  go_enter Yba.func6, Yba.ntmps6
  go_wp2_with fail
  refine (cbuild_any aa la ca true xs _ ha hla).mono ?_
  rintro e w1 ⟨rfl, own1, bel1⟩
  have hb1 := hb.below bel1
  go_wp2_with fail
  refine (cbuild_any ab lb cb true ys _ hb1 hlb).mono ?_
  rintro e w2 ⟨rfl, own2, bel2⟩
  have hlx : (bld true (-1) xs).length = la := by rw [bld_length]; exact ha.1
  have hly : (bld true (-1) ys).length = lb := by rw [bld_length]; exact hb.1
  have C1 := clkAt_of_owns own1
  have D2 := clkAt_of_owns own2
  have uC := bld_up true (-1) xs
  have uD := bld_up true (-1) ys
  clear own1 own2 ha hb hb1
  generalize bld true (-1) xs = c at *
  generalize bld true (-1) ys = d at *
  subst hlx hly
  have C2 := C1.later bel2
  have bel : Below w.heap.size w w2 := bel1.trans (bel2.mono bel1.size)
  generalize hz : w.heap.size = bc at *
  have HB : Hid (w.heap.size = bc) := hz
  clear hz
  generalize w1.heap.size = bd at *
  clear C1 bel1 bel2
  go_wp2_with fail
  refine (exceeds_any bc bd _ _ c d uD uC hla hlb _ C2 D2).mono ?_
  rintro e w3 ⟨rfl, bel3⟩
  have hx2 := exc_snd c d uC uD
  generalize exc c d = ex at *
  obtain ⟨ev, okv⟩ := ex
  dsimp only at hx2
  dsimp only
  have HX : Hid (okv = !decide (mx c d = d)) := hx2
  clear hx2
  have C3 := C2.later bel3
  have D3 := D2.later bel3
  go_wp2_with fail
  have bel4 : Below w2.heap.size w2 (w3.alloc (.cells #[.int .i64 ev.1, .int .i64 ev.2] 48)) := bel3.alloc bel3.size _
  refine (maxClock_any bc bd c d _ hla hlb (C2.later bel4) (D2.later bel4)).mono ?_
  rintro e w5 ⟨v, rfl, own5, bel5⟩
  have D5 := (D2.later bel4).later bel5
  have hbc : bc ≤ w2.heap.size := Nat.le_of_lt C2.1
  go_wp2_with fail
  refine (equal_owned bd _ _ v (mx c d) d _ (by have := mxF_length (c.length + d.length) c d; unfold mx; omega) own5 D5).mono ?_
  rintro e w6 ⟨rfl, bel6⟩
  generalize hq : decide (mx c d = d) = q at *
  clear hq
  have hX : okv = !q := HX.out
  subst hX
  go_wp2
  go_ret
  refine ⟨?_, ?_⟩
  · cases q <;> rfl
  · rw [HB.out]
    exact ((bel.trans (bel4.mono hbc)).trans (bel5.mono (Nat.le_trans hbc bel4.size))).trans (bel6.mono (Nat.le_trans (Nat.le_trans hbc bel4.size) bel5.size))

set_option maxRecDepth 100000 in
set_option maxHeartbeats 1000000 in
theorem max_big (aa ab : Option Addr) (la ca lb cb : Nat) (w : World) (h : 1024 < la ∨ 1024 < lb) :
    Calls Yba.prog 6 #[.slice aa la ca, .slice ab lb cb] w fun e w' => e = .returned (.bool true) ∧ Below w.heap.size w w' := by
  by_cases h1 : 1024 < la
  · have ta : decide (1024 < (la : Int)) = true := decide_eq_true (by omega)
    clear h h1
    go_enter Yba.func6, Yba.ntmps6
    go_wp2
    go_ret
    exact ⟨rfl, Below.refl _ _⟩
  · have ta : decide (1024 < (la : Int)) = false := decide_eq_false (by omega)
    have tb : decide (1024 < (lb : Int)) = true := decide_eq_true (by omega)
    clear h h1
    go_enter Yba.func6, Yba.ntmps6
    go_wp2
    go_ret
    exact ⟨rfl, Below.refl _ _⟩

theorem max_any (aa ab : Option Addr) (la ca lb cb : Nat) (xs ys : List (Int × Int)) (w : World) (ha : Ents w aa la xs) (hb : Ents w ab lb ys) :
    Calls Yba.prog 6 #[.slice aa la ca, .slice ab lb cb] w fun e w' => e = .returned (.bool true) ∧ Below w.heap.size w w' := by
  by_cases h : 1024 < la ∨ 1024 < lb
  · exact max_big aa ab la ca lb cb w h
  · exact max_small aa ab la ca lb cb xs ys w ha hb (by omega) (by omega)
end Go.Proofs.Ybulkbpqa
