/- 'slices.Grow' at nil, 'maxClock' at nil (functions 22, 15). -/
import Derived.Test.YbulkbpqaEqC
import Derived.Test.YbulkbpqaMaxPlainC
import Derived.Lib.AppendZeros
namespace Go.Proofs.Ybulkbpqa
open Go.RowKit Cl

set_option maxRecDepth 100000 in
set_option maxHeartbeats 1000000 in
theorem grow_zero (w : World) : Calls Yba.prog 22 #[.slice none 0 0, .int .i64 0] w fun e w' => e = .returned (.slice none 0 0) ∧ w' = w := by
  go_enter Yba.func22, Yba.ntmps22
  go_wp2
  go_ret
  exact ⟨rfl, rfl⟩

set_option maxRecDepth 100000 in
set_option maxHeartbeats 1000000 in
theorem grow_pos (n : Nat) (hn : 0 < n) (hlen : n ≤ 4096) (w : World) : Calls Yba.prog 22 #[.slice none 0 0, .int .i64 n] w fun e w' =>
    ∃ cap, e = .returned (.slice (some ⟨w.heap.size, 0, none⟩) 0 cap) ∧ w'.ownsRow w.heap.size 48 2 (.slice (some ⟨w.heap.size, 0, none⟩) 0 cap) 0 [] ∧ Below w.heap.size w w' := by
  obtain ⟨i0, hi, hz0, hz1, hz2⟩ := info_parts Yba.info48
  have hap := Lib.run_append_nil_zeros (P := Yba.prog) w 44 3 44 48 i0 _ .i64 .i64 Yba.underlying44 Yba.underlying3 hi hz0 n hn (by rw [hz1]; decide) (by omega) (by rw [hz2]; omega)
  have hge := grownCap_ge w n 0 48
  have hle := grownCap_le_maxLen w n 0 48 (by unfold maxLen; omega)
  obtain ⟨cap, hcap⟩ : ∃ cap, grownCap w n 0 48 = cap := ⟨_, rfl⟩
  rw [hcap] at hap hge hle
  clear hcap
  go_enter Yba.func22, Yba.ntmps22
  go_wp2_with (at_builtin; refine Lib.wpList_append_run _ rfl (.tmp 20) (.tmp 21) 44 3 rfl _ _ rfl rfl _ _ hap ?_)
  go_ret
  refine ⟨cap, rfl, World.ownsRow.drew (World.ownsRow_made w _ cap (Nat.le_refl _) hle ?_), ((Below.refl _ _).alloc (Nat.le_refl _) _).drew⟩
  have hs := fun k => size_zeroCells #[Value.int IntKind.i64 0, Value.int IntKind.i64 0] k
  rw [Array.size_append, hs, hs]
  simp
  omega

theorem cells_new1 (W : World) (u v : Value) (t : TypeId) : ∀ (j : Nat) (x : Value), [u, v][j]? = some x → (W.alloc (.cells #[u, v] t)).cell? ((⟨W.heap.size, 0, none⟩ : Addr).add j) = some x := by
  intro j x hj
  match j, hj with
  | 0, hj => simp at hj; subst hj; simp [Addr.add]
  | 1, hj => simp at hj; subst hj; simp [Addr.add]
theorem cells_new3 (w : World) (A B : Obj) (u v : Value) (t : TypeId) (j : Nat) (x : Value) (hj : [u, v][j]? = some x) : ((((w.alloc A).alloc B).alloc (.cells #[u, v] t)).drew).cell? ((⟨w.heap.size + 1 + 1, 0, none⟩ : Addr).add j) = some x := by
  have h := cells_new1 ((w.alloc A).alloc B) u v t j x hj
  simp only [World.size_alloc] at h
  exact h
theorem two_one (a b : Int) : ∀ u ∈ [Value.int .i64 a, Value.int .i64 b], u.oneCell' = true := by
  intro u hu
  simp at hu
  rcases hu with rfl | rfl <;> rfl

theorem max_below {w wr w2 : World} {v : Value} {n : Nat} {xs : List Value} {A B C : Obj} (hnx : Below w.heap.size w wr) (hown : wr.ownsRow w.heap.size 48 2 v n xs) (hgrow : ((((wr.alloc A).alloc B).alloc C).drew).grownBy w2 v.ownBlock) : Below w.heap.size w w2 :=
  ((((hnx.alloc hnx.size _).alloc (by have := hnx.size; simp; omega) _).alloc (by have := hnx.size; simp; omega) _).drew).grown hgrow (by have := hnx.size; simp; omega) (fun k hk => (hown.lt k hk).1)

theorem ClkAt.newsFrom {w : World} {b : Nat} {cs : List (Int × Int)} (h : ClkAt w.heap.size w b cs) (i : Nat) : ∀ j u, (flat (cs.drop i))[j]? = some u → w.cell? ((⟨b, i * 2, none⟩ : Addr).add j) = some u := by
  intro j u hj
  have hadd : (⟨b, i * 2, none⟩ : Addr).add j = ⟨b, i * 2 + j, none⟩ := by unfold Addr.add; split <;> simp_all
  have hadd' : (⟨b, 0, none⟩ : Addr).add (i * 2 + j) = ⟨b, i * 2 + j, none⟩ := by unfold Addr.add; split <;> simp_all
  rw [hadd, ← hadd']
  refine h.news _ u ?_
  have hd : flat (cs.drop i) = (flat cs).drop (i * 2) := by
    by_cases hi : i ≤ cs.length
    · have : flat cs = flat (cs.take i) ++ flat (cs.drop i) := by rw [← flat_append, List.take_append_drop]
      rw [this, List.drop_left' (by rw [flat_length, List.length_take]; omega)]
    · rw [List.drop_eq_nil_of_le (by omega), List.drop_eq_nil_of_le (by rw [flat_length]; omega)]
      rfl
  rw [hd, List.getElem?_drop] at hj
  exact hj
theorem grow_any (n : Nat) (hlen : n ≤ 4096) (w : World) : Calls Yba.prog 22 #[.slice none 0 0, .int .i64 n] w fun e w' =>
    ∃ v, e = .returned v ∧ w'.ownsRow w.heap.size 48 2 v 0 [] ∧ Below w.heap.size w w' := by
  by_cases h : n = 0
  · subst h
    refine (grow_zero w).mono ?_
    rintro e w' ⟨rfl, rfl⟩
    exact ⟨_, rfl, World.ownsRow_nil _ _ _ _, Below.refl _ _⟩
  · refine (grow_pos n (by omega) hlen w).mono ?_
    rintro e w' ⟨cap, rfl, h1, h2⟩
    exact ⟨_, rfl, h1, h2⟩

set_option maxRecDepth 100000 in
set_option maxHeartbeats 2000000 in
theorem maxClock_any (bc bd : Nat) (c d : List (Int × Int)) (w : World) (hlc : c.length ≤ 1024) (hld : d.length ≤ 1024) (HC : ClkAt w.heap.size w bc c) (HD : ClkAt w.heap.size w bd d) :
    Calls Yba.prog 15 #[.slice none 0 0, .slice (some ⟨bc, 0, none⟩) c.length c.length, .slice (some ⟨bd, 0, none⟩) d.length d.length] w fun e w' =>
      ∃ v, e = .returned v ∧ w'.ownsRow w.heap.size 48 2 v (mx c d).length (flat (mx c d)) ∧ Below w.heap.size w w' := by
  obtain ⟨i0, hi, hz0, hz1, hz2⟩ := info_parts Yba.info48
  go_enter Yba.func15, Yba.ntmps15
  go_wp2_with fail
  have e : ((c.length : Int) + (d.length : Int)) = ((c.length + d.length : Nat) : Int) := by omega
  rw [e]
  clear e
  refine (grow_any (c.length + d.length) (by omega) _).mono ?_
  rintro e w1 ⟨v1, rfl, own1, bel1⟩
  go_wp2_with fail
  go_loopw [0, 7, 8] (fun v si sj wr => ∃ (i j : Nat) (out : List (Int × Int)), i ≤ c.length ∧ j ≤ d.length ∧ si = .int .i64 i ∧ sj = .int .i64 j ∧ wr.ownsRow w.heap.size 48 2 v out.length (flat out) ∧ Hid (MxAt c d i j out) ∧ Below w.heap.size w wr)
    (fun _ si sj _ => (c.length - (intOf si).toNat) + (d.length - (intOf sj).toNat))
  case atStart => exact ⟨0, 0, [], Nat.zero_le _, Nat.zero_le _, rfl, rfl, own1, MxAt.start c d, bel1⟩
  case round =>
    obtain ⟨i, j, out, hi', hj', rfl, rfl, hown, HM, hnx⟩ := hrel
    have hol : out.length ≤ c.length + d.length := HM.out.length_le
    by_cases hij : i < c.length ∧ j < d.length
    · obtain ⟨hic, hjd⟩ := hij
      have c0 : wr.cell? ⟨bc, i * 2, none⟩ = some (.int .i64 (c.getD i (0, 0)).1) := (HC.later hnx).2.1 i hic
      have c1 : wr.cell? ⟨bc, i * 2 + 1, none⟩ = some (.int .i64 (c.getD i (0, 0)).2) := (HC.later hnx).2.2 i hic
      have d0 : wr.cell? ⟨bd, j * 2, none⟩ = some (.int .i64 (d.getD j (0, 0)).1) := (HD.later hnx).2.1 j hjd
      have d1 : wr.cell? ⟨bd, j * 2 + 1, none⟩ = some (.int .i64 (d.getD j (0, 0)).2) := (HD.later hnx).2.2 j hjd
      obtain ⟨x, hx⟩ : ∃ x, c.getD i (0, 0) = x := ⟨_, rfl⟩
      obtain ⟨y, hy⟩ : ∃ y, d.getD j (0, 0) = y := ⟨_, rfl⟩
      rw [hx] at c0 c1
      rw [hy] at d0 d1
      have Hx : Hid (c.getD i (0, 0) = x) := hx
      have Hy : Hid (d.getD j (0, 0) = y) := hy
      clear hx hy
      have hbc := (HC.later hnx).1
      have hbd := (HD.later hnx).1
      by_cases he : x.1 = y.1
      · have t1 : (x.1 == y.1) = true := by simpa using he
        have He : Hid (x.1 = y.1) := he
        clear he
        by_cases hm : x.2 < y.2
        · have HB : Hid (MxAt c d (i + 1) (j + 1) (out ++ [(x.1, y.2)])) := by have := HM.out.both hic hjd Hx.out Hy.out He.out; rwa [show max x.2 y.2 = y.2 by omega] at this
          go_wp2_with fail
          go_region
          all_goals
            go_wp2_with (at_builtin; refine wpList_append_own _ rfl (.tmp 63) (.tmp 65) 44 rfl w.heap.size 48 i0 _ 2 16 Yba.underlying44 hi hz0 hz1 hz2 rfl (by decide) _ out.length (flat out) rfl (((hown.alloc _).alloc _).alloc _).drew ⟨wr.heap.size + 1 + 1, 0, none⟩ 1 1 [.int .i64 x.1, .int .i64 y.2] rfl rfl (cells_new3 _ _ _ _ _ _) (two_one _ _) (by unfold maxLen; omega) (by omega) (by have := hnx.size; simp; omega) ?_; intro v' w2 hown' hgrow hnv)
            go_roundw
            case rel => exact ⟨i + 1, j + 1, out ++ [(x.1, y.2)], by omega, by omega, by go_num, by go_num, by rw [flat_append, List.length_append]; exact hown', HB, max_below hnx hown hgrow⟩
            case measure => simp [intOf]; omega
        · have HB : Hid (MxAt c d (i + 1) (j + 1) (out ++ [(x.1, x.2)])) := by have := HM.out.both hic hjd Hx.out Hy.out He.out; rwa [show max x.2 y.2 = x.2 by omega] at this
          go_wp2_with fail
          go_region
          all_goals
            go_wp2_with (at_builtin; refine wpList_append_own _ rfl (.tmp 63) (.tmp 65) 44 rfl w.heap.size 48 i0 _ 2 16 Yba.underlying44 hi hz0 hz1 hz2 rfl (by decide) _ out.length (flat out) rfl (((hown.alloc _).alloc _).alloc _).drew ⟨wr.heap.size + 1 + 1, 0, none⟩ 1 1 [.int .i64 x.1, .int .i64 x.2] rfl rfl (cells_new3 _ _ _ _ _ _) (two_one _ _) (by unfold maxLen; omega) (by omega) (by have := hnx.size; simp; omega) ?_; intro v' w2 hown' hgrow hnv)
            go_roundw
            case rel => exact ⟨i + 1, j + 1, out ++ [(x.1, x.2)], by omega, by omega, by go_num, by go_num, by rw [flat_append, List.length_append]; exact hown', HB, max_below hnx hown hgrow⟩
            case measure => simp [intOf]; omega
      · have t1 : (x.1 == y.1) = false := by simpa using he
        by_cases hl : x.1 < y.1
        · have HB : Hid (MxAt c d (i + 1) j (out ++ [(x.1, x.2)])) := HM.out.left hic hjd Hx.out Hy.out hl
          clear he
          go_wp2_with fail
          go_region
          all_goals
            go_wp2_with (at_builtin; refine wpList_append_own _ rfl (.tmp 63) (.tmp 65) 44 rfl w.heap.size 48 i0 _ 2 16 Yba.underlying44 hi hz0 hz1 hz2 rfl (by decide) _ out.length (flat out) rfl (((hown.alloc _).alloc _).alloc _).drew ⟨wr.heap.size + 1 + 1, 0, none⟩ 1 1 [.int .i64 x.1, .int .i64 x.2] rfl rfl (cells_new3 _ _ _ _ _ _) (two_one _ _) (by unfold maxLen; omega) (by omega) (by have := hnx.size; simp; omega) ?_; intro v' w2 hown' hgrow hnv)
            go_roundw
            case rel => exact ⟨i + 1, j, out ++ [(x.1, x.2)], by omega, by omega, by go_num, rfl, by rw [flat_append, List.length_append]; exact hown', HB, max_below hnx hown hgrow⟩
            case measure => simp [intOf]; omega
        · have HB : Hid (MxAt c d i (j + 1) (out ++ [(y.1, y.2)])) := HM.out.right hic hjd Hx.out Hy.out he hl
          clear he
          go_wp2_with fail
          go_region
          all_goals
            go_wp2_with (at_builtin; refine wpList_append_own _ rfl (.tmp 63) (.tmp 65) 44 rfl w.heap.size 48 i0 _ 2 16 Yba.underlying44 hi hz0 hz1 hz2 rfl (by decide) _ out.length (flat out) rfl (((hown.alloc _).alloc _).alloc _).drew ⟨wr.heap.size + 1 + 1, 0, none⟩ 1 1 [.int .i64 y.1, .int .i64 y.2] rfl rfl (cells_new3 _ _ _ _ _ _) (two_one _ _) (by unfold maxLen; omega) (by omega) (by have := hnx.size; simp; omega) ?_; intro v' w2 hown' hgrow hnv)
            go_roundw
            case rel => exact ⟨i, j + 1, out ++ [(y.1, y.2)], by omega, by omega, rfl, by go_num, by rw [flat_append, List.length_append]; exact hown', HB, max_below hnx hown hgrow⟩
            case measure => simp [intOf]; omega
    · have hcases : (i < c.length ∧ j = d.length) ∨ (i = c.length ∧ j < d.length) ∨ (i = c.length ∧ j = d.length) := by omega
      have HO : Hid (out ++ (c.drop i ++ d.drop j) = mx c d) := HM.out.over hij
      clear hij
      rcases hcases with ⟨hic, rfl⟩ | ⟨rfl, hjd⟩ | ⟨rfl, rfl⟩
      · go_wp2_with (first | (at_builtin; refine wpList_append_own _ rfl (.tmp 67) (.tmp 70) 44 rfl w.heap.size 48 i0 _ 2 16 Yba.underlying44 hi hz0 hz1 hz2 rfl (by decide) _ out.length (flat out) rfl hown ⟨bc, i * 2, none⟩ (c.length - i) (c.length - i) (flat (c.drop i)) rfl (by rw [flat_length]; simp) ((HC.later hnx).newsFrom i) (flat_one _) (by unfold maxLen; omega) (by omega) hnx.size ?_; intro v2 w2 hown1 hgrow1 _) | (at_builtin; refine wpList_append_own _ rfl (.tmp 72) (.tmp 75) 44 rfl w.heap.size 48 i0 _ 2 16 Yba.underlying44 hi hz0 hz1 hz2 rfl (by decide) _ _ _ rfl hown1 _ 0 0 [] rfl rfl (by simp) (by simp) (by unfold maxLen; omega) (by omega) (Nat.le_trans hnx.size hgrow1.size) ?_; intro v3 w3 hown2 hgrow2 _))
        go_ret
        refine ⟨v3, rfl, ?_, (hnx.grown hgrow1 hnx.size (fun k hk => (hown.lt k hk).1)).grown hgrow2 (Nat.le_trans hnx.size hgrow1.size) (fun k hk => (hown1.lt k hk).1)⟩
        rw [← HO.out]
        simpa [flat_append, Nat.add_assoc] using hown2
      · go_wp2_with (first | (at_builtin; refine wpList_append_own _ rfl (.tmp 67) (.tmp 70) 44 rfl w.heap.size 48 i0 _ 2 16 Yba.underlying44 hi hz0 hz1 hz2 rfl (by decide) _ out.length (flat out) rfl hown _ 0 0 [] rfl rfl (by simp) (by simp) (by unfold maxLen; omega) (by omega) hnx.size ?_; intro v2 w2 hown1 hgrow1 _) | (at_builtin; refine wpList_append_own _ rfl (.tmp 72) (.tmp 75) 44 rfl w.heap.size 48 i0 _ 2 16 Yba.underlying44 hi hz0 hz1 hz2 rfl (by decide) _ _ _ rfl hown1 ⟨bd, j * 2, none⟩ (d.length - j) (d.length - j) (flat (d.drop j)) rfl (by rw [flat_length]; simp) ((HD.later (hnx.grown hgrow1 hnx.size (fun k hk => (hown.lt k hk).1))).newsFrom j) (flat_one _) (by unfold maxLen; omega) (by omega) (Nat.le_trans hnx.size hgrow1.size) ?_; intro v3 w3 hown2 hgrow2 _))
        go_ret
        refine ⟨v3, rfl, ?_, (hnx.grown hgrow1 hnx.size (fun k hk => (hown.lt k hk).1)).grown hgrow2 (Nat.le_trans hnx.size hgrow1.size) (fun k hk => (hown1.lt k hk).1)⟩
        rw [← HO.out]
        simpa [flat_append, Nat.add_assoc] using hown2
      · go_wp2_with (first | (at_builtin; refine wpList_append_own _ rfl (.tmp 67) (.tmp 70) 44 rfl w.heap.size 48 i0 _ 2 16 Yba.underlying44 hi hz0 hz1 hz2 rfl (by decide) _ out.length (flat out) rfl hown _ 0 0 [] rfl rfl (by simp) (by simp) (by unfold maxLen; omega) (by omega) hnx.size ?_; intro v2 w2 hown1 hgrow1 _) | (at_builtin; refine wpList_append_own _ rfl (.tmp 72) (.tmp 75) 44 rfl w.heap.size 48 i0 _ 2 16 Yba.underlying44 hi hz0 hz1 hz2 rfl (by decide) _ _ _ rfl hown1 _ 0 0 [] rfl rfl (by simp) (by simp) (by unfold maxLen; omega) (by omega) (Nat.le_trans hnx.size hgrow1.size) ?_; intro v3 w3 hown2 hgrow2 _))
        go_ret
        refine ⟨v3, rfl, ?_, (hnx.grown hgrow1 hnx.size (fun k hk => (hown.lt k hk).1)).grown hgrow2 (Nat.le_trans hnx.size hgrow1.size) (fun k hk => (hown1.lt k hk).1)⟩
        rw [← HO.out]
        simpa [flat_append, Nat.add_assoc] using hown2
end Go.Proofs.Ybulkbpqa
