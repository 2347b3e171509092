/- The walk of 'LawS3315CModel' (function 5). -/
import Derived.Test.YbulkbpqaEqC
namespace Go.Proofs.Ybulkbpqa
open Go.RowKit Cl

theorem eql48' (a b c d : Int) (w : World) (h : a = c ∧ b = d) : (binOp .eql 48 (.agg #[.int .i64 a, .int .i64 b]) (.agg #[.int .i64 c, .int .i64 d])).run Yba.prog w = .ok (.bool true) w := by
  have := eql48 (a, b) (c, d) w
  simp only [h, decide_true] at this ⊢
  exact this

theorem rise_found {d : List (Int × Int)} {x y : Int × Int} {m : Nat} (hlow : ∀ q, q < m → (d.getD q (0, 0)).1 ≠ x.1) (hm : m < d.length) (hy : d.getD m (0, 0) = y) (he : y.1 = x.1) : rise d x = decide (y.2 < x.2) := by
  have : d.find? (fun z => z.1 == x.1) = some y := by
    rw [List.find?_eq_some_iff_getElem]
    have hy' : d[m] = y := by rw [← hy]; simp [hm]
    refine ⟨beq_iff_eq.2 he, m, hm, hy', fun k hk => ?_⟩
    have := hlow k hk
    simp only [List.getD_eq_getElem?_getD, List.getElem?_eq_getElem (show k < d.length by omega), Option.getD_some] at this
    simpa using this
  simp [rise, this]
theorem rise_none {d : List (Int × Int)} {x : Int × Int} (hlow : ∀ q, q < d.length → (d.getD q (0, 0)).1 ≠ x.1) : rise d x = true := by
  have : d.find? (fun z => z.1 == x.1) = none := by
    rw [List.find?_eq_none]
    intro y hy
    obtain ⟨k, hk, rfl⟩ := List.mem_iff_getElem.1 hy
    have := hlow k hk
    simp only [List.getD_eq_getElem?_getD, List.getElem?_eq_getElem hk, Option.getD_some] at this
    simpa using this
  simp [rise, this]
theorem none_next {c d : List (Int × Int)} {x : Int × Int} {k : Nat} (hx : c.getD k (0, 0) = x) (h : ∀ m, m < k → ¬ rise d (c.getD m (0, 0)) = true) (hr : ¬ rise d x = true) : ∀ m, m < k + 1 → ¬ rise d (c.getD m (0, 0)) = true := by
  intro m hm
  by_cases e : m = k
  · subst e; rw [hx]; exact hr
  · exact h m (by omega)
theorem exc_first {c d : List (Int × Int)} {x : Int × Int} {k : Nat} (h : ∀ m, m < k → ¬ rise d (c.getD m (0, 0)) = true) (hk : k < c.length) (hx : c.getD k (0, 0) = x) (hr : rise d x = true) : exc c d = (x, true) := by
  have : c.find? (rise d) = some x := by
    rw [List.find?_eq_some_iff_getElem]
    refine ⟨hr, k, hk, by rw [← hx]; simp [hk], fun m hm => ?_⟩
    have := h m hm
    simp only [List.getD_eq_getElem?_getD, List.getElem?_eq_getElem (show m < c.length by omega), Option.getD_some] at this
    simpa using this
  simp [exc, this]
theorem exc_all {c d : List (Int × Int)} (h : ∀ m, m < c.length → ¬ rise d (c.getD m (0, 0)) = true) : exc c d = ((0, 0), false) := by
  have : c.find? (rise d) = none := by
    rw [List.find?_eq_none]
    intro y hy
    obtain ⟨k, hk, rfl⟩ := List.mem_iff_getElem.1 hy
    have := h k hk
    simpa only [List.getD_eq_getElem?_getD, List.getElem?_eq_getElem hk, Option.getD_some] using this
  simp [exc, this]

set_option maxRecDepth 100000 in
set_option maxHeartbeats 2000000 in
theorem model_small (aa ab : Option Addr) (la ca lb cb : Nat) (xs ys : List (Int × Int)) (w : World) (ha : Ents w aa la xs) (hb : Ents w ab lb ys) (hla : la ≤ 1024) (hlb : lb ≤ 1024) :
    Calls Yba.prog 5 #[.slice aa la ca, .slice ab lb cb] w fun e w' => e = .returned (.bool true) ∧ Below w.heap.size w w' := by
  have hg := guard48
  have ta : decide (1024 < (la : Int)) = false := decide_eq_false (by omega)
  have tb : decide (1024 < (lb : Int)) = false := decide_eq_false (by omega)
  go_enter Yba.func5, Yba.ntmps5
  go_wp2_with fail
  refine (cbuild_any aa la ca false xs _ ha hla).mono ?_
  rintro e w1 ⟨rfl, own1, bel1⟩
  have hb1 := hb.below bel1
  go_wp2_with fail
  refine (cbuild_any ab lb cb false ys _ hb1 hlb).mono ?_
  rintro e w2 ⟨rfl, own2, bel2⟩
  have hlx : (bld false (-1) xs).length = la := by rw [bld_length]; exact ha.1
  have hly : (bld false (-1) ys).length = lb := by rw [bld_length]; exact hb.1
  have C1 := clkAt_of_owns own1
  have D2 := clkAt_of_owns own2
  have uC := bld_up false (-1) xs
  have uD := bld_up false (-1) ys
  clear own1 own2 ha hb hb1
  generalize bld false (-1) xs = c at *
  generalize bld false (-1) ys = d at *
  subst hlx hly
  have C2 := C1.later bel2
  go_wp2_with fail
  refine (clone_any _ _ c _ (by omega) C2).mono ?_
  rintro e w3 ⟨g1, cp1, rfl, E3, bel3⟩
  go_wp2_with fail
  refine (clone_any _ _ d _ (by omega) (D2.later bel3)).mono ?_
  rintro e w4 ⟨g2, cp2, rfl, F4, bel4⟩
  have C4 := (C2.later bel3).later bel4
  have D4 := (D2.later bel3).later bel4
  have E4 := E3.later bel4
  have bel : Below w.heap.size w w4 := ((bel1.trans (bel2.mono bel1.size)).trans (bel3.mono (Nat.le_trans bel1.size bel2.size))).trans (bel4.mono (Nat.le_trans (Nat.le_trans bel1.size bel2.size) bel3.size))
  generalize hz : w.heap.size = bc at *
  have HB : Hid (w.heap.size = bc) := hz
  clear hz
  generalize w1.heap.size = bd at *
  clear C1 C2 D2 E3 bel1 bel2 bel3 bel4
  go_wp2_with fail
  refine (exceeds_any bc bd _ _ c d uD uC hla hlb _ C4 D4).mono ?_
  rintro e w5 ⟨rfl, bel5⟩
  obtain ⟨ev, okv, hexc⟩ : ∃ ev okv, exc c d = (ev, okv) := ⟨_, _, rfl⟩
  rw [hexc]
  have HX : Hid (exc c d = (ev, okv)) := hexc
  clear hexc
  dsimp only
  go_wp2_with fail
  have B1 := (Box2.new w5 ev).alloc (.cells #[.int .i64 0, .int .i64 0] 48)
  have B2 := Box2.new (w5.alloc (.cells #[.int .i64 ev.1, .int .i64 ev.2] 48)) (0, 0)
  have bel6 : Below w4.heap.size w4 ((w5.alloc (.cells #[.int .i64 ev.1, .int .i64 ev.2] 48)).alloc (.cells #[.int .i64 0, .int .i64 0] 48)) := (bel5.alloc bel5.size _).alloc (by have := bel5.size; simp; omega) _
  have hsz : w4.heap.size + 2 ≤ ((w5.alloc (.cells #[.int .i64 ev.1, .int .i64 ev.2] 48)).alloc (.cells #[.int .i64 0, .int .i64 0] 48)).heap.size := by have := bel5.size; simp; omega
  have hw5 := bel5.size
  simp only [World.size_alloc] at B2
  obtain ⟨W0, hW0⟩ : ∃ W0, (w5.alloc (.cells #[.int .i64 ev.1, .int .i64 ev.2] 48)).alloc (.cells #[.int .i64 0, .int .i64 0] 48) = W0 := ⟨_, rfl⟩
  rw [hW0] at B1 B2 bel6 hsz ⊢
  clear hW0 bel5
  generalize w5.heap.size = Be at *
  have C0 := C4.later bel6
  have D0 := D4.later bel6
  have hbc : bc ≤ w4.heap.size := Nat.le_of_lt C4.1
  have e0 := B1.c0
  have e1 := B1.c1
  go_loopw [12, 44] (fun wok i wr => ∃ k : Nat, k ≤ c.length ∧ i = .int .i64 k ∧ wok = .bool false ∧ Hid (∀ m, m < k → ¬ rise d (c.getD m (0, 0)) = true) ∧ Below W0.heap.size W0 wr)
    (fun _ i _ => c.length - (intOf i).toNat)
  case atStart => exact ⟨0, Nat.zero_le _, rfl, rfl, (fun m hm => absurd hm (Nat.not_lt_zero _)), Below.refl _ _⟩
  case round =>
    obtain ⟨k, hk, rfl, rfl, HN, hnx⟩ := hrel
    obtain ⟨wo, rfl⟩ : ∃ wo, wo = wr := ⟨_, rfl⟩
    by_cases hlt : k < c.length
    · have c0 : wo.cell? ⟨bc, k * 2, none⟩ = some (.int .i64 (c.getD k (0, 0)).1) := (C0.later hnx).2.1 k hlt
      have c1 : wo.cell? ⟨bc, k * 2 + 1, none⟩ = some (.int .i64 (c.getD k (0, 0)).2) := (C0.later hnx).2.2 k hlt
      obtain ⟨x, hx⟩ : ∃ x, c.getD k (0, 0) = x := ⟨_, rfl⟩
      rw [hx] at c0 c1
      have Hx : Hid (c.getD k (0, 0) = x) := hx
      clear hx
      go_wp2_with fail
      go_loopw [15, 16, 50] (fun v f i w2 => ∃ m : Nat, m ≤ d.length ∧ i = .int .i64 m ∧ v = .int .i64 0 ∧ f = .bool false ∧ Hid (∀ q, q < m → (d.getD q (0, 0)).1 ≠ x.1) ∧ Below W0.heap.size W0 w2 ∧ Box2 w2 wo.heap.size x)
        (fun _ _ i _ => d.length - (intOf i).toNat)
      case atStart => exact ⟨0, Nat.zero_le _, rfl, rfl, rfl, (fun m hm => absurd hm (Nat.not_lt_zero _)), hnx.alloc hnx.size _, Box2.new wo x⟩
      case round =>
        obtain ⟨m, hm, rfl, rfl, rfl, HL, hnx2, bX⟩ := hrel
        have x0 := bX.c0
        have x1 := bX.c1
        by_cases hml : m < d.length
        · have d0 : wr.cell? ⟨bd, m * 2, none⟩ = some (.int .i64 (d.getD m (0, 0)).1) := (D0.later hnx2).2.1 m hml
          have d1 : wr.cell? ⟨bd, m * 2 + 1, none⟩ = some (.int .i64 (d.getD m (0, 0)).2) := (D0.later hnx2).2.2 m hml
          obtain ⟨y, hy⟩ : ∃ y, d.getD m (0, 0) = y := ⟨_, rfl⟩
          rw [hy] at d0 d1
          have Hy : Hid (d.getD m (0, 0) = y) := hy
          clear hy
          have hXs := bX.lt
          have hne : wr.heap.size ≠ wo.heap.size := by omega
          by_cases he : y.1 = x.1
          · have t1 : (y.1 == x.1) = true := by simpa using he
            have HR : Hid (rise d x = decide (y.2 < x.2)) := rise_found HL.out hml Hy.out he
            clear he
            by_cases hv : y.2 < x.2
            · have Hyes : Hid (rise d x = true) := by show rise d x = true; rw [HR.out]; simpa using hv
              obtain ⟨rfl, rfl⟩ := Prod.mk.inj (HX.out.symm.trans (exc_first HN.out hlt Hx.out Hyes.out))
              have w0 := (hnx2.cell (p := ⟨Be + 1, 0, none⟩) B2.lt).trans B2.c0
              have w1 := (hnx2.cell (p := ⟨Be + 1, 1, none⟩) B2.lt).trans B2.c1
              have q0 := (hnx2.frozen (p := ⟨Be + 1, 0, none⟩) B2.lt).trans B2.f0
              have q1 := (hnx2.frozen (p := ⟨Be + 1, 1, none⟩) B2.lt).trans B2.f1
              have v0 := (hnx2.cell (p := ⟨Be, 0, none⟩) B1.lt).trans e0
              have v1 := (hnx2.cell (p := ⟨Be, 1, none⟩) B1.lt).trans e1
              dsimp only at w0 w1 v0 v1
              have hBl := Nat.lt_of_lt_of_le B2.lt hnx2.size
              have hBe : Be < wr.heap.size := by omega
              have hel := fun wx => eql48' ev.1 ev.2 ev.1 ev.2 wx ⟨rfl, rfl⟩
              go_wp2_with fail
              have bB : Below w4.heap.size w4 (((wr.setCell ⟨Be + 1, 0, none⟩ (.int .i64 ev.1)).setCell ⟨Be + 1, 1, none⟩ (.int .i64 ev.2)).alloc (.cells #[.int .i64 y.1, .int .i64 y.2] 48)) := (((bel6.trans (hnx2.mono (by omega))).setCell (p := ⟨Be + 1, 0, none⟩) (by show w4.heap.size ≤ Be + 1; omega) _).setCell (p := ⟨Be + 1, 1, none⟩) (by show w4.heap.size ≤ Be + 1; omega) _).alloc (by have := hnx2.size; simp; omega) _
              refine (equal_any bc g1 _ _ c c _ (by omega) (C4.later bB) (E4.later bB)).mono ?_
              rintro e w7 ⟨rfl, bel7⟩
              rw [decide_eq_true (rfl : c = c)]
              go_wp2_with fail
              refine (equal_any bd g2 _ _ d d _ (by omega) ((D4.later bB).later bel7) ((F4.later bB).later bel7)).mono ?_
              rintro e w8 ⟨rfl, bel8⟩
              rw [decide_eq_true (rfl : d = d)]
              go_wp2
              go_ret
              exact ⟨rfl, by rw [HB.out]; exact ((bel.trans (bB.mono hbc)).trans (bel7.mono (Nat.le_trans hbc bB.size))).trans (bel8.mono (Nat.le_trans (Nat.le_trans hbc bB.size) bel7.size))⟩
            · have Hno : Hid (¬ rise d x = true) := by show ¬ rise d x = true; rw [HR.out]; simpa using hv
              go_wp2
              go_roundw
              case rel => exact ⟨k + 1, by omega, by go_num, rfl, none_next Hx.out HN.out Hno.out, hnx2.alloc hnx2.size _⟩
              case measure => simp [intOf]; omega
          · have t1 : (y.1 == x.1) = false := by simpa using he
            have He : Hid (¬ y.1 = x.1) := he
            clear he
            go_wp2
            go_roundw
            case rel => exact ⟨m + 1, by omega, by go_num, rfl, rfl, (fun q hq => by
              by_cases e : q = m
              · subst e; rw [Hy.out]; exact He.out
              · exact HL.out q (by omega)), hnx2.alloc hnx2.size _, bX.alloc _⟩
            case measure => simp [intOf]; omega
        · obtain rfl : m = d.length := by omega
          have Hyes : Hid (rise d x = true) := rise_none HL.out
          obtain ⟨rfl, rfl⟩ := Prod.mk.inj (HX.out.symm.trans (exc_first HN.out hlt Hx.out Hyes.out))
          have w0 := (hnx2.cell (p := ⟨Be + 1, 0, none⟩) B2.lt).trans B2.c0
          have w1 := (hnx2.cell (p := ⟨Be + 1, 1, none⟩) B2.lt).trans B2.c1
          have q0 := (hnx2.frozen (p := ⟨Be + 1, 0, none⟩) B2.lt).trans B2.f0
          have q1 := (hnx2.frozen (p := ⟨Be + 1, 1, none⟩) B2.lt).trans B2.f1
          have v0 := (hnx2.cell (p := ⟨Be, 0, none⟩) B1.lt).trans e0
          have v1 := (hnx2.cell (p := ⟨Be, 1, none⟩) B1.lt).trans e1
          dsimp only at w0 w1 v0 v1
          have hBl := Nat.lt_of_lt_of_le B2.lt hnx2.size
          have hBe : Be < wr.heap.size := by omega
          have hel := fun wx => eql48' ev.1 ev.2 ev.1 ev.2 wx ⟨rfl, rfl⟩
          go_wp2_with fail
          have bB : Below w4.heap.size w4 ((wr.setCell ⟨Be + 1, 0, none⟩ (.int .i64 ev.1)).setCell ⟨Be + 1, 1, none⟩ (.int .i64 ev.2)) := ((bel6.trans (hnx2.mono (by omega))).setCell (p := ⟨Be + 1, 0, none⟩) (by show w4.heap.size ≤ Be + 1; omega) _).setCell (p := ⟨Be + 1, 1, none⟩) (by show w4.heap.size ≤ Be + 1; omega) _
          refine (equal_any bc g1 _ _ c c _ (by omega) (C4.later bB) (E4.later bB)).mono ?_
          rintro e w7 ⟨rfl, bel7⟩
          rw [decide_eq_true (rfl : c = c)]
          go_wp2_with fail
          refine (equal_any bd g2 _ _ d d _ (by omega) ((D4.later bB).later bel7) ((F4.later bB).later bel7)).mono ?_
          rintro e w8 ⟨rfl, bel8⟩
          rw [decide_eq_true (rfl : d = d)]
          go_wp2
          go_ret
          exact ⟨rfl, by rw [HB.out]; exact ((bel.trans (bB.mono hbc)).trans (bel7.mono (Nat.le_trans hbc bB.size))).trans (bel8.mono (Nat.le_trans (Nat.le_trans hbc bB.size) bel7.size))⟩
    · obtain rfl : k = c.length := by omega
      obtain ⟨rfl, rfl⟩ := Prod.mk.inj (HX.out.symm.trans (exc_all HN.out))
      have w0 := (hnx.cell (p := ⟨Be + 1, 0, none⟩) B2.lt).trans B2.c0
      have w1 := (hnx.cell (p := ⟨Be + 1, 1, none⟩) B2.lt).trans B2.c1
      have v0 := (hnx.cell (p := ⟨Be, 0, none⟩) B1.lt).trans e0
      have v1 := (hnx.cell (p := ⟨Be, 1, none⟩) B1.lt).trans e1
      dsimp only at w0 w1 v0 v1
      have hel := fun wx => eql48' 0 0 0 0 wx ⟨rfl, rfl⟩
      go_wp2_with fail
      have bB : Below w4.heap.size w4 wo := bel6.trans (hnx.mono (by omega))
      refine (equal_any bc g1 _ _ c c _ (by omega) (C4.later bB) (E4.later bB)).mono ?_
      rintro e w7 ⟨rfl, bel7⟩
      rw [decide_eq_true (rfl : c = c)]
      go_wp2_with fail
      refine (equal_any bd g2 _ _ d d _ (by omega) ((D4.later bB).later bel7) ((F4.later bB).later bel7)).mono ?_
      rintro e w8 ⟨rfl, bel8⟩
      rw [decide_eq_true (rfl : d = d)]
      go_wp2
      go_ret
      exact ⟨rfl, by rw [HB.out]; exact ((bel.trans (bB.mono hbc)).trans (bel7.mono (Nat.le_trans hbc bB.size))).trans (bel8.mono (Nat.le_trans (Nat.le_trans hbc bB.size) bel7.size))⟩

set_option maxRecDepth 100000 in
set_option maxHeartbeats 1000000 in
theorem model_big (aa ab : Option Addr) (la ca lb cb : Nat) (w : World) (h : 1024 < la ∨ 1024 < lb) :
    Calls Yba.prog 5 #[.slice aa la ca, .slice ab lb cb] w fun e w' => e = .returned (.bool true) ∧ Below w.heap.size w w' := by
  by_cases h1 : 1024 < la
  · have ta : decide (1024 < (la : Int)) = true := decide_eq_true (by omega)
    clear h h1
    go_enter Yba.func5, Yba.ntmps5
    go_wp2
    go_ret
    exact ⟨rfl, Below.refl _ _⟩
  · have ta : decide (1024 < (la : Int)) = false := decide_eq_false (by omega)
    have tb : decide (1024 < (lb : Int)) = true := decide_eq_true (by omega)
    clear h h1
    go_enter Yba.func5, Yba.ntmps5
    go_wp2
    go_ret
    exact ⟨rfl, Below.refl _ _⟩

theorem model_any (aa ab : Option Addr) (la ca lb cb : Nat) (xs ys : List (Int × Int)) (w : World) (ha : Ents w aa la xs) (hb : Ents w ab lb ys) :
    Calls Yba.prog 5 #[.slice aa la ca, .slice ab lb cb] w fun e w' => e = .returned (.bool true) ∧ Below w.heap.size w w' := by
  by_cases h : 1024 < la ∨ 1024 < lb
  · exact model_big aa ab la ca lb cb w h
  · exact model_small aa ab la ca lb cb xs ys w ha hb (by omega) (by omega)
end Go.Proofs.Ybulkbpqa
