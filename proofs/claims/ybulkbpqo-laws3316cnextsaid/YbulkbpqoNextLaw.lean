/- The walk of 'LawS3316CNext' (function 3). -/
import Derived.Test.YbulkbpqoWalk
import Derived.Deep.OwnRows
namespace Go.Proofs.Ybulkbpqo
open Go.RowKit Go.Deep

theorem Yba.info29 : (Yba.prog.info? 29).map (fun i => (i.zero, i.size, i.bytes)) = some (some (.agg #[.int .i64 0, .int .i64 0, .int .i64 0, .int .i64 0]), 4, 32) := by kernel_rfl

theorem rowIs_of_owns {w : World} {base e size g n : Nat} {xs : List Value} (h : w.ownsRow base e size (.slice (some ⟨g, 0, none⟩) n n) n xs) : ∃ f, w.rowIs g e (n * size) f := by
  rcases h.2 with ⟨h', _⟩ | ⟨g', cap', cur, h', _, hg, _, _, hsz, _⟩
  · simp at h'
  · simp only [Value.slice.injEq, Option.some.injEq, Addr.mk.injEq, and_true, true_and] at h'
    obtain ⟨rfl, rfl⟩ := h'
    exact ⟨fun k => cur.getD k undef, cur, hg, hsz, fun i hi => by
      have : i < cur.size := by omega
      simp [this]⟩

/-! ### plainly -/
/-- which of the others belongs to dimension i -/
def jOf (d i : Nat) : Nat := if i ≤ d then i else i - 1
theorem jOf_same (d : Nat) : jOf d (d + 1) = jOf d d := by unfold jOf; rw [if_neg (by omega), if_pos (by omega)]; omega
theorem jOf_other {d i : Nat} (h : i ≠ d) : jOf d (i + 1) = jOf d i + 1 := by
  unfold jOf
  by_cases e : i ≤ d
  · rw [if_pos e, if_pos (by omega)]
  · rw [if_neg e, if_neg (by omega)]; omega
theorem jOf_lt {d i len : Nat} (h : i ≠ d) (hi : i < len + 1) (hd : d < len + 1) : jOf d i < len := by
  unfold jOf
  split <;> omega
theorem jOf_le {d i len : Nat} (hi : i ≤ len + 1) (hd : d < len + 1) : jOf d i ≤ len := by
  unfold jOf
  split <;> omega
theorem jOf_zero (d : Nat) : jOf d 0 = 0 := by unfold jOf; rw [if_pos (Nat.zero_le _)]

theorem nxt_first {c x a0 e0 a1 e1 : Int} (hr : (a0 ≤ c ∧ c < e0) ∨ (a1 ≤ c ∧ c < e1)) (hg : e0 ≤ a1) (hle : a1 ≤ e1) (hcx : c < x) (hno : ∀ y, c < y → y < x → inB y a0 e0 a1 e1 = false) (hin : inB x a0 e0 a1 e1 = true) : nxt c a0 e0 a1 e1 = (x, true) := by
  have hx := of_decide_eq_true hin
  have h1 : c + 1 = x ∨ inB (c + 1) a0 e0 a1 e1 = false := by
    by_cases e : c + 1 = x
    · exact .inl e
    · exact .inr (hno _ (by omega) (by omega))
  unfold nxt
  by_cases e : c + 1 = e0
  · rw [if_pos e]
    have hxa : x = a1 := by
      have h2 : a1 ≤ x := by rcases hx with h | h <;> omega
      by_cases e2 : x = a1
      · exact e2
      · have := of_decide_eq_false (hno a1 (by omega) (by omega))
        omega
    rw [if_pos (by rcases hx with h | h <;> omega), hxa]
  · rw [if_neg e]
    have hxc : c + 1 = x := by
      rcases h1 with h | h
      · exact h
      · have := of_decide_eq_false h
        rcases hr with hr | hr
        · omega
        · rcases hx with h | h <;> omega
    rw [if_pos (by rcases hx with h | h <;> omega), hxc]
theorem nxt_never {c a0 e0 a1 e1 : Int} (hr : (a0 ≤ c ∧ c < e0) ∨ (a1 ≤ c ∧ c < e1)) (hg : e0 ≤ a1) (hno : ∀ y, c < y → y < e1 → inB y a0 e0 a1 e1 = false) : nxt c a0 e0 a1 e1 = (a0, false) := by
  unfold nxt
  by_cases e : c + 1 = e0
  · rw [if_pos e]
    by_cases e1' : a1 < e1
    · have := of_decide_eq_false (hno a1 (by omega) e1')
      omega
    · rw [if_neg e1']
  · rw [if_neg e]
    by_cases e1' : c + 1 < e1
    · have := of_decide_eq_false (hno (c + 1) (by omega) e1')
      omega
    · rw [if_neg e1']
theorem at_in {a0 a1 : Int} {l0 l1 k : Nat} (hk : k < l0 + l1) : (a0 ≤ at_ a0 a1 l0 k ∧ at_ a0 a1 l0 k < a0 + l0) ∨ (a1 ≤ at_ a0 a1 l0 k ∧ at_ a0 a1 l0 k < a1 + l1) := by
  unfold at_
  split <;> omega

theorem fill_step {w wr : World} {Bb len d i : Nat} {c a0 e0 a1 e1 v : Int} {z : Nat → Int} {fC fB : Nat → Value} (hN : w.heap.size < Bb) (hR : wr.rowIs w.heap.size 3 (len + 1) fC) (hS : wr.rowIs Bb 29 ((len + 1) * 4) fB)
    (HC : ∀ m, m < i → fC m = .int .i64 (if m = d then c else z (jOf d m))) (HB : ∀ m, m < i → fB (m * 4) = .int .i64 a0 ∧ fB (m * 4 + 1) = .int .i64 e0 ∧ fB (m * 4 + 2) = .int .i64 a1 ∧ fB (m * 4 + 3) = .int .i64 e1)
    (hnx : Below w.heap.size w wr) (hv : v = if i = d then c else z (jOf d i)) :
    ∃ fC' fB' : Nat → Value, (((((wr.setCell ⟨Bb, i * 4, none⟩ (.int .i64 a0)).setCell ⟨Bb, i * 4 + 1, none⟩ (.int .i64 e0)).setCell ⟨Bb, i * 4 + 2, none⟩ (.int .i64 a1)).setCell ⟨Bb, i * 4 + 3, none⟩ (.int .i64 e1)).setCell ⟨w.heap.size, i, none⟩ (.int .i64 v)).rowIs w.heap.size 3 (len + 1) fC' ∧
      (((((wr.setCell ⟨Bb, i * 4, none⟩ (.int .i64 a0)).setCell ⟨Bb, i * 4 + 1, none⟩ (.int .i64 e0)).setCell ⟨Bb, i * 4 + 2, none⟩ (.int .i64 a1)).setCell ⟨Bb, i * 4 + 3, none⟩ (.int .i64 e1)).setCell ⟨w.heap.size, i, none⟩ (.int .i64 v)).rowIs Bb 29 ((len + 1) * 4) fB' ∧
      Hid (∀ m, m < i + 1 → fC' m = .int .i64 (if m = d then c else z (jOf d m))) ∧ Hid (∀ m, m < i + 1 → fB' (m * 4) = .int .i64 a0 ∧ fB' (m * 4 + 1) = .int .i64 e0 ∧ fB' (m * 4 + 2) = .int .i64 a1 ∧ fB' (m * 4 + 3) = .int .i64 e1) ∧
      Below w.heap.size w (((((wr.setCell ⟨Bb, i * 4, none⟩ (.int .i64 a0)).setCell ⟨Bb, i * 4 + 1, none⟩ (.int .i64 e0)).setCell ⟨Bb, i * 4 + 2, none⟩ (.int .i64 a1)).setCell ⟨Bb, i * 4 + 3, none⟩ (.int .i64 e1)).setCell ⟨w.heap.size, i, none⟩ (.int .i64 v)) := by
  have hne : w.heap.size ≠ Bb := by omega
  have hne' : Bb ≠ w.heap.size := by omega
  refine ⟨_, _, ((((hR.setOther (a := ⟨Bb, i * 4, none⟩) hne _).setOther (a := ⟨Bb, i * 4 + 1, none⟩) hne _).setOther (a := ⟨Bb, i * 4 + 2, none⟩) hne _).setOther (a := ⟨Bb, i * 4 + 3, none⟩) hne _).set i _,
    ((((hS.set (i * 4) _).set (i * 4 + 1) _).set (i * 4 + 2) _).set (i * 4 + 3) _).setOther (a := ⟨w.heap.size, i, none⟩) hne' _, ?_, ?_, ?_⟩
  · intro m hm
    by_cases e : m = i
    · rw [if_pos e, e, hv]
    · rw [if_neg e]; exact HC m (by omega)
  · intro m hm
    by_cases e : m = i
    · subst e
      refine ⟨?_, ?_, ?_, ?_⟩
      · rw [if_neg (by omega), if_neg (by omega), if_neg (by omega), if_pos rfl]
      · rw [if_neg (by omega), if_neg (by omega), if_pos rfl]
      · rw [if_neg (by omega), if_pos rfl]
      · rw [if_pos rfl]
    · obtain ⟨h0, h1, h2, h3⟩ := HB m (by omega)
      refine ⟨?_, ?_, ?_, ?_⟩
      · rw [if_neg (by omega), if_neg (by omega), if_neg (by omega), if_neg (by omega)]; exact h0
      · rw [if_neg (by omega), if_neg (by omega), if_neg (by omega), if_neg (by omega)]; exact h1
      · rw [if_neg (by omega), if_neg (by omega), if_neg (by omega), if_neg (by omega)]; exact h2
      · rw [if_neg (by omega), if_neg (by omega), if_neg (by omega), if_neg (by omega)]; exact h3
  · exact ((((hnx.setCell (p := ⟨Bb, i * 4, none⟩) (Nat.le_of_lt hN) _).setCell (p := ⟨Bb, i * 4 + 1, none⟩) (Nat.le_of_lt hN) _).setCell (p := ⟨Bb, i * 4 + 2, none⟩) (Nat.le_of_lt hN) _).setCell (p := ⟨Bb, i * 4 + 3, none⟩) (Nat.le_of_lt hN) _).setCell (p := ⟨w.heap.size, i, none⟩) (Nat.le_refl _) _

set_option maxRecDepth 100000 in
set_option maxHeartbeats 4000000 in
theorem next_law (a0 : Int) (l0 g l1 pick dsel : Nat) (ao : Option Addr) (len cap : Nat) (z : Nat → Int) (w : World) (h0 : -32768 ≤ a0 ∧ a0 ≤ 32767) (h1 : l0 ≤ 255) (h2 : g ≤ 255) (h3 : l1 ≤ 255) (h4 : pick ≤ 65535) (h5 : dsel ≤ 255) (hlen : len ≤ 1024) (ht : l0 + l1 ≠ 0)
    (hz : ∀ k, k < len → ∃ b off, ao = some ⟨b, off, none⟩ ∧ b < w.heap.size ∧ w.cell? ⟨b, off + k, none⟩ = some (.int .i16 (z k)) ∧ -32768 ≤ z k ∧ z k ≤ 32767) :
    Calls Yba.prog 3 #[.int .i16 a0, .int .u8 l0, .int .u8 g, .int .u8 l1, .int .u16 pick, .int .u8 dsel, .slice ao len cap] w fun e w' => e = .returned (.bool true) ∧ Below w.heap.size w w' := by
  obtain ⟨i0, hi, hz0, hz1, hz2⟩ := info_parts Yba.info3
  obtain ⟨i9, hi9, hy0, hy1, hy2⟩ := info_parts Yba.info29
  have t0 : (((l0 : Int) + (l1 : Int)) == 0) = false := beq_eq_false_iff_ne.2 (by omega)
  have tlen : decide (1024 < (len : Int)) = false := decide_eq_false (by omega)
  obtain ⟨a1, ha1⟩ : ∃ a1 : Int, a0 + l0 + g = a1 := ⟨_, rfl⟩
  have hg : a0 + l0 ≤ a1 := by omega
  have hb1 : a1 ≤ 40000 := by omega
  obtain ⟨k, hk⟩ : ∃ k : Nat, (pick : Int) % ((l0 : Int) + (l1 : Int)) = k := Int.eq_ofNat_of_zero_le (Int.emod_nonneg _ (by omega))
  have hkl : k < l0 + l1 := by have := Int.emod_lt_of_pos (pick : Int) (show (0 : Int) < (l0 : Int) + (l1 : Int) by omega); omega
  obtain ⟨d, hd⟩ : ∃ d : Nat, (dsel : Int) % ((len : Int) + 1) = d := Int.eq_ofNat_of_zero_le (Int.emod_nonneg _ (by omega))
  have hdl : d < len + 1 := by have := Int.emod_lt_of_pos (dsel : Int) (show (0 : Int) < (len : Int) + 1 by omega); omega
  have hor : (k < l0 ∧ a0 + (k : Int) = at_ a0 a1 l0 k) ∨ (l0 ≤ k ∧ a1 + (k : Int) - (l0 : Int) = at_ a0 a1 l0 k) := by
    unfold at_
    by_cases h : k < l0
    · exact .inl ⟨h, by rw [if_pos h]⟩
    · exact .inr ⟨by omega, by rw [if_neg h]; omega⟩
  have hcin := at_in (a0 := a0) (a1 := a1) hkl
  have hcbd := at_bd h0 h1 h3 hb1 hg hkl
  obtain ⟨c, hc⟩ : ∃ c, at_ a0 a1 l0 k = c := ⟨_, rfl⟩
  rw [hc] at hor hcin hcbd
  have Hcin : Hid ((a0 ≤ c ∧ c < a0 + l0) ∨ (a1 ≤ c ∧ c < a1 + l1)) := hcin
  have hce : c < a1 + l1 := by omega
  clear hc hcin
  rcases hor with ⟨tk, hck⟩ | ⟨tk, hck⟩
  all_goals
    go_enter Yba.func3, Yba.ntmps3
    go_wp2_with (first
      | (at_make; refine wpList_make_full _ rfl (.tmp 82) (.tmp 82) 25 rfl w.heap.size 3 i0 (.int .i64 0) 1 Yba.underlying25 hi hz0 hz1 _ _ _ _ (len + 1) rfl rfl (by omega) (by omega) (by rw [hz2]; omega) (by unfold maxLen; omega) (Nat.le_refl _) ?_; intro w1 own1 grow1)
      | (at_make; refine wpList_make_full _ rfl (.tmp 84) (.tmp 84) 26 rfl w.heap.size 29 i9 _ 4 Yba.underlying26 hi9 hy0 hy1 _ _ _ _ (len + 1) rfl rfl (by omega) (by omega) (by rw [hy2]; omega) (by unfold maxLen; omega) grow1.size ?_; intro w2 own2 grow2))
    obtain ⟨fC0, R0⟩ := rowIs_of_owns own1
    obtain ⟨fB0, S0⟩ := rowIs_of_owns own2
    have hNB : w.heap.size < w1.heap.size := (own1.lt w.heap.size rfl).2
    have R0' : w2.rowIs w.heap.size 3 ((len + 1) * 1) fC0 := R0.of_block (grow2.block _ hNB (by simp))
    have bel2 : Below w.heap.size w w2 := ((Below.refl _ w).grown grow1 (Nat.le_refl _) (fun k h => by cases h)).grown grow2 grow1.size (fun k h => by cases h)
    rw [Nat.mul_one] at R0'
    clear own1 own2 grow1 R0
    obtain ⟨Bb, hBb⟩ : ∃ Bb, w1.heap.size = Bb := ⟨_, rfl⟩
    rw [hBb] at S0 hNB ⊢
    clear hBb grow2
    go_loopw [26, 27] (fun sj si wr => ∃ (i : Nat) (fC fB : Nat → Value), i ≤ len + 1 ∧ si = .int .i64 i ∧ sj = .int .i64 (jOf d i) ∧ wr.rowIs w.heap.size 3 (len + 1) fC ∧ wr.rowIs Bb 29 ((len + 1) * 4) fB ∧
        Hid (∀ m, m < i → fC m = .int .i64 (if m = d then c else z (jOf d m))) ∧ Hid (∀ m, m < i → fB (m * 4) = .int .i64 a0 ∧ fB (m * 4 + 1) = .int .i64 (a0 + l0) ∧ fB (m * 4 + 2) = .int .i64 a1 ∧ fB (m * 4 + 3) = .int .i64 (a1 + l1)) ∧ Below w.heap.size w wr)
      (fun _ si _ => (len + 1) - (intOf si).toNat)
    case atStart => exact ⟨0, fC0, fB0, Nat.zero_le _, rfl, by rw [jOf_zero]; rfl, R0', S0, (fun m h => absurd h (Nat.not_lt_zero _)), (fun m h => absurd h (Nat.not_lt_zero _)), bel2⟩
    case round =>
      obtain ⟨i, fC, fB, hil, rfl, rfl, hR, hS, HC, HB, hnx⟩ := hrel
      by_cases hlt : i < len + 1
      · have r0 := hR.cell hlt
        have r1 := hR.frozen i
        have b0 := hS.cell (show i * 4 < (len + 1) * 4 by omega)
        have b1 := hS.cell (show i * 4 + 1 < (len + 1) * 4 by omega)
        have b2 := hS.cell (show i * 4 + 2 < (len + 1) * 4 by omega)
        have b3 := hS.cell (show i * 4 + 3 < (len + 1) * 4 by omega)
        have g0 := hS.frozen (i * 4)
        have g1 := hS.frozen (i * 4 + 1)
        have g2 := hS.frozen (i * 4 + 2)
        have g3 := hS.frozen (i * 4 + 3)
        by_cases hid : i = d
        · subst hid
          have FS := fill_step (v := c) (z := z) hNB hR hS HC.out HB.out hnx (by rw [if_pos rfl])
          go_wp2_with fail
          obtain ⟨fC', fB', f1, f2, f3, f4, f5⟩ := FS
          go_roundw
          case rel => exact ⟨i + 1, fC', fB', by omega, by go_num, by rw [jOf_same], f1, f2, f3, f4, f5⟩
          case measure => simp [intOf]; omega
        · have tid : ((i : Int) == (d : Int)) = false := beq_eq_false_iff_ne.2 (by omega)
          have hjl := jOf_lt hid hlt hdl
          have hjs := jOf_other hid
          obtain ⟨b, off, hao, hbl, hcell, hz1', hz2'⟩ := hz (jOf d i) hjl
          have hcell' := (hnx.cell (p := ⟨b, off + jOf d i, none⟩) hbl).trans hcell
          have FS := fill_step (v := z (jOf d i)) (d := d) (c := c) hNB hR hS HC.out HB.out hnx (by rw [if_neg hid])
          subst hao
          obtain ⟨j, hj⟩ : ∃ j, jOf d i = j := ⟨_, rfl⟩
          rw [hj] at hjl hjs hcell hcell' hz1' hz2' FS ⊢
          have Hjs : Hid (jOf d (i + 1) = j + 1) := hjs
          have hbN : b ≠ w.heap.size := by omega
          have hbB : b ≠ Bb := by omega
          obtain ⟨zj, hzj⟩ : ∃ zj, z j = zj := ⟨_, rfl⟩
          rw [hzj] at hcell hcell' hz1' hz2' FS
          clear hj hjs hzj hid hcell
          go_wp2_with fail
          obtain ⟨fC', fB', f1, f2, f3, f4, f5⟩ := FS
          go_roundw
          case rel => exact ⟨i + 1, fC', fB', by omega, by go_num, by rw [Hjs.out]; go_num, f1, f2, f3, f4, f5⟩
          case measure => simp [intOf]; omega
      · obtain rfl : i = len + 1 := by omega
        have hM : Bb < wr.heap.size := hS.lt
        obtain ⟨S, hSb, s26, s28⟩ := S_built Bb w.heap.size (len + 1) (len + 1) (len + 1) (len + 1)
        have bS := Blk.new wr S 44
        have hR1 := hR.alloc (.cells S 44)
        have hS1 := hS.alloc (.cells S 44)
        have k1 := (bS.cell 26).trans s26
        have k2 := (bS.cell 28).trans s28
        have k3 := hR1.cell hdl
        have k4 := hR1.frozen d
        have k3' := HC.out d hdl
        rw [if_pos rfl] at k3'
        rw [k3'] at k3
        obtain ⟨e0, e1, e2, e3⟩ := HB.out d hdl
        have q0 := (hS1.cell (show d * 4 < (len + 1) * 4 by omega)).trans (congrArg some e0)
        have q1 := (hS1.cell (show d * 4 + 1 < (len + 1) * 4 by omega)).trans (congrArg some e1)
        have q2 := (hS1.cell (show d * 4 + 2 < (len + 1) * 4 by omega)).trans (congrArg some e2)
        have q3 := (hS1.cell (show d * 4 + 2 + 1 < (len + 1) * 4 by omega)).trans (congrArg some e3)
        have bel3 : Below w.heap.size w (wr.alloc (.cells S 44)) := hnx.alloc hnx.size _
        have hsw : (wr.alloc (.cells S 44)).heap.size = wr.heap.size + 1 := by simp
        clear e0 e1 e2 e3 k3'
        go_wp2_with (refine wpList_build_run _ rfl 44 23 21 _ _ rfl _ _ rfl rfl S hSb ?_)
        obtain ⟨W3, hW3⟩ : ∃ W3, wr.alloc (.cells S 44) = W3 := ⟨_, rfl⟩
        rw [hW3] at k1 k2 k3 k4 q0 q1 q2 q3 hR1 hS1 bel3 hsw ⊢
        refine (next_any wr.heap.size w.heap.size Bb (len + 1) (len + 1) (len + 1) d c a0 (a0 + l0) a1 (a1 + l1) _ hdl hcbd k1 k2 k3 k4 q0 q1 q2 q3).mono ?_
        obtain ⟨nv, okv, hn⟩ : ∃ nv okv, nxt c a0 (a0 + l0) a1 (a1 + l1) = (nv, okv) := ⟨_, _, rfl⟩
        rw [hn]
        have HX : Hid (nxt c a0 (a0 + l0) a1 (a1 + l1) = (nv, okv)) := hn
        clear hn hW3 hSb s26 s28 bS
        rintro e w4 ⟨rfl, q, rfl⟩
        have R4 : ((W3.setCell ⟨w.heap.size, d, none⟩ (.int .i64 nv)).drewN q).rowIs w.heap.size 3 (len + 1) (fun j => if j = d then .int .i64 nv else fC j) := hR1.set d _
        have S4 : ((W3.setCell ⟨w.heap.size, d, none⟩ (.int .i64 nv)).drewN q).rowIs Bb 29 ((len + 1) * 4) fB := hS1.setOther (a := ⟨w.heap.size, d, none⟩) (by show Bb ≠ w.heap.size; omega) _
        have K1 : ((W3.setCell ⟨w.heap.size, d, none⟩ (.int .i64 nv)).drewN q).cell? ⟨wr.heap.size, 26, none⟩ = some (.slice (some ⟨w.heap.size, 0, none⟩) (len + 1) (len + 1)) := (World.cell?_setCell_other _ _ _ _ (by simp)).trans k1
        have K2 : ((W3.setCell ⟨w.heap.size, d, none⟩ (.int .i64 nv)).drewN q).cell? ⟨wr.heap.size, 28, none⟩ = some (.slice (some ⟨Bb, 0, none⟩) (len + 1) (len + 1)) := (World.cell?_setCell_other _ _ _ _ (by simp)).trans k2
        have K3 : ((W3.setCell ⟨w.heap.size, d, none⟩ (.int .i64 nv)).drewN q).cell? ⟨w.heap.size, d, none⟩ = some (.int .i64 nv) := by have := R4.cell hdl; rw [if_pos rfl] at this; exact this
        have bel4 : Below w.heap.size w ((W3.setCell ⟨w.heap.size, d, none⟩ (.int .i64 nv)).drewN q) := (bel3.setCell (p := ⟨w.heap.size, d, none⟩) (Nat.le_refl _) _).trans ⟨rfl, rfl, rfl, Nat.le_refl _, fun _ _ => rfl⟩
        obtain ⟨W4, hW4⟩ : ∃ W4, (W3.setCell ⟨w.heap.size, d, none⟩ (.int .i64 nv)).drewN q = W4 := ⟨_, rfl⟩
        rw [hW4] at R4 S4 K1 K2 K3 bel4 ⊢
        clear hW4 k1 k2 k3 k4 q0 q1 q2 q3 hR1 hS1 hR hS
        go_wp2_with fail
        go_loop [30, 31, 32] (fun want wok sx => ∃ x : Int, c + 1 ≤ x ∧ x ≤ a1 + l1 ∧ sx = .int .i64 x ∧ want = .int .i64 a0 ∧ wok = .bool false ∧ Hid (∀ y, c < y → y < x → inB y a0 (a0 + l0) a1 (a1 + l1) = false))
          (fun _ _ sx => (a1 + l1 - intOf sx).toNat)
        case atStart => exact ⟨c + 1, Int.le_refl _, by omega, rfl, rfl, rfl, (fun y h1 h2 => by omega)⟩
        case round =>
          obtain ⟨x, hx0, hx1, rfl, rfl, rfl, HN⟩ := hrel
          by_cases hltx : x < a1 + l1
          · cases hin : inB x a0 (a0 + l0) a1 (a1 + l1)
            · have Hin : Hid (inB x a0 (a0 + l0) a1 (a1 + l1) = false) := hin
              go_wp2_with (go_at_call 6; refine (cin_any _ _ _ _ _ _).mono ?_; rintro e W4 ⟨rfl, rfl⟩)
              go_round
              case rel => exact ⟨x + 1, by omega, by omega, rfl, rfl, rfl, (fun y h1 h2 => by
                by_cases e : y = x
                · subst e; exact Hin.out
                · exact HN.out y h1 (by omega))⟩
              case measure => simp [intOf]; omega
            · obtain ⟨rfl, rfl⟩ := Prod.mk.inj (HX.out.symm.trans (nxt_first Hcin.out hg (by omega) (by omega) HN.out hin))
              go_wp2_with (go_at_call 6; refine (cin_any _ _ _ _ _ _).mono ?_; rintro e W4 ⟨rfl, rfl⟩)
              go_wp2_with fail
              go_loopw [26, 33] (fun sj si w6 => ∃ i q' : Nat, i ≤ len + 1 ∧ si = .int .i64 i ∧ sj = .int .i64 (jOf d i) ∧ w6 = W4.drewN q')
                (fun _ si _ => (len + 1) - (intOf si).toNat)
              case atStart => exact ⟨0, 0, Nat.zero_le _, rfl, by rw [jOf_zero]; rfl, rfl⟩
              case round =>
                obtain ⟨i, q', hil3, rfl, rfl, rfl⟩ := hrel
                by_cases hlt3 : i < len + 1
                · have k1 := K1
                  have k2 := K2
                  obtain ⟨e0, e1, e2, e3⟩ := HB.out i hlt3
                  have q0 := (S4.cell (show i * 4 < (len + 1) * 4 by omega)).trans (congrArg some e0)
                  have q1 := (S4.cell (show i * 4 + 1 < (len + 1) * 4 by omega)).trans (congrArg some e1)
                  have q2 := (S4.cell (show i * 4 + 2 < (len + 1) * 4 by omega)).trans (congrArg some e2)
                  have q3 := (S4.cell (show i * 4 + 2 + 1 < (len + 1) * 4 by omega)).trans (congrArg some e3)
                  clear e0 e1 e2 e3
                  by_cases hid : i = d
                  · subst hid
                    go_wp2
                    go_roundw
                    case rel => exact ⟨i + 1, q', by omega, by go_num, by rw [jOf_same], rfl⟩
                    case measure => simp [intOf]; omega
                  · have tid : ((i : Int) != (d : Int)) = true := bne_iff_ne.2 (by omega)
                    have hjl := jOf_lt hid hlt3 hdl
                    have hjs := jOf_other hid
                    obtain ⟨b, off, hao, hbl, hcell, hz1', hz2'⟩ := hz (jOf d i) hjl
                    have hcell' := (bel4.cell (p := ⟨b, off + jOf d i, none⟩) hbl).trans hcell
                    have rc := R4.cell hlt3
                    have hf := HC.out i hlt3
                    rw [if_neg hid] at hf
                    rw [if_neg hid, hf] at rc
                    subst hao
                    obtain ⟨j, hj⟩ : ∃ j, jOf d i = j := ⟨_, rfl⟩
                    rw [hj] at hjl hjs hcell hcell' hz1' hz2' rc ⊢
                    have Hjs : Hid (jOf d (i + 1) = j + 1) := hjs
                    obtain ⟨zj, hzj⟩ : ∃ zj, z j = zj := ⟨_, rfl⟩
                    rw [hzj] at hcell hcell' hz1' hz2' rc
                    have tz : (zj != zj) = false := by simp
                    clear hj hjs hzj hid hcell hf
                    go_wp2
                    go_quiet (fail)
                    go_wp2
                    go_roundw
                    case rel => exact ⟨i + 1, q' + nq, by omega, by go_num, by rw [Hjs.out]; go_num, by first | rfl | exact World.drewN_drewN _ _ _⟩
                    case measure => simp [intOf]; omega
                · go_wp2
                  go_ret
                  exact ⟨rfl, bel4.trans ⟨rfl, rfl, rfl, Nat.le_refl _, fun _ _ => rfl⟩⟩
          · obtain rfl : x = a1 + l1 := by omega
            obtain ⟨rfl, rfl⟩ := Prod.mk.inj (HX.out.symm.trans (nxt_never Hcin.out hg HN.out))
            go_wp2_with fail
            go_loopw [26, 33] (fun sj si w6 => ∃ i q' : Nat, i ≤ len + 1 ∧ si = .int .i64 i ∧ sj = .int .i64 (jOf d i) ∧ w6 = W4.drewN q')
              (fun _ si _ => (len + 1) - (intOf si).toNat)
            case atStart => exact ⟨0, 0, Nat.zero_le _, rfl, by rw [jOf_zero]; rfl, rfl⟩
            case round =>
              obtain ⟨i, q', hil3, rfl, rfl, rfl⟩ := hrel
              by_cases hlt3 : i < len + 1
              · have k1 := K1
                have k2 := K2
                obtain ⟨e0, e1, e2, e3⟩ := HB.out i hlt3
                have q0 := (S4.cell (show i * 4 < (len + 1) * 4 by omega)).trans (congrArg some e0)
                have q1 := (S4.cell (show i * 4 + 1 < (len + 1) * 4 by omega)).trans (congrArg some e1)
                have q2 := (S4.cell (show i * 4 + 2 < (len + 1) * 4 by omega)).trans (congrArg some e2)
                have q3 := (S4.cell (show i * 4 + 2 + 1 < (len + 1) * 4 by omega)).trans (congrArg some e3)
                clear e0 e1 e2 e3
                by_cases hid : i = d
                · subst hid
                  go_wp2
                  go_roundw
                  case rel => exact ⟨i + 1, q', by omega, by go_num, by rw [jOf_same], rfl⟩
                  case measure => simp [intOf]; omega
                · have tid : ((i : Int) != (d : Int)) = true := bne_iff_ne.2 (by omega)
                  have hjl := jOf_lt hid hlt3 hdl
                  have hjs := jOf_other hid
                  obtain ⟨b, off, hao, hbl, hcell, hz1', hz2'⟩ := hz (jOf d i) hjl
                  have hcell' := (bel4.cell (p := ⟨b, off + jOf d i, none⟩) hbl).trans hcell
                  have rc := R4.cell hlt3
                  have hf := HC.out i hlt3
                  rw [if_neg hid] at hf
                  rw [if_neg hid, hf] at rc
                  subst hao
                  obtain ⟨j, hj⟩ : ∃ j, jOf d i = j := ⟨_, rfl⟩
                  rw [hj] at hjl hjs hcell hcell' hz1' hz2' rc ⊢
                  have Hjs : Hid (jOf d (i + 1) = j + 1) := hjs
                  obtain ⟨zj, hzj⟩ : ∃ zj, z j = zj := ⟨_, rfl⟩
                  rw [hzj] at hcell hcell' hz1' hz2' rc
                  have tz : (zj != zj) = false := by simp
                  clear hj hjs hzj hid hcell hf
                  go_wp2
                  go_quiet (fail)
                  go_wp2
                  go_roundw
                  case rel => exact ⟨i + 1, q' + nq, by omega, by go_num, by rw [Hjs.out]; go_num, by first | rfl | exact World.drewN_drewN _ _ _⟩
                  case measure => simp [intOf]; omega
              · go_wp2
                go_ret
                exact ⟨rfl, bel4.trans ⟨rfl, rfl, rfl, Nat.le_refl _, fun _ _ => rfl⟩⟩

set_option maxRecDepth 100000 in
set_option maxHeartbeats 1000000 in
theorem next_long (a0 : Int) (l0 g l1 pick dsel : Nat) (ao : Option Addr) (len cap : Nat) (w : World) (hlen : 1024 < len) :
    Calls Yba.prog 3 #[.int .i16 a0, .int .u8 l0, .int .u8 g, .int .u8 l1, .int .u16 pick, .int .u8 dsel, .slice ao len cap] w fun e w' => e = .returned (.bool true) ∧ Below w.heap.size w w' := by
  have tlen : decide (1024 < (len : Int)) = true := decide_eq_true (by omega)
  clear hlen
  go_enter Yba.func3, Yba.ntmps3
  go_wp2
  go_ret
  exact ⟨rfl, Below.refl _ _⟩
set_option maxRecDepth 100000 in
set_option maxHeartbeats 1000000 in
theorem next_none (a0 : Int) (g pick dsel : Nat) (ao : Option Addr) (len cap : Nat) (w : World) (h0 : -32768 ≤ a0 ∧ a0 ≤ 32767) (h2 : g ≤ 255) (hlen : len ≤ 1024) :
    Calls Yba.prog 3 #[.int .i16 a0, .int .u8 0, .int .u8 g, .int .u8 0, .int .u16 pick, .int .u8 dsel, .slice ao len cap] w fun e w' => e = .returned (.bool true) ∧ Below w.heap.size w w' := by
  have tlen : decide (1024 < (len : Int)) = false := decide_eq_false (by omega)
  clear hlen
  go_enter Yba.func3, Yba.ntmps3
  go_wp2
  go_ret
  exact ⟨rfl, Below.refl _ _⟩
theorem next_whole (a0 : Int) (l0 g l1 pick dsel : Nat) (ao : Option Addr) (len cap : Nat) (z : Nat → Int) (w : World) (h0 : -32768 ≤ a0 ∧ a0 ≤ 32767) (h1 : l0 ≤ 255) (h2 : g ≤ 255) (h3 : l1 ≤ 255) (h4 : pick ≤ 65535) (h5 : dsel ≤ 255)
    (hz : ∀ k, k < len → ∃ b off, ao = some ⟨b, off, none⟩ ∧ b < w.heap.size ∧ w.cell? ⟨b, off + k, none⟩ = some (.int .i16 (z k)) ∧ -32768 ≤ z k ∧ z k ≤ 32767) :
    Calls Yba.prog 3 #[.int .i16 a0, .int .u8 l0, .int .u8 g, .int .u8 l1, .int .u16 pick, .int .u8 dsel, .slice ao len cap] w fun e w' => e = .returned (.bool true) ∧ Below w.heap.size w w' := by
  by_cases hlen : 1024 < len
  · exact next_long a0 l0 g l1 pick dsel ao len cap w hlen
  · by_cases ht : l0 + l1 = 0
    · obtain rfl : l0 = 0 := by omega
      obtain rfl : l1 = 0 := by omega
      exact next_none a0 g pick dsel ao len cap w h0 h2 (by omega)
    · exact next_law a0 l0 g l1 pick dsel ao len cap z w h0 h1 h2 h3 h4 h5 (by omega) ht hz
end Go.Proofs.Ybulkbpqo
