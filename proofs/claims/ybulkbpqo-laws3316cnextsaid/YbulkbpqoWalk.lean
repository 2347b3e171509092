/- The walk of 'LawS3316CWalk' (function 4). -/
import Derived.Test.YbulkbpqoPlain
import Derived.Laws.Tables
namespace Go.Proofs.Ybulkbpqo
open Go.RowKit

theorem Yba.info3 : (Yba.prog.info? 3).map (fun i => (i.zero, i.size, i.bytes)) = some (some (.int .i64 0), 1, 8) := by kernel_rfl

theorem S_built (b c n m nc mc : Nat) : ∃ S : Array Value, Yba.prog.built 44 [(23, .slice (some ⟨b, 0, none⟩) n nc), (21, .slice (some ⟨c, 0, none⟩) m mc)] = some S ∧ S[26]? = some (.slice (some ⟨c, 0, none⟩) m mc) ∧ S[28]? = some (.slice (some ⟨b, 0, none⟩) n nc) :=
  ⟨(Yba.prog.built 44 [(23, .slice (some ⟨b, 0, none⟩) n nc), (21, .slice (some ⟨c, 0, none⟩) m mc)]).getD #[], by kernel_rfl, by kernel_rfl, by kernel_rfl⟩

theorem wpList_build_run {P : Program} (w : World) {ops : Array Oper} {rest : List Oper} {o : Oper} {a : Act} {Q : Exit → Act → World → Prop} (hgd : o.guard = none) (t : TypeId) (i j : Nat) (x y : Operand) (ho : o.op = .build t #[(i, x), (j, y)])
    (vx vy : Value) (hx : a.eval x = vx) (hy : a.eval y = vy) (S : Array Value) (hS : P.built t [(i, vx), (j, vy)] = some S) (h : wpList P ops Q rest (a.put o.dst (.agg S)) w) : wpList P ops Q (o :: rest) a w :=
  wpList_plain hgd fun K hK => by
    subst hx hy
    have hS' : P.built t ((#[(i, x), (j, y)] : Array (Nat × Operand)).map fun (i, x) => (i, a.eval x)).toList = some S := by simpa using hS
    refine wp_build t _ ho (by rw [hS']; rfl) ?_
    rw [hS']
    exact hK _ _ h

theorem next_zero (Bs Bc Bb : Nat) (c a0 e0 a1 e1 : Int) (w : World) (hc0 : -100000 ≤ c ∧ c ≤ 100000)
    (k1 : w.cell? ⟨Bs, 26, none⟩ = some (.slice (some ⟨Bc, 0, none⟩) 1 1)) (k2 : w.cell? ⟨Bs, 28, none⟩ = some (.slice (some ⟨Bb, 0, none⟩) 1 1))
    (k3 : w.cell? ⟨Bc, 0, none⟩ = some (.int .i64 c)) (k4 : w.frozen? ⟨Bc, 0, none⟩ = false)
    (q0 : w.cell? ⟨Bb, 0, none⟩ = some (.int .i64 a0)) (q1 : w.cell? ⟨Bb, 1, none⟩ = some (.int .i64 e0)) (q2 : w.cell? ⟨Bb, 2, none⟩ = some (.int .i64 a1)) (q3 : w.cell? ⟨Bb, 3, none⟩ = some (.int .i64 e1)) :
    Calls Yba.prog 5 #[.pointer (some ⟨Bs, 0, none⟩), .int .i64 0] w fun e w' => e = .returned (.bool (nxt c a0 e0 a1 e1).2) ∧ ∃ q, w' = (w.setCell ⟨Bc, 0, none⟩ (.int .i64 (nxt c a0 e0 a1 e1).1)).drewN q :=
  next_any Bs Bc Bb 1 1 1 0 c a0 e0 a1 e1 w (by omega) hc0 k1 k2 k3 k4 q0 q1 q2 q3

theorem ownsRow_drewN {w : World} {base : Nat} {e : TypeId} {size : Nat} {v : Value} {n : Nat} {xs : List Value} (h : w.ownsRow base e size v n xs) (q : Nat) : (w.drewN q).ownsRow base e size v n xs := h
theorem at_bd {a0 a1 : Int} {l0 l1 s : Nat} (h0 : -32768 ≤ a0 ∧ a0 ≤ 32767) (h1 : l0 ≤ 255) (h3 : l1 ≤ 255) (hb : a1 ≤ 40000) (hg : a0 + l0 ≤ a1) (hs : s < l0 + l1) : -100000 ≤ at_ a0 a1 l0 s ∧ at_ a0 a1 l0 s ≤ 100000 := by
  unfold at_
  split <;> omega
theorem firsts_cell {W : World} {base gw n cap : Nat} {a0 a1 : Int} {l0 : Nat} (h : W.ownsRow base 3 1 (.slice (some ⟨gw, 0, none⟩) n cap) n ((firsts a0 a1 l0 n).map (Value.int .i64))) (k : Nat) (hk : k < n) : W.cell? ⟨gw, k, none⟩ = some (.int .i64 (at_ a0 a1 l0 k)) := by
  rw [h.cellAt k (by omega)]
  simp [firsts, hk]

theorem cell_one_at (W : World) (n : Nat) (hn : W.heap.size = n) (v : Value) (t : TypeId) : ∀ (j : Nat) (u : Value), [v][j]? = some u → (W.alloc (.cells #[v] t)).cell? ((⟨n, 0, none⟩ : Addr).add j) = some u := by
  subst hn
  exact cell_one_new W v t

/-- block b holds the cells C -/
def Blk (W : World) (b : Nat) (C : Array Value) (t : TypeId) : Prop := W.heap[b]? = some (.cells C t (0, 0))
theorem Blk.new (W : World) (C : Array Value) (t : TypeId) : Blk (W.alloc (.cells C t)) W.heap.size C t := heap_alloc_new W _
theorem Blk.lt {W : World} {b : Nat} {C : Array Value} {t : TypeId} (h : Blk W b C t) : b < W.heap.size := (Array.getElem?_eq_some_iff.1 h).1
theorem Blk.alloc {W : World} {b : Nat} {C : Array Value} {t : TypeId} (h : Blk W b C t) (o : Obj) : Blk (W.alloc o) b C t := (Below.heap_alloc W o b h.lt).trans h
theorem Blk.cell {W : World} {b : Nat} {C : Array Value} {t : TypeId} (h : Blk W b C t) (i : Nat) : W.cell? ⟨b, i, none⟩ = C[i]? := by simp [World.cell?, show W.heap[b]? = _ from h]
theorem Blk.frozen {W : World} {b : Nat} {C : Array Value} {t : TypeId} (h : Blk W b C t) (i : Nat) : W.frozen? ⟨b, i, none⟩ = false := by simp [World.frozen?, show W.heap[b]? = _ from h]

theorem grown_kept {W1 wr w4 : World} {N q n : Nat} {v u : Value} {xs : List Value} {o : Obj} (hk : Kept (N + 1) (N + 3) W1 wr) (hown : wr.ownsRow (N + 3) 3 1 v n xs) (hs : N + 3 ≤ W1.heap.size) (hg : (((wr.setCell ⟨N + 1, 0, none⟩ u).drewN q).alloc o).grownBy w4 v.ownBlock) : Kept (N + 1) (N + 3) W1 w4 := by
  have hsz := hk.size
  have h1 : Kept (N + 1) (N + 3) W1 ((wr.setCell ⟨N + 1, 0, none⟩ u).drewN q) := (hk.setCell 0 u).drewN q
  have h2 : Below (N + 3) ((wr.setCell ⟨N + 1, 0, none⟩ u).drewN q) w4 := ((Below.refl _ _).alloc (by simp; omega) o).grown hg (by simp; omega) (fun k hk => (hown.lt k hk).1)
  exact h1.trans (Kept.of_below h2)
theorem grown_corner {wr w4 : World} {N q n : Nat} {v u c : Value} {xs : List Value} {o : Obj} (hown : wr.ownsRow (N + 3) 3 1 v n xs) (hs : N + 3 ≤ wr.heap.size) (hc : wr.cell? ⟨N + 1, 0, none⟩ = some c) (hg : (((wr.setCell ⟨N + 1, 0, none⟩ u).drewN q).alloc o).grownBy w4 v.ownBlock) : w4.cell? ⟨N + 1, 0, none⟩ = some u := by
  have h2 : Below (N + 3) ((wr.setCell ⟨N + 1, 0, none⟩ u).drewN q) w4 := ((Below.refl _ _).alloc (by simp; omega) o).grown hg (by simp; omega) (fun k hk => (hown.lt k hk).1)
  rw [h2.cell (p := ⟨N + 1, 0, none⟩) (by show N + 1 < N + 3; omega)]
  exact World.cell?_setCell_same' _ _ _ (by rw [hc]; rfl)
theorem grown_free {wr w4 : World} {N q n : Nat} {v u : Value} {xs : List Value} {o : Obj} (hown : wr.ownsRow (N + 3) 3 1 v n xs) (hs : N + 3 ≤ wr.heap.size) (hf : wr.frozen? ⟨N + 1, 0, none⟩ = false) (hg : (((wr.setCell ⟨N + 1, 0, none⟩ u).drewN q).alloc o).grownBy w4 v.ownBlock) : w4.frozen? ⟨N + 1, 0, none⟩ = false := by
  have h2 : Below (N + 3) ((wr.setCell ⟨N + 1, 0, none⟩ u).drewN q) w4 := ((Below.refl _ _).alloc (by simp; omega) o).grown hg (by simp; omega) (fun k hk => (hown.lt k hk).1)
  rw [h2.frozen (p := ⟨N + 1, 0, none⟩) (by show N + 1 < N + 3; omega)]
  exact (World.frozen?_setCell _ _ _ _).trans hf

/-- what lies ahead of the second loop -/
structure Laid (W : World) (N : Nat) (a0 e0 a1 e1 : Int) : Prop where
  k1 : W.cell? ⟨N + 1 + 1, 26, none⟩ = some (.slice (some ⟨N + 1, 0, none⟩) 1 1)
  k2 : W.cell? ⟨N + 1 + 1, 28, none⟩ = some (.slice (some ⟨N, 0, none⟩) 1 1)
  q0 : W.cell? ⟨N, 0, none⟩ = some (.int .i64 a0)
  q1 : W.cell? ⟨N, 1, none⟩ = some (.int .i64 e0)
  q2 : W.cell? ⟨N, 2, none⟩ = some (.int .i64 a1)
  q3 : W.cell? ⟨N, 3, none⟩ = some (.int .i64 e1)
theorem Laid.kept {W W' : World} {N : Nat} {a0 e0 a1 e1 : Int} (h : Laid W N a0 e0 a1 e1) (hk : Kept (N + 1) (N + 3) W W') : Laid W' N a0 e0 a1 e1 :=
  ⟨(hk.cell (p := ⟨N + 1 + 1, 26, none⟩) (by simp) (by simp)).trans h.k1, (hk.cell (p := ⟨N + 1 + 1, 28, none⟩) (by simp) (by simp)).trans h.k2, (hk.cell (p := ⟨N, 0, none⟩) (by simp) (by simp)).trans h.q0,
    (hk.cell (p := ⟨N, 1, none⟩) (by simp) (by simp)).trans h.q1, (hk.cell (p := ⟨N, 2, none⟩) (by simp) (by simp)).trans h.q2, (hk.cell (p := ⟨N, 3, none⟩) (by simp) (by simp)).trans h.q3⟩
theorem laid_new (W : World) (S : Array Value) (a0 e0 a1 e1 f : Int) (s26 : S[26]? = some (.slice (some ⟨W.heap.size + 1, 0, none⟩) 1 1)) (s28 : S[28]? = some (.slice (some ⟨W.heap.size, 0, none⟩) 1 1)) :
    Laid ((((W.alloc (.cells #[.int .i64 a0, .int .i64 e0, .int .i64 a1, .int .i64 e1] 29)).alloc (.cells #[.int .i64 f] 3)).alloc (.cells S 44)).alloc (.cells #[.int .i64 f] 3)) W.heap.size a0 e0 a1 e1 ∧
    ((((W.alloc (.cells #[.int .i64 a0, .int .i64 e0, .int .i64 a1, .int .i64 e1] 29)).alloc (.cells #[.int .i64 f] 3)).alloc (.cells S 44)).alloc (.cells #[.int .i64 f] 3)).cell? ⟨W.heap.size + 1, 0, none⟩ = some (.int .i64 f) ∧
    ((((W.alloc (.cells #[.int .i64 a0, .int .i64 e0, .int .i64 a1, .int .i64 e1] 29)).alloc (.cells #[.int .i64 f] 3)).alloc (.cells S 44)).alloc (.cells #[.int .i64 f] 3)).frozen? ⟨W.heap.size + 1, 0, none⟩ = false := by
  have b0 := (((Blk.new W #[.int .i64 a0, .int .i64 e0, .int .i64 a1, .int .i64 e1] 29).alloc (.cells #[.int .i64 f] 3)).alloc (.cells S 44)).alloc (.cells #[.int .i64 f] 3)
  have b1 := ((Blk.new (W.alloc (.cells #[.int .i64 a0, .int .i64 e0, .int .i64 a1, .int .i64 e1] 29)) #[.int .i64 f] 3).alloc (.cells S 44)).alloc (.cells #[.int .i64 f] 3)
  have b2 := (Blk.new ((W.alloc (.cells #[.int .i64 a0, .int .i64 e0, .int .i64 a1, .int .i64 e1] 29)).alloc (.cells #[.int .i64 f] 3)) S 44).alloc (.cells #[.int .i64 f] 3)
  simp only [World.size_alloc] at b1 b2
  exact ⟨⟨(b2.cell 26).trans s26, (b2.cell 28).trans s28, b0.cell 0, b0.cell 1, b0.cell 2, b0.cell 3⟩, b1.cell 0, b1.frozen 0⟩

set_option maxRecDepth 100000 in
set_option maxHeartbeats 4000000 in
theorem walk_zero (a0 : Int) (l0 g l1 : Nat) (w : World) (h0 : -32768 ≤ a0 ∧ a0 ≤ 32767) (h1 : l0 ≤ 255) (h2 : g ≤ 255) (h3 : l1 ≤ 255) (ht : l0 + l1 ≠ 0) (hl : l0 = 0) :
    Calls Yba.prog 4 #[.int .i16 a0, .int .u8 l0, .int .u8 g, .int .u8 l1] w fun e w' => e = .returned (.bool true) ∧ Below w.heap.size w w' := by
  obtain ⟨i0, hi, hz0, hz1, hz2⟩ := info_parts Yba.info3
  have t0 : (((l0 : Int) + (l1 : Int)) == 0) = false := beq_eq_false_iff_ne.2 (by omega)
  have tl : ((l0 : Int) == 0) = true := by simp [hl]
  obtain ⟨a1, ha1⟩ : ∃ a1 : Int, a0 + l0 + g = a1 := ⟨_, rfl⟩
  have hg : a0 + l0 ≤ a1 := by omega
  have hb1 : a1 ≤ 40000 := by omega
  have HL : Hid (at_ a0 a1 l0 0 = a1) := by show at_ a0 a1 l0 0 = a1; unfold at_; rw [if_neg (by omega)]; simp
  clear hl
  go_enter Yba.func4, Yba.ntmps4
  go_wp2_with fail
  go_loopw [15, 16] (fun v x wr => ∃ xi : Int, a0 ≤ xi ∧ xi ≤ a1 + l1 ∧ x = .int .i64 xi ∧ wr.ownsRow w.heap.size 3 1 v (cnt a0 a1 l0 xi) ((firsts a0 a1 l0 (cnt a0 a1 l0 xi)).map (Value.int .i64)) ∧ Below w.heap.size w wr)
    (fun _ x _ => (a1 + l1 - intOf x).toNat)
  case atStart => exact ⟨a0, Int.le_refl _, by omega, rfl, by rw [cnt_start]; exact World.ownsRow_nil _ _ _ _, Below.refl _ _⟩
  case round =>
    obtain ⟨x, hx0, hx1, rfl, hown, hnx⟩ := hrel
    have hcl := cnt_le (a0 := a0) (a1 := a1) (l0 := l0) hx1
    by_cases hlt : x < a1 + l1
    · cases hin : inB x a0 (a0 + l0) a1 (a1 + l1)
      · have HC : Hid (cnt a0 a1 l0 (x + 1) = cnt a0 a1 l0 x) := cnt_out hx0 hlt hin
        go_wp2_with (go_at_call 6; refine (cin_any _ _ _ _ _ _).mono ?_; rintro e wr ⟨rfl, rfl⟩)
        go_roundw
        case rel => exact ⟨x + 1, by omega, by omega, rfl, by rw [HC.out]; exact hown, hnx⟩
        case measure => simp [intOf]; omega
      · have HC : Hid (at_ a0 a1 l0 (cnt a0 a1 l0 x) = x ∧ cnt a0 a1 l0 (x + 1) = cnt a0 a1 l0 x + 1) := cnt_in hg hx0 hin
        go_wp2_with (first | (go_at_call 6; refine (cin_any _ _ _ _ _ _).mono ?_; rintro e wr ⟨rfl, rfl⟩) | (at_builtin; refine wpList_append_own _ rfl (.tmp 59) (.tmp 61) 25 rfl w.heap.size 3 i0 (.int .i64 0) 1 8 Yba.underlying25 hi hz0 hz1 hz2 rfl (by decide) _ _ _ rfl (hown.alloc _) ⟨wr.heap.size, 0, none⟩ 1 1 [.int .i64 x] rfl rfl (cell_one_new _ _ _) (by simp [Value.oneCell']) (by unfold maxLen; omega) (by omega) (by have := hnx.size; simp; omega) ?_; intro v' w1 hown' hgrow _))
        go_roundw
        case rel => exact ⟨x + 1, by omega, by omega, rfl, by rw [HC.out.2, firsts_succ, HC.out.1, List.map_append]; exact hown', (hnx.alloc hnx.size _).grown hgrow (by have := hnx.size; simp; omega) (fun k hk => (hown.lt k hk).1)⟩
        case measure => simp [intOf]; omega
    · obtain rfl : x = a1 + l1 := by omega
      rw [cnt_end hg] at hown
      have hex : ∃ gw capw, u15 = .slice (some ⟨gw, 0, none⟩) (l0 + l1) capw := by
        rcases hown.2 with ⟨_, h⟩ | ⟨gw, capw, cur, h, _⟩
        · exact absurd h ht
        · exact ⟨gw, capw, h⟩
      obtain ⟨gw, capw, hv⟩ := hex
      subst hv
      obtain ⟨S, hS, s26, s28⟩ := S_built wr.heap.size (wr.heap.size + 1) 1 1 1 1
      go_wp2_with (refine wpList_build_run _ rfl 44 23 21 _ _ rfl _ _ rfl rfl S hS ?_)
      obtain ⟨LA, lc, lf⟩ := laid_new wr S a0 (a0 + l0) a1 (a1 + l1) a1 s26 s28
      have own0 := World.ownsRow_lit (base := wr.heap.size + 3) (e := 3) (size := 1) (((wr.alloc (.cells #[.int .i64 a0, .int .i64 (a0 + l0), .int .i64 a1, .int .i64 (a1 + l1)] 29)).alloc (.cells #[.int .i64 a1] 3)).alloc (.cells S 44)) #[.int .i64 a1] 1 (by simp) (by unfold maxLen; omega) rfl
      have hownw := (((hown.alloc (.cells #[.int .i64 a0, .int .i64 (a0 + l0), .int .i64 a1, .int .i64 (a1 + l1)] 29)).alloc (.cells #[.int .i64 a1] 3)).alloc (.cells S 44)).alloc (.cells #[.int .i64 a1] 3)
      have hgw : gw < wr.heap.size := (hown.lt gw rfl).2
      have bel1 : Below w.heap.size w ((((wr.alloc (.cells #[.int .i64 a0, .int .i64 (a0 + l0), .int .i64 a1, .int .i64 (a1 + l1)] 29)).alloc (.cells #[.int .i64 a1] 3)).alloc (.cells S 44)).alloc (.cells #[.int .i64 a1] 3)) :=
        (((hnx.alloc hnx.size _).alloc (by have := hnx.size; simp; omega) _).alloc (by have := hnx.size; simp; omega) _).alloc (by have := hnx.size; simp; omega) _
      have hN : w.heap.size ≤ wr.heap.size := hnx.size
      have hsz1 : ((((wr.alloc (.cells #[.int .i64 a0, .int .i64 (a0 + l0), .int .i64 a1, .int .i64 (a1 + l1)] 29)).alloc (.cells #[.int .i64 a1] 3)).alloc (.cells S 44)).alloc (.cells #[.int .i64 a1] 3)).heap.size = wr.heap.size + 4 := by simp
      simp only [World.size_alloc] at own0
      obtain ⟨W1, hW1⟩ : ∃ W1, ((((wr.alloc (.cells #[.int .i64 a0, .int .i64 (a0 + l0), .int .i64 a1, .int .i64 (a1 + l1)] 29)).alloc (.cells #[.int .i64 a1] 3)).alloc (.cells S 44)).alloc (.cells #[.int .i64 a1] 3)) = W1 := ⟨_, rfl⟩
      rw [hW1] at LA lc lf own0 hownw bel1 hsz1 ⊢
      clear hW1 hS s26 s28 hown hnx hcl
      obtain ⟨N, hNN⟩ : ∃ N, wr.heap.size = N := ⟨_, rfl⟩
      rw [hNN] at LA lc lf own0 hgw hN hsz1 ⊢
      clear hNN
      go_loopw [18, 19, 20] (fun got ended step w2 => ∃ s : Nat, s + 1 ≤ l0 + l1 ∧ step = .int .i64 s ∧ ended = .bool false ∧ w2.ownsRow (N + 3) 3 1 got (s + 1) ((firsts a0 a1 l0 (s + 1)).map (Value.int .i64)) ∧ Kept (N + 1) (N + 3) W1 w2 ∧ w2.cell? ⟨N + 1, 0, none⟩ = some (.int .i64 (at_ a0 a1 l0 s)) ∧ w2.frozen? ⟨N + 1, 0, none⟩ = false)
        (fun _ _ step _ => (l0 + l1) - (intOf step).toNat)
      case atStart => exact ⟨0, by omega, rfl, rfl, by rw [firsts_succ, HL.out]; exact own0, Kept.refl _ _ _, by rw [HL.out]; exact lc, lf⟩
      case round =>
        obtain ⟨s, hs, rfl, rfl, hown2, hk, hc, hf⟩ := hrel
        have hbd := at_bd h0 h1 h3 hb1 hg (show s < l0 + l1 by omega)
        have LR := LA.kept hk
        have hsr := hk.size
        obtain ⟨k1, k2, q0, q1, q2, q3⟩ := LR
        by_cases hgo : s + 1 < l0 + l1
        · have HX : Hid (nxt (at_ a0 a1 l0 s) a0 (a0 + l0) a1 (a1 + l1) = (at_ a0 a1 l0 (s + 1), true)) := nxt_go hg hgo
          go_wp2_with (first | (go_at_call 5; refine (next_zero (N + 1 + 1) (N + 1) N (at_ a0 a1 l0 s) a0 (a0 + l0) a1 (a1 + l1) _ hbd k1 k2 hc hf q0 q1 q2 q3).mono ?_; rw [HX.out]; rintro e w3 ⟨rfl, q, rfl⟩) | (at_builtin; refine wpList_append_own _ rfl (.tmp 85) (.tmp 92) 25 rfl (N + 3) 3 i0 (.int .i64 0) 1 8 Yba.underlying25 hi hz0 hz1 hz2 rfl (by decide) _ _ _ rfl ((ownsRow_drewN (ownsRow_setCell_below hown2 (a := ⟨N + 1, 0, none⟩) (by show N + 1 < N + 3; omega) (.int .i64 (at_ a0 a1 l0 (s + 1)))) q).alloc _) ⟨wr.heap.size, 0, none⟩ 1 1 [.int .i64 (at_ a0 a1 l0 (s + 1))] rfl rfl (cell_one_at _ _ (by simp) _ _) (by simp [Value.oneCell']) (by unfold maxLen; omega) (by omega) (by have := hk.size; simp; omega) ?_; intro v' w4 hown' hgrow _))
          have hk4 := grown_kept hk hown2 (by omega) hgrow
          have hc4 := grown_corner hown2 (by omega) hc hgrow
          have hf4 := grown_free hown2 (by omega) hf hgrow
          go_roundw
          case rel => exact ⟨s + 1, by omega, by go_num, rfl, by rw [firsts_succ, List.map_append]; exact hown', hk4, hc4, hf4⟩
          case measure => simp [intOf]; omega
        · have HX : Hid (nxt (at_ a0 a1 l0 s) a0 (a0 + l0) a1 (a1 + l1) = (a0, false)) := nxt_stop hg (by omega)
          have hse : s + 1 = l0 + l1 := by omega
          rw [hse] at hown2
          have hex : ∃ gg capg, u18 = .slice (some ⟨gg, 0, none⟩) (l0 + l1) capg := by
            rcases hown2.2 with ⟨_, h⟩ | ⟨gg, capg, cur, h, _⟩
            · exact absurd h ht
            · exact ⟨gg, capg, h⟩
          obtain ⟨gg, capg, hv⟩ := hex
          subst hv
          clear hse
          go_wp2_with (go_at_call 5; refine (next_zero (N + 1 + 1) (N + 1) N (at_ a0 a1 l0 s) a0 (a0 + l0) a1 (a1 + l1) _ hbd k1 k2 hc hf q0 q1 q2 q3).mono ?_; rw [HX.out]; rintro e w3 ⟨rfl, q, rfl⟩)
          have own5 := ownsRow_drewN (ownsRow_setCell_below hown2 (a := ⟨N + 1, 0, none⟩) (by show N + 1 < N + 3; omega) (.int .i64 a0)) q
          have hk5 := (hk.setCell 0 (.int .i64 a0)).drewN q
          have cw : ∀ k, k < l0 + l1 → ((wr.setCell ⟨N + 1, 0, none⟩ (.int .i64 a0)).drewN q).cell? ⟨gw, k, none⟩ = some (.int .i64 (at_ a0 a1 l0 k)) := fun k hkl => (hk5.cell (p := ⟨gw, k, none⟩) (by show gw < N + 3; omega) (by show gw ≠ N + 1; omega)).trans (firsts_cell hownw k hkl)
          have cg : ∀ k, k < l0 + l1 → ((wr.setCell ⟨N + 1, 0, none⟩ (.int .i64 a0)).drewN q).cell? ⟨gg, k, none⟩ = some (.int .i64 (at_ a0 a1 l0 k)) := fun k hkl => firsts_cell own5 k hkl
          have bel5 := hk5.below bel1 (by omega) (by omega)
          obtain ⟨W5, hW5⟩ : ∃ W5, (wr.setCell ⟨N + 1, 0, none⟩ (.int .i64 a0)).drewN q = W5 := ⟨_, rfl⟩
          rw [hW5] at cw cg bel5 ⊢
          clear hW5 own5 hk5 hown2 hk hc hf k1 k2 q0 q1 q2 q3 HX hownw own0 LA lc lf bel1
          go_loopw [115, 21] (fun i _ w6 => ∃ k q : Nat, k ≤ l0 + l1 ∧ i = .int .i64 k ∧ w6 = W5.drewN q)
            (fun i _ _ => (l0 + l1) - (intOf i).toNat)
          case atStart => exact ⟨0, 0, Nat.zero_le _, rfl, rfl⟩
          case round =>
            obtain ⟨k, q', hkl, rfl, rfl⟩ := hrel
            by_cases hlt3 : k < l0 + l1
            · have c1 := cw k hlt3
              have c2 := cg k hlt3
              clear cw cg
              have t3 : (at_ a0 a1 l0 k != at_ a0 a1 l0 k) = false := by simp
              go_wp2
              go_quiet (fail)
              go_wp2
              go_roundw
              case rel => exact ⟨k + 1, q' + nq, by omega, by go_num, by first | rfl | exact World.drewN_drewN _ _ _⟩
              case measure => simp [intOf]; omega
            · go_wp2
              go_ret
              exact ⟨rfl, bel5.trans ⟨rfl, rfl, rfl, Nat.le_refl _, fun _ _ => rfl⟩⟩

set_option maxRecDepth 100000 in
set_option maxHeartbeats 4000000 in
theorem walk_pos (a0 : Int) (l0 g l1 : Nat) (w : World) (h0 : -32768 ≤ a0 ∧ a0 ≤ 32767) (h1 : l0 ≤ 255) (h2 : g ≤ 255) (h3 : l1 ≤ 255) (ht : l0 + l1 ≠ 0) (hl : l0 ≠ 0) :
    Calls Yba.prog 4 #[.int .i16 a0, .int .u8 l0, .int .u8 g, .int .u8 l1] w fun e w' => e = .returned (.bool true) ∧ Below w.heap.size w w' := by
  obtain ⟨i0, hi, hz0, hz1, hz2⟩ := info_parts Yba.info3
  have t0 : (((l0 : Int) + (l1 : Int)) == 0) = false := beq_eq_false_iff_ne.2 (by omega)
  have tl : ((l0 : Int) == 0) = false := beq_eq_false_iff_ne.2 (by omega)
  obtain ⟨a1, ha1⟩ : ∃ a1 : Int, a0 + l0 + g = a1 := ⟨_, rfl⟩
  have hg : a0 + l0 ≤ a1 := by omega
  have hb1 : a1 ≤ 40000 := by omega
  have HL : Hid (at_ a0 a1 l0 0 = a0) := by show at_ a0 a1 l0 0 = a0; unfold at_; rw [if_pos (by omega)]; simp
  clear hl
  go_enter Yba.func4, Yba.ntmps4
  go_wp2_with fail
  go_loopw [15, 16] (fun v x wr => ∃ xi : Int, a0 ≤ xi ∧ xi ≤ a1 + l1 ∧ x = .int .i64 xi ∧ wr.ownsRow w.heap.size 3 1 v (cnt a0 a1 l0 xi) ((firsts a0 a1 l0 (cnt a0 a1 l0 xi)).map (Value.int .i64)) ∧ Below w.heap.size w wr)
    (fun _ x _ => (a1 + l1 - intOf x).toNat)
  case atStart => exact ⟨a0, Int.le_refl _, by omega, rfl, by rw [cnt_start]; exact World.ownsRow_nil _ _ _ _, Below.refl _ _⟩
  case round =>
    obtain ⟨x, hx0, hx1, rfl, hown, hnx⟩ := hrel
    have hcl := cnt_le (a0 := a0) (a1 := a1) (l0 := l0) hx1
    by_cases hlt : x < a1 + l1
    · cases hin : inB x a0 (a0 + l0) a1 (a1 + l1)
      · have HC : Hid (cnt a0 a1 l0 (x + 1) = cnt a0 a1 l0 x) := cnt_out hx0 hlt hin
        go_wp2_with (go_at_call 6; refine (cin_any _ _ _ _ _ _).mono ?_; rintro e wr ⟨rfl, rfl⟩)
        go_roundw
        case rel => exact ⟨x + 1, by omega, by omega, rfl, by rw [HC.out]; exact hown, hnx⟩
        case measure => simp [intOf]; omega
      · have HC : Hid (at_ a0 a1 l0 (cnt a0 a1 l0 x) = x ∧ cnt a0 a1 l0 (x + 1) = cnt a0 a1 l0 x + 1) := cnt_in hg hx0 hin
        go_wp2_with (first | (go_at_call 6; refine (cin_any _ _ _ _ _ _).mono ?_; rintro e wr ⟨rfl, rfl⟩) | (at_builtin; refine wpList_append_own _ rfl (.tmp 59) (.tmp 61) 25 rfl w.heap.size 3 i0 (.int .i64 0) 1 8 Yba.underlying25 hi hz0 hz1 hz2 rfl (by decide) _ _ _ rfl (hown.alloc _) ⟨wr.heap.size, 0, none⟩ 1 1 [.int .i64 x] rfl rfl (cell_one_new _ _ _) (by simp [Value.oneCell']) (by unfold maxLen; omega) (by omega) (by have := hnx.size; simp; omega) ?_; intro v' w1 hown' hgrow _))
        go_roundw
        case rel => exact ⟨x + 1, by omega, by omega, rfl, by rw [HC.out.2, firsts_succ, HC.out.1, List.map_append]; exact hown', (hnx.alloc hnx.size _).grown hgrow (by have := hnx.size; simp; omega) (fun k hk => (hown.lt k hk).1)⟩
        case measure => simp [intOf]; omega
    · obtain rfl : x = a1 + l1 := by omega
      rw [cnt_end hg] at hown
      have hex : ∃ gw capw, u15 = .slice (some ⟨gw, 0, none⟩) (l0 + l1) capw := by
        rcases hown.2 with ⟨_, h⟩ | ⟨gw, capw, cur, h, _⟩
        · exact absurd h ht
        · exact ⟨gw, capw, h⟩
      obtain ⟨gw, capw, hv⟩ := hex
      subst hv
      obtain ⟨S, hS, s26, s28⟩ := S_built wr.heap.size (wr.heap.size + 1) 1 1 1 1
      go_wp2_with (refine wpList_build_run _ rfl 44 23 21 _ _ rfl _ _ rfl rfl S hS ?_)
      obtain ⟨LA, lc, lf⟩ := laid_new wr S a0 (a0 + l0) a1 (a1 + l1) a0 s26 s28
      have own0 := World.ownsRow_lit (base := wr.heap.size + 3) (e := 3) (size := 1) (((wr.alloc (.cells #[.int .i64 a0, .int .i64 (a0 + l0), .int .i64 a1, .int .i64 (a1 + l1)] 29)).alloc (.cells #[.int .i64 a0] 3)).alloc (.cells S 44)) #[.int .i64 a0] 1 (by simp) (by unfold maxLen; omega) rfl
      have hownw := (((hown.alloc (.cells #[.int .i64 a0, .int .i64 (a0 + l0), .int .i64 a1, .int .i64 (a1 + l1)] 29)).alloc (.cells #[.int .i64 a0] 3)).alloc (.cells S 44)).alloc (.cells #[.int .i64 a0] 3)
      have hgw : gw < wr.heap.size := (hown.lt gw rfl).2
      have bel1 : Below w.heap.size w ((((wr.alloc (.cells #[.int .i64 a0, .int .i64 (a0 + l0), .int .i64 a1, .int .i64 (a1 + l1)] 29)).alloc (.cells #[.int .i64 a0] 3)).alloc (.cells S 44)).alloc (.cells #[.int .i64 a0] 3)) :=
        (((hnx.alloc hnx.size _).alloc (by have := hnx.size; simp; omega) _).alloc (by have := hnx.size; simp; omega) _).alloc (by have := hnx.size; simp; omega) _
      have hN : w.heap.size ≤ wr.heap.size := hnx.size
      have hsz1 : ((((wr.alloc (.cells #[.int .i64 a0, .int .i64 (a0 + l0), .int .i64 a1, .int .i64 (a1 + l1)] 29)).alloc (.cells #[.int .i64 a0] 3)).alloc (.cells S 44)).alloc (.cells #[.int .i64 a0] 3)).heap.size = wr.heap.size + 4 := by simp
      simp only [World.size_alloc] at own0
      obtain ⟨W1, hW1⟩ : ∃ W1, ((((wr.alloc (.cells #[.int .i64 a0, .int .i64 (a0 + l0), .int .i64 a1, .int .i64 (a1 + l1)] 29)).alloc (.cells #[.int .i64 a0] 3)).alloc (.cells S 44)).alloc (.cells #[.int .i64 a0] 3)) = W1 := ⟨_, rfl⟩
      rw [hW1] at LA lc lf own0 hownw bel1 hsz1 ⊢
      clear hW1 hS s26 s28 hown hnx hcl
      obtain ⟨N, hNN⟩ : ∃ N, wr.heap.size = N := ⟨_, rfl⟩
      rw [hNN] at LA lc lf own0 hgw hN hsz1 ⊢
      clear hNN
      go_loopw [18, 19, 20] (fun got ended step w2 => ∃ s : Nat, s + 1 ≤ l0 + l1 ∧ step = .int .i64 s ∧ ended = .bool false ∧ w2.ownsRow (N + 3) 3 1 got (s + 1) ((firsts a0 a1 l0 (s + 1)).map (Value.int .i64)) ∧ Kept (N + 1) (N + 3) W1 w2 ∧ w2.cell? ⟨N + 1, 0, none⟩ = some (.int .i64 (at_ a0 a1 l0 s)) ∧ w2.frozen? ⟨N + 1, 0, none⟩ = false)
        (fun _ _ step _ => (l0 + l1) - (intOf step).toNat)
      case atStart => exact ⟨0, by omega, rfl, rfl, by rw [firsts_succ, HL.out]; exact own0, Kept.refl _ _ _, by rw [HL.out]; exact lc, lf⟩
      case round =>
        obtain ⟨s, hs, rfl, rfl, hown2, hk, hc, hf⟩ := hrel
        have hbd := at_bd h0 h1 h3 hb1 hg (show s < l0 + l1 by omega)
        have LR := LA.kept hk
        have hsr := hk.size
        obtain ⟨k1, k2, q0, q1, q2, q3⟩ := LR
        by_cases hgo : s + 1 < l0 + l1
        · have HX : Hid (nxt (at_ a0 a1 l0 s) a0 (a0 + l0) a1 (a1 + l1) = (at_ a0 a1 l0 (s + 1), true)) := nxt_go hg hgo
          go_wp2_with (first | (go_at_call 5; refine (next_zero (N + 1 + 1) (N + 1) N (at_ a0 a1 l0 s) a0 (a0 + l0) a1 (a1 + l1) _ hbd k1 k2 hc hf q0 q1 q2 q3).mono ?_; rw [HX.out]; rintro e w3 ⟨rfl, q, rfl⟩) | (at_builtin; refine wpList_append_own _ rfl (.tmp 85) (.tmp 92) 25 rfl (N + 3) 3 i0 (.int .i64 0) 1 8 Yba.underlying25 hi hz0 hz1 hz2 rfl (by decide) _ _ _ rfl ((ownsRow_drewN (ownsRow_setCell_below hown2 (a := ⟨N + 1, 0, none⟩) (by show N + 1 < N + 3; omega) (.int .i64 (at_ a0 a1 l0 (s + 1)))) q).alloc _) ⟨wr.heap.size, 0, none⟩ 1 1 [.int .i64 (at_ a0 a1 l0 (s + 1))] rfl rfl (cell_one_at _ _ (by simp) _ _) (by simp [Value.oneCell']) (by unfold maxLen; omega) (by omega) (by have := hk.size; simp; omega) ?_; intro v' w4 hown' hgrow _))
          have hk4 := grown_kept hk hown2 (by omega) hgrow
          have hc4 := grown_corner hown2 (by omega) hc hgrow
          have hf4 := grown_free hown2 (by omega) hf hgrow
          go_roundw
          case rel => exact ⟨s + 1, by omega, by go_num, rfl, by rw [firsts_succ, List.map_append]; exact hown', hk4, hc4, hf4⟩
          case measure => simp [intOf]; omega
        · have HX : Hid (nxt (at_ a0 a1 l0 s) a0 (a0 + l0) a1 (a1 + l1) = (a0, false)) := nxt_stop hg (by omega)
          have hse : s + 1 = l0 + l1 := by omega
          rw [hse] at hown2
          have hex : ∃ gg capg, u18 = .slice (some ⟨gg, 0, none⟩) (l0 + l1) capg := by
            rcases hown2.2 with ⟨_, h⟩ | ⟨gg, capg, cur, h, _⟩
            · exact absurd h ht
            · exact ⟨gg, capg, h⟩
          obtain ⟨gg, capg, hv⟩ := hex
          subst hv
          clear hse
          go_wp2_with (go_at_call 5; refine (next_zero (N + 1 + 1) (N + 1) N (at_ a0 a1 l0 s) a0 (a0 + l0) a1 (a1 + l1) _ hbd k1 k2 hc hf q0 q1 q2 q3).mono ?_; rw [HX.out]; rintro e w3 ⟨rfl, q, rfl⟩)
          have own5 := ownsRow_drewN (ownsRow_setCell_below hown2 (a := ⟨N + 1, 0, none⟩) (by show N + 1 < N + 3; omega) (.int .i64 a0)) q
          have hk5 := (hk.setCell 0 (.int .i64 a0)).drewN q
          have cw : ∀ k, k < l0 + l1 → ((wr.setCell ⟨N + 1, 0, none⟩ (.int .i64 a0)).drewN q).cell? ⟨gw, k, none⟩ = some (.int .i64 (at_ a0 a1 l0 k)) := fun k hkl => (hk5.cell (p := ⟨gw, k, none⟩) (by show gw < N + 3; omega) (by show gw ≠ N + 1; omega)).trans (firsts_cell hownw k hkl)
          have cg : ∀ k, k < l0 + l1 → ((wr.setCell ⟨N + 1, 0, none⟩ (.int .i64 a0)).drewN q).cell? ⟨gg, k, none⟩ = some (.int .i64 (at_ a0 a1 l0 k)) := fun k hkl => firsts_cell own5 k hkl
          have bel5 := hk5.below bel1 (by omega) (by omega)
          obtain ⟨W5, hW5⟩ : ∃ W5, (wr.setCell ⟨N + 1, 0, none⟩ (.int .i64 a0)).drewN q = W5 := ⟨_, rfl⟩
          rw [hW5] at cw cg bel5 ⊢
          clear hW5 own5 hk5 hown2 hk hc hf k1 k2 q0 q1 q2 q3 HX hownw own0 LA lc lf bel1
          go_loopw [115, 21] (fun i _ w6 => ∃ k q : Nat, k ≤ l0 + l1 ∧ i = .int .i64 k ∧ w6 = W5.drewN q)
            (fun i _ _ => (l0 + l1) - (intOf i).toNat)
          case atStart => exact ⟨0, 0, Nat.zero_le _, rfl, rfl⟩
          case round =>
            obtain ⟨k, q', hkl, rfl, rfl⟩ := hrel
            by_cases hlt3 : k < l0 + l1
            · have c1 := cw k hlt3
              have c2 := cg k hlt3
              clear cw cg
              have t3 : (at_ a0 a1 l0 k != at_ a0 a1 l0 k) = false := by simp
              go_wp2
              go_quiet (fail)
              go_wp2
              go_roundw
              case rel => exact ⟨k + 1, q' + nq, by omega, by go_num, by first | rfl | exact World.drewN_drewN _ _ _⟩
              case measure => simp [intOf]; omega
            · go_wp2
              go_ret
              exact ⟨rfl, bel5.trans ⟨rfl, rfl, rfl, Nat.le_refl _, fun _ _ => rfl⟩⟩

set_option maxRecDepth 100000 in
set_option maxHeartbeats 1000000 in
theorem walk_none (a0 : Int) (g : Nat) (w : World) (h0 : -32768 ≤ a0 ∧ a0 ≤ 32767) (h2 : g ≤ 255) :
    Calls Yba.prog 4 #[.int .i16 a0, .int .u8 0, .int .u8 g, .int .u8 0] w fun e w' => e = .returned (.bool true) ∧ Below w.heap.size w w' := by
  go_enter Yba.func4, Yba.ntmps4
  go_wp2
  go_ret
  exact ⟨rfl, Below.refl _ _⟩
theorem walk_any (a0 : Int) (l0 g l1 : Nat) (w : World) (h0 : -32768 ≤ a0 ∧ a0 ≤ 32767) (h1 : l0 ≤ 255) (h2 : g ≤ 255) (h3 : l1 ≤ 255) :
    Calls Yba.prog 4 #[.int .i16 a0, .int .u8 l0, .int .u8 g, .int .u8 l1] w fun e w' => e = .returned (.bool true) ∧ Below w.heap.size w w' := by
  by_cases ht : l0 + l1 = 0
  · obtain rfl : l0 = 0 := by omega
    obtain rfl : l1 = 0 := by omega
    exact walk_none a0 g w h0 h2
  · by_cases hl : l0 = 0
    · exact walk_zero a0 l0 g l1 w h0 h1 h2 h3 ht hl
    · exact walk_pos a0 l0 g l1 w h0 h1 h2 h3 ht hl
end Go.Proofs.Ybulkbpqo
