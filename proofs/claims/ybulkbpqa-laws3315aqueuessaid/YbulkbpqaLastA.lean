/- The state of the last loop of 'newDeliveryWatch' (function 9), and its steps. -/
import Derived.Test.YbulkbpqaPlaceA
namespace Go.Proofs.Ybulkbpqa
open Go.RowKit
set_option linter.unusedVariables false

theorem Yba.infA41 : (Yba.prog.info? 41).map (fun i => (i.zero, i.size, i.bytes)) = some (some (.agg #[.int .i64 0, .int .i64 0]), 2, 16) := by kernel_rfl

def encQ (s : Nat → Aw) (j : Nat) : List Value := [.int .i64 (s j).snd, .int .i64 j]
/-- the rows of the queues -/
def QL (s : Nat → Aw) (h k : Nat) (qv : Nat → Value) : List RwA := (List.range h).map fun r => ⟨41, 2, qv r, (headsA s k r).length, (headsA s k r).flatMap (encQ s)⟩

/-- the blocks lie apart -/
structure Gd (w : World) (D Qb Ab g base : Nat) : Prop where
  gA : g ≠ Ab
  gQ : g ≠ Qb
  gD : g ≠ D
  qA : Qb ≠ Ab
  qD : Qb ≠ D
  aD : Ab ≠ D
  gb : g < base
  qb : Qb < base
  ab : Ab < base
  db : D < base
  gw : w.heap.size ≤ g
  qw : w.heap.size ≤ Qb
  aw : w.heap.size ≤ Ab
  dw : w.heap.size ≤ D

structure LR (s : Nat → Aw) (ao : Option Addr) (h n c5 T D Qb Ab base : Nat) (w : World) (ka kq : Nat) (W : World) : Prop where
  at_ : ∃ p : Nat → Nat, W.rowIs Ab 3 n (fun j => .int .i64 (p j)) ∧ ∀ i, i < ka → p (s i).rcp.toNat = i
  qs : ∃ qv : Nat → Value, W.rowIs Qb 39 h qv ∧ Sep W base (QL s h kq qv)
  d : W.heap[D]? = some (.cells #[.pointer (some ⟨T, 0, none⟩), .slice (some ⟨Qb, 0, none⟩) h h, .slice ao n c5, .slice (some ⟨Ab, 0, none⟩) n n, .int .i64 0] 34 (0, 0))
  bel : Below w.heap.size w W
  bs : base ≤ W.heap.size

theorem LR.setG {s : Nat → Aw} {ao : Option Addr} {h n c5 T D Qb Ab base : Nat} {w : World} {ka kq g : Nat} {W : World} (H : LR s ao h n c5 T D Qb Ab base w ka kq W) (G : Gd w D Qb Ab g base) (x : Nat) (v : Value) : LR s ao h n c5 T D Qb Ab base w ka kq (W.setCell ⟨g, x, none⟩ v) := by
  obtain ⟨p, hp, hq⟩ := H.at_
  obtain ⟨qv, h1, h2⟩ := H.qs
  refine ⟨⟨p, hp.setOther (a := ⟨g, x, none⟩) G.gA.symm v, hq⟩, ⟨qv, h1.setOther (a := ⟨g, x, none⟩) G.gQ.symm v, h2.set (a := ⟨g, x, none⟩) G.gb v⟩, ?_, H.bel.setCell (p := ⟨g, x, none⟩) G.gw v, ?_⟩
  · rw [Below.heap_setCell _ _ _ _ (fun e => G.gD e.symm)]; exact H.d
  · simpa [World.setCell] using H.bs
theorem LR.drew {s : Nat → Aw} {ao : Option Addr} {h n c5 T D Qb Ab base : Nat} {w : World} {ka kq : Nat} {W : World} (H : LR s ao h n c5 T D Qb Ab base w ka kq W) : LR s ao h n c5 T D Qb Ab base w ka kq W.drew := by
  obtain ⟨p, hp, hq⟩ := H.at_
  obtain ⟨qv, h1, h2⟩ := H.qs
  exact ⟨⟨p, hp, hq⟩, ⟨qv, h1, h2.of_below fun _ _ _ => rfl⟩, H.d, H.bel.drew, H.bs⟩
theorem LR.drewN {s : Nat → Aw} {ao : Option Addr} {h n c5 T D Qb Ab base : Nat} {w : World} {ka kq : Nat} {W : World} (H : LR s ao h n c5 T D Qb Ab base w ka kq W) (q : Nat) : LR s ao h n c5 T D Qb Ab base w ka kq (W.drewN q) := by
  obtain ⟨p, hp, hq⟩ := H.at_
  obtain ⟨qv, h1, h2⟩ := H.qs
  refine ⟨⟨p, hp, hq⟩, ⟨qv, h1, h2.of_below fun _ _ _ => rfl⟩, H.d, ?_, H.bs⟩
  exact H.bel.comp (m := w.heap.size) ⟨rfl, rfl, rfl, Nat.le_refl _, fun _ _ => rfl⟩ (Nat.le_refl _)
theorem LR.at_cell {s : Nat → Aw} {ao : Option Addr} {h n c5 T D Qb Ab base : Nat} {w : World} {ka kq : Nat} {W : World} (H : LR s ao h n c5 T D Qb Ab base w ka kq W) {j : Nat} (hj : j < n) : (∃ v, W.cell? ⟨Ab, j, none⟩ = some (.int .i64 v)) ∧ W.frozen? ⟨Ab, j, none⟩ = false := by
  obtain ⟨p, hp, _⟩ := H.at_
  exact ⟨⟨_, hp.cell hj⟩, hp.frozen j⟩
theorem LR.d1 {s : Nat → Aw} {ao : Option Addr} {h n c5 T D Qb Ab base : Nat} {w : World} {ka kq : Nat} {W : World} (H : LR s ao h n c5 T D Qb Ab base w ka kq W) : W.cell? ⟨D, 1, none⟩ = some (.slice (some ⟨Qb, 0, none⟩) h h) := by
  rw [cell_of_row _ D 1 _ 34 (0, 0) H.d]; rfl
theorem LR.d3 {s : Nat → Aw} {ao : Option Addr} {h n c5 T D Qb Ab base : Nat} {w : World} {ka kq : Nat} {W : World} (H : LR s ao h n c5 T D Qb Ab base w ka kq W) : W.cell? ⟨D, 3, none⟩ = some (.slice (some ⟨Ab, 0, none⟩) n n) := by
  rw [cell_of_row _ D 3 _ 34 (0, 0) H.d]; rfl
/-- region 21: at[receipt] = k -/
theorem LR.setAt {hh : Nat} {E : List RawE} {s : Nat → Aw} {ao : Option Addr} {h n c5 T D Qb Ab base g : Nat} {w : World} {k kq j : Nat} {W : World} (H : LR s ao h n c5 T D Qb Ab base w k kq W) (G : Gd w D Qb Ab g base) (S : Srt hh E n s) (hk : k < n) (hj : (s k).rcp = j) :
    LR s ao h n c5 T D Qb Ab base w (k + 1) kq (W.setCell ⟨Ab, j, none⟩ (.int .i64 k)) := by
  obtain ⟨p, hp, hq⟩ := H.at_
  obtain ⟨qv, h1, h2⟩ := H.qs
  refine ⟨⟨fun x => if x = j then k else p x, ?_, fun i hi => ?_⟩, ⟨qv, h1.setOther (a := ⟨Ab, j, none⟩) G.qA _, h2.set (a := ⟨Ab, j, none⟩) G.ab _⟩, ?_, H.bel.setCell (p := ⟨Ab, j, none⟩) G.aw _, ?_⟩
  · refine (hp.set j (.int .i64 k)).congr fun x _ => ?_
    by_cases e : x = j
    · simp [e]
    · simp [e]
  · show (if (s i).rcp.toNat = j then k else p (s i).rcp.toNat) = i
    by_cases e : i = k
    · subst e
      rw [hj, if_pos (by simp)]
    · have hne : (s i).rcp ≠ (s k).rcp := fun e' => e (S.inj i k (by omega) hk e')
      obtain ⟨j', _, hj'⟩ := S.rcp (show i < n by omega)
      rw [if_neg (by omega)]
      exact hq i (by omega)
  · rw [Below.heap_setCell _ _ _ _ (fun e => G.aD e.symm)]; exact H.d
  · simpa [World.setCell] using H.bs
theorem heads_same {s : Nat → Aw} {k : Nat} (hs : sameA s k = true) (r : Int) : headsA s (k + 1) r = headsA s k r := by
  rw [headsA_succ, if_neg (fun e => by rw [hs] at e; cases e.2)]; simp
theorem heads_other {s : Nat → Aw} {k : Nat} {r : Int} (hr : (s k).rcv ≠ r) : headsA s (k + 1) r = headsA s k r := by
  rw [headsA_succ, if_neg (fun e => hr e.1)]; simp
theorem heads_new {s : Nat → Aw} {k : Nat} {r : Int} (hr : (s k).rcv = r) (hs : sameA s k = false) : headsA s (k + 1) r = headsA s k r ++ [k] := by
  rw [headsA_succ, if_pos ⟨hr, hs⟩]
theorem QL_same {s : Nat → Aw} {k : Nat} (hs : sameA s k = true) (h : Nat) (qv : Nat → Value) : QL s h (k + 1) qv = QL s h k qv := by
  unfold QL
  refine List.map_congr_left fun r _ => ?_
  rw [heads_same hs]
theorem LR.same {s : Nat → Aw} {ao : Option Addr} {h n c5 T D Qb Ab base : Nat} {w : World} {ka k : Nat} {W : World} (H : LR s ao h n c5 T D Qb Ab base w ka k W) (hs : sameA s k = true) : LR s ao h n c5 T D Qb Ab base w ka (k + 1) W := by
  obtain ⟨qv, h1, h2⟩ := H.qs
  exact ⟨H.at_, ⟨qv, h1, by rw [QL_same hs]; exact h2⟩, H.d, H.bel, H.bs⟩
theorem range_split {r h : Nat} (hr : r < h) : List.range h = List.range r ++ r :: List.range' (r + 1) (h - (r + 1)) := by
  have h1 : List.range' 0 h = List.range' 0 r ++ List.range' (0 + r) (h - r) := by rw [List.range'_append_1, show r + (h - r) = h by omega]
  rw [List.range_eq_range', List.range_eq_range', h1]
  congr 1
  rw [show h - r = (h - (r + 1)) + 1 by omega, List.range'_succ, Nat.zero_add]
theorem QL_split {s : Nat → Aw} {h k r : Nat} (hr : r < h) (qv : Nat → Value) : QL s h k qv = ((List.range r).map fun x => ⟨41, 2, qv x, (headsA s k x).length, (headsA s k x).flatMap (encQ s)⟩) ++ ⟨41, 2, qv r, (headsA s k r).length, (headsA s k r).flatMap (encQ s)⟩ :: ((List.range' (r + 1) (h - (r + 1))).map fun x => ⟨41, 2, qv x, (headsA s k x).length, (headsA s k x).flatMap (encQ s)⟩) := by
  unfold QL
  rw [range_split hr, List.map_append, List.map_cons]
theorem QL_owns {s : Nat → Aw} {h k r base : Nat} {W : World} {qv : Nat → Value} (H : Sep W base (QL s h k qv)) (hr : r < h) : W.ownsRow base 41 2 (qv r) (headsA s k r).length ((headsA s k r).flatMap (encQ s)) :=
  H.owns ⟨41, 2, qv r, (headsA s k r).length, (headsA s k r).flatMap (encQ s)⟩ (List.mem_map.2 ⟨r, List.mem_range.2 hr, rfl⟩)
/-- region 27: the queue grows by one run -/
theorem LR.app {s : Nat → Aw} {ao : Option Addr} {h n c5 T D Qb Ab base g : Nat} {w : World} {ka k r : Nat} {W Wa W1 : World} {qv : Nat → Value} {v1 : Value} (H : LR s ao h n c5 T D Qb Ab base w ka k W) (G : Gd w D Qb Ab g base) (h1 : W.rowIs Qb 39 h qv) (h2 : Sep W base (QL s h k qv)) (hr : r < h) (hrc : (s k).rcv = (r : Nat)) (hns : sameA s k = false)
    (ba : Below W.heap.size W Wa) (hown : W1.ownsRow base 41 2 v1 ((headsA s k r).length + 1) ((headsA s k r).flatMap (encQ s) ++ encQ s k)) (hg : Wa.grownBy W1 (qv r).ownBlock) (hat : v1.ownBlock = (qv r).ownBlock ∨ v1.ownBlock = some Wa.heap.size) :
    LR s ao h n c5 T D Qb Ab base w ka (k + 1) (W1.setCell ⟨Qb, r, none⟩ v1) := by
  have hbw : base ≤ W.heap.size := H.bs
  have hbl := (QL_owns h2 hr).lt
  have hlow : ∀ b, b < base → W1.heap[b]? = W.heap[b]? := by
    intro b hb
    have hne : some b ≠ (qv r).ownBlock := fun e => by have := (hbl b e.symm).1; omega
    rw [hg.block b (by have := ba.size; omega) hne, ba.block b (by omega)]
  obtain ⟨p, hp, hq⟩ := H.at_
  have h2a : Sep Wa base (QL s h k qv) := h2.of_below fun b _ hb => ba.block b hb
  have h2a' := h2a
  rw [QL_split hr] at h2a'
  have h3 := h2a'.app hown hg hat
  have bel1 : Below base W W1 := ((Below.refl base W).comp ba (by omega)).grown hg (by have := ba.size; omega) (fun b hb => (hbl b hb).1)
  refine ⟨⟨p, (hp.of_block (hlow Ab G.ab)).setOther (a := ⟨Qb, r, none⟩) G.qA.symm v1, hq⟩, ⟨fun x => if x = r then v1 else qv x, (h1.of_block (hlow Qb G.qb)).set r v1, ?_⟩, ?_, ?_, ?_⟩
  · refine Sep.set ?_ (a := ⟨Qb, r, none⟩) G.qb v1
    have e : QL s h (k + 1) (fun x => if x = r then v1 else qv x) = ((List.range r).map fun x => ⟨41, 2, qv x, (headsA s k x).length, (headsA s k x).flatMap (encQ s)⟩) ++ ⟨41, 2, v1, (headsA s k r).length + 1, (headsA s k r).flatMap (encQ s) ++ encQ s k⟩ :: ((List.range' (r + 1) (h - (r + 1))).map fun x => ⟨41, 2, qv x, (headsA s k x).length, (headsA s k x).flatMap (encQ s)⟩) := by
      rw [QL_split hr, heads_new hrc hns]
      congr 1
      · refine List.map_congr_left fun x hx => ?_
        have := List.mem_range.1 hx
        rw [if_neg (by omega), heads_other (by omega)]
      · congr 1
        · simp
        · refine List.map_congr_left fun x hx => ?_
          have := (List.mem_range'_1.1 hx).1
          rw [if_neg (by omega), heads_other (by omega)]
    rw [e]
    exact h3
  · rw [Below.heap_setCell _ _ _ _ (fun e => G.qD e.symm), hlow D G.db]; exact H.d
  · have hwb : w.heap.size ≤ base := by have := G.dw; have := G.db; omega
    exact (H.bel.comp bel1 hwb).setCell (p := ⟨Qb, r, none⟩) G.qw v1
  · have := bel1.size
    simp [World.setCell]; omega

theorem F6_self (s : Nat → Aw) (k : Nat) : F6 s k k = { s k with prev := prevA s k, next := nextA s (k + 1) k } := by unfold F6; rw [if_pos rfl]
/-- what region 27 reads -/
structure CR27 (D Qb g k h r : Nat) (sd : Int) (qr : Value) (W : World) : Prop where
  x0 : W.cell? ⟨D, 1, none⟩ = some (.slice (some ⟨Qb, 0, none⟩) h h)
  x1 : W.cell? ⟨g, k * 8 + 1, none⟩ = some (.int .i64 r)
  x2 : W.cell? ⟨g, k * 8 + 2, none⟩ = some (.int .i64 sd)
  x3 : W.cell? ⟨Qb, r, none⟩ = some qr
theorem CR27.blocks {D Qb g k h r : Nat} {sd : Int} {qr : Value} {W W' : World} (H : CR27 D Qb g k h r sd qr W) (h0 : W'.heap[D]? = W.heap[D]?) (h1 : W'.heap[g]? = W.heap[g]?) (h2 : W'.heap[Qb]? = W.heap[Qb]?) : CR27 D Qb g k h r sd qr W' :=
  ⟨(World.cell?_of_block (a := ⟨D, 1, none⟩) h0).trans H.x0, (World.cell?_of_block (a := ⟨g, k * 8 + 1, none⟩) h1).trans H.x1, (World.cell?_of_block (a := ⟨g, k * 8 + 2, none⟩) h1).trans H.x2, (World.cell?_of_block (a := ⟨Qb, r, none⟩) h2).trans H.x3⟩
/-- what region 28 reads -/
structure CR28 (D Qb g k h r : Nat) (qr : Value) (W : World) : Prop where
  x0 : W.cell? ⟨D, 1, none⟩ = some (.slice (some ⟨Qb, 0, none⟩) h h)
  x1 : W.cell? ⟨g, k * 8 + 1, none⟩ = some (.int .i64 r)
  x3 : W.cell? ⟨Qb, r, none⟩ = some qr
theorem slice_ofQ {W : World} {base q : Nat} {v : Value} {xs : List Value} (h : W.ownsRow base 41 2 v q xs) : ∃ a c, v = .slice a q c := by
  rcases h.2 with ⟨h0, h1⟩ | ⟨g, c, cur, hv, _⟩
  · exact ⟨none, 0, by rw [h0, h1]⟩
  · exact ⟨_, c, hv⟩
theorem cells_two (W : World) (n : Nat) (hn : W.heap.size = n) (u v : Value) (t : TypeId) : ∀ (j : Nat) (x : Value), [u, v][j]? = some x → (W.alloc (.cells #[u, v] t)).cell? ((⟨n, 0, none⟩ : Addr).add j) = some x := by
  subst hn
  intro j x hj
  have hadd : (⟨W.heap.size, 0, none⟩ : Addr).add j = ⟨W.heap.size, j, none⟩ := by unfold Addr.add; split <;> simp_all
  rw [hadd, cell_of_row _ W.heap.size j #[u, v] t (0, 0) (heap_alloc_new W _)]
  simpa using hj
theorem encQ_one (s : Nat → Aw) (k : Nat) : ∀ u ∈ encQ s k, u.oneCell' = true := by
  intro u hu
  simp [encQ] at hu
  rcases hu with rfl | rfl <;> rfl

/-- the watch at its start -/
theorem lr_start {s : Nat → Aw} {ao : Option Addr} {h n c5 T D Qb Ab : Nat} {w w1 W : World} (H : Watch0 ao W w1 T h n c5 D Qb Ab) (hb : Below w.heap.size w w1) : LR s ao h n c5 T D Qb Ab W.heap.size w 0 0 W := by
  refine ⟨⟨fun _ => 0, H.a, fun i hi => absurd hi (by omega)⟩, ⟨_, H.q, Sep.nils _ _ _ fun r hr => ?_⟩, H.d, hb.comp H.bel hb.size, Nat.le_refl _⟩
  obtain ⟨x, _, rfl⟩ := List.mem_map.1 hr
  exact ⟨rfl, rfl, rfl⟩
theorem gd_start {ao : Option Addr} {h n c5 T D Qb Ab g : Nat} {w w1 W : World} (H : Watch0 ao W w1 T h n c5 D Qb Ab) (hb : Below w.heap.size w w1) (hg : w.heap.size ≤ g) (hg1 : g < w1.heap.size) : Gd w D Qb Ab g W.heap.size := by
  have h1 := hb.size
  have h2 := H.bel.size
  have h3 := H.nq
  have h4 := H.na
  have h5 := H.nd
  have hd : D < W.heap.size := (Array.getElem?_eq_some_iff.1 H.d).1
  have hq : Qb < W.heap.size := H.q.lt
  have ha : Ab < W.heap.size := H.a.lt
  exact ⟨by omega, by omega, by omega, H.qa, H.qd, H.ad, by omega, hq, ha, hd, hg, by omega, by omega, by omega⟩
/-- the watch at its end -/
structure WaA (h : Nat) (E : List RawE) (n : Nat) (f : Nat → Aw) (ao : Option Addr) (T D Qb Ab g c5 base : Nat) (w W : World) : Prop where
  srt : Srt h E n f
  hao : 0 < n → ao = some ⟨g, 0, none⟩
  aw : 0 < n → AwRow W g n (FE f n)
  lr : LR f ao h n c5 T D Qb Ab base w n n W
end Go.Proofs.Ybulkbpqa
