/- Helpers of the walk of 'newDeliveryWatch' (function 9). -/
import Derived.Test.YbulkbpqaAwA
import Derived.Test.YbulkbpqaOrderA
import Derived.Test.YbulkbpqaRowA
import Derived.Test.YbulkbpqaLinkA
import Derived.Deep.CutRange
import Derived.Deep.QuietTactic
import Derived.BigQuiet
namespace Go.Proofs.Ybulkbpqa
open Go.RowKit
set_option linter.unusedVariables false

theorem Yba.infA39 : (Yba.prog.info? 39).map (fun i => (i.zero, i.size, i.bytes)) = some (some (.slice none 0 0), 1, 24) := by kernel_rfl
structure CR16 (T Hb h : Nat) (W : World) : Prop where
  x0 : W.cell? ⟨T, 0, none⟩ = some (.slice (some ⟨Hb, 0, none⟩) h h)
theorem CR16.alloc {T Hb h : Nat} {W : World} (H : CR16 T Hb h W) (hT : T < W.heap.size) (o : Obj) : CR16 T Hb h (W.alloc o) :=
  ⟨(World.cell?_of_block (a := ⟨T, 0, none⟩) (Below.heap_alloc W o T hT)).trans H.x0⟩
structure CR21 (D Ab g k n j : Nat) (W : World) : Prop where
  x0 : W.cell? ⟨D, 3, none⟩ = some (.slice (some ⟨Ab, 0, none⟩) n n)
  x1 : W.cell? ⟨g, k * 8 + 4, none⟩ = some (.int .i64 j)
def F3 (s : Nat → Aw) (k j : Nat) : Aw := if j = k then { s k with prev := (k : Int) - 1, next := (k : Int) + 1 } else FA s k j
theorem link3 {W : World} {g n k : Nat} {s : Nat → Aw} (h : AwRow W g n (FA s k)) (hk : k < n) : AwRow ((W.setCell ⟨g, k * 8 + 6, none⟩ (.int .i64 ((k : Int) - 1))).setCell ⟨g, k * 8 + 7, none⟩ (.int .i64 ((k : Int) + 1))) g n (F3 s k) := by
  have h1 := h.set hk (show 6 < 8 by omega) (.int .i64 ((k : Int) - 1)) { s k with prev := (k : Int) - 1 } (by
    intro c' hc'
    rw [FA_ge s (Nat.le_refl k)]
    match c', hc' with
    | 0, _ | 1, _ | 2, _ | 3, _ | 4, _ | 5, _ | 6, _ | 7, _ => rfl)
  have h2 := h1.set hk (show 7 < 8 by omega) (.int .i64 ((k : Int) + 1)) { s k with prev := (k : Int) - 1, next := (k : Int) + 1 } (by
    intro c' hc'
    rw [if_pos rfl]
    match c', hc' with
    | 0, _ | 1, _ | 2, _ | 3, _ | 4, _ | 5, _ | 6, _ | 7, _ => rfl)
  refine h2.congr fun j _ => ?_
  unfold F3
  by_cases e : j = k
  · simp only [if_pos e]
  · simp only [if_neg e]
/-- the state of the last loop -/
structure LS (s : Nat → Aw) (ao : Option Addr) (h n g c5 T D Qb Ab base k : Nat) (W : World) : Prop where
  aw : 0 < n → AwRow W g n (FA s k)
  at_ : ∃ p : Nat → Nat, W.rowIs Ab 3 n (fun j => .int .i64 (p j)) ∧ ∀ i, i < k → p (s i).rcp.toNat = i
  qs : ∃ qv : Nat → Value, W.rowIs Qb 39 h qv ∧ Sep W base ((List.range h).map fun r => ⟨41, 2, qv r, (headsA s k r).length, (headsA s k r).flatMap fun j => [.int .i64 (s j).snd, .int .i64 j]⟩)
  d : W.heap[D]? = some (.cells #[.pointer (some ⟨T, 0, none⟩), .slice (some ⟨Qb, 0, none⟩) h h, .slice ao n c5, .slice (some ⟨Ab, 0, none⟩) n n, .int .i64 0] 34 (0, 0))
/-- the watch as it is made, ahead of the last loop -/
structure Watch0 (ao : Option Addr) (W' W : World) (T h n c5 D Qb Ab : Nat) : Prop where
  bel : Below W.heap.size W W'
  nq : W.heap.size ≤ Qb
  na : W.heap.size ≤ Ab
  nd : W.heap.size ≤ D
  qa : Qb ≠ Ab
  qd : Qb ≠ D
  ad : Ab ≠ D
  q : W'.rowIs Qb 39 h (fun _ => .slice none 0 0)
  a : W'.rowIs Ab 3 n (fun _ => .int .i64 0)
  d : W'.heap[D]? = some (.cells #[.pointer (some ⟨T, 0, none⟩), .slice (some ⟨Qb, 0, none⟩) h h, .slice ao n c5, .slice (some ⟨Ab, 0, none⟩) n n, .int .i64 0] 34 (0, 0))

theorem watch0_qa {ao : Option Addr} {W wd : World} {T h n c5 : Nat} (bd : Below W.heap.size W wd) :
    Watch0 ao (((wd.alloc (.cells (madeCells #[.slice none 0 0] h) 39)).alloc (.cells (madeCells #[.int .i64 0] n) 3)).alloc (.cells #[.pointer (some ⟨T, 0, none⟩), .slice (some ⟨wd.heap.size, 0, none⟩) h h, .slice ao n c5, .slice (some ⟨wd.heap.size + 1, 0, none⟩) n n, .int .i64 0] 34)) W T h n c5 (wd.heap.size + 1 + 1) wd.heap.size (wd.heap.size + 1) := by
  have hs := bd.size
  refine ⟨((bd.alloc hs _).alloc (by simp; omega) _).alloc (by simp; omega) _, hs, by omega, by omega, by omega, by omega, by omega, ?_, ?_, ?_⟩
  · exact ((World.rowIs_made wd (.slice none 0 0) h 39).alloc _).alloc _
  · have := (World.rowIs_made (wd.alloc (.cells (madeCells #[.slice none 0 0] h) 39)) (.int .i64 0) n 3).alloc (.cells #[.pointer (some ⟨T, 0, none⟩), .slice (some ⟨wd.heap.size, 0, none⟩) h h, .slice ao n c5, .slice (some ⟨wd.heap.size + 1, 0, none⟩) n n, .int .i64 0] 34)
    rw [World.size_alloc] at this
    exact this
  · have := heap_alloc_new ((wd.alloc (.cells (madeCells #[.slice none 0 0] h) 39)).alloc (.cells (madeCells #[.int .i64 0] n) 3)) (.cells #[.pointer (some ⟨T, 0, none⟩), .slice (some ⟨wd.heap.size, 0, none⟩) h h, .slice ao n c5, .slice (some ⟨wd.heap.size + 1, 0, none⟩) n n, .int .i64 0] 34)
    rw [World.size_alloc, World.size_alloc] at this
    exact this
theorem watch0_aq {ao : Option Addr} {W wd : World} {T h n c5 : Nat} (bd : Below W.heap.size W wd) :
    Watch0 ao (((wd.alloc (.cells (madeCells #[.int .i64 0] n) 3)).alloc (.cells (madeCells #[.slice none 0 0] h) 39)).alloc (.cells #[.pointer (some ⟨T, 0, none⟩), .slice (some ⟨wd.heap.size + 1, 0, none⟩) h h, .slice ao n c5, .slice (some ⟨wd.heap.size, 0, none⟩) n n, .int .i64 0] 34)) W T h n c5 (wd.heap.size + 1 + 1) (wd.heap.size + 1) wd.heap.size := by
  have hs := bd.size
  refine ⟨((bd.alloc hs _).alloc (by simp; omega) _).alloc (by simp; omega) _, by omega, hs, by omega, by omega, by omega, by omega, ?_, ?_, ?_⟩
  · have := (World.rowIs_made (wd.alloc (.cells (madeCells #[.int .i64 0] n) 3)) (.slice none 0 0) h 39).alloc (.cells #[.pointer (some ⟨T, 0, none⟩), .slice (some ⟨wd.heap.size + 1, 0, none⟩) h h, .slice ao n c5, .slice (some ⟨wd.heap.size, 0, none⟩) n n, .int .i64 0] 34)
    rw [World.size_alloc] at this
    exact this
  · exact ((World.rowIs_made wd (.int .i64 0) n 3).alloc _).alloc _
  · have := heap_alloc_new ((wd.alloc (.cells (madeCells #[.int .i64 0] n) 3)).alloc (.cells (madeCells #[.slice none 0 0] h) 39)) (.cells #[.pointer (some ⟨T, 0, none⟩), .slice (some ⟨wd.heap.size + 1, 0, none⟩) h h, .slice ao n c5, .slice (some ⟨wd.heap.size, 0, none⟩) n n, .int .i64 0] 34)
    rw [World.size_alloc, World.size_alloc] at this
    exact this

theorem recsOf_mem {h : Nat} {E : List RawE} {i : Nat} {r : RecA} (hr : r ∈ recsOf h E i) : r.s < i ∧ r.rcv = hostA h E i := by
  unfold recsOf at hr
  by_cases h0 : i = 0
  · rw [if_pos h0] at hr; cases hr
  · rw [if_neg h0] at hr
    obtain ⟨x, _, rfl⟩ := List.mem_map.1 hr
    refine ⟨?_, rfl⟩
    show (x.1 % (i : Int)).toNat < i
    have h1 := Int.emod_nonneg x.1 (show (i : Int) ≠ 0 by omega)
    have h2 := Int.emod_lt_of_pos x.1 (show (0 : Int) < i by omega)
    omega
theorem msg_at {h : Nat} {E : List RawE} {W : World} {T Hb Eb cap g i k : Nat} {ao : Option Addr} {r : RecA} (H : TrR h E W T Hb Eb ao cap) (hao : ao = some ⟨g, 0, none⟩) (hi : i < E.length) (hr : (recsOf h E i)[k]? = some r) :
    W.cell? ⟨g, (recsA h E i).length * 2 + k * 2, none⟩ = some (.string r.id) ∧ W.cell? ⟨g, (recsA h E i).length * 2 + k * 2 + 1, none⟩ = some (.int .i64 r.s) := by
  rcases H.ms with ⟨h0, _⟩ | ⟨g', hg', _, hm⟩
  · rw [h0] at hao; cases hao
  · rw [hg'] at hao
    cases hao
    obtain ⟨t, ht⟩ := recsA_mono h E (show i + 1 ≤ E.length by omega)
    have hk : k < (recsOf h E i).length := (List.getElem?_eq_some_iff.1 hr).1
    have hget : (recsA h E E.length)[(recsA h E i).length + k]? = some r := by
      rw [ht, recsA, List.append_assoc, List.getElem?_append_right (by omega), List.getElem?_append_left (by omega)]
      rw [show (recsA h E i).length + k - (recsA h E i).length = k by omega]
      exact hr
    have hlt := (List.getElem?_eq_some_iff.1 hget).1
    have := hm _ hlt
    rw [List.getD_eq_getElem?_getD, hget] at this
    rw [show (recsA h E i).length * 2 + k * 2 = ((recsA h E i).length + k) * 2 by omega]
    exact this

/-- what region 12 reads -/
structure CR12 (cp C T Eb N : Nat) (rid : ByteArray) (rs rr L hst own : Nat) (W : World) : Prop where
  x0 : W.cell? ⟨cp, 0, none⟩ = some (.string rid)
  x1 : W.cell? ⟨cp, 1, none⟩ = some (.int .i64 rs)
  x2 : W.cell? ⟨C, 0, none⟩ = some (.int .i64 rr)
  x3 : W.cell? ⟨T, 1, none⟩ = some (.slice (some ⟨Eb, 0, none⟩) L L)
  x4 : W.cell? ⟨Eb, rs * 4, none⟩ = some (.int .i64 hst)
  x5 : W.cell? ⟨N, rs, none⟩ = some (.int .i64 own)

theorem CR12.below {cp C T Eb N : Nat} {rid : ByteArray} {rs rr L hst own n : Nat} {W W' : World} (H : CR12 cp C T Eb N rid rs rr L hst own W) (hb : Below n W W') (h0 : cp < n) (h1 : C < n) (h2 : T < n) (h3 : Eb < n) (h4 : N < n) : CR12 cp C T Eb N rid rs rr L hst own W' :=
  ⟨(hb.cell (p := ⟨cp, 0, none⟩) h0).trans H.x0, (hb.cell (p := ⟨cp, 1, none⟩) h0).trans H.x1, (hb.cell (p := ⟨C, 0, none⟩) h1).trans H.x2, (hb.cell (p := ⟨T, 1, none⟩) h2).trans H.x3, (hb.cell (p := ⟨Eb, rs * 4, none⟩) h3).trans H.x4, (hb.cell (p := ⟨N, rs, none⟩) h4).trans H.x5⟩

theorem CR12.grown {cp C T Eb N : Nat} {rid : ByteArray} {rs rr L hst own : Nat} {W W' : World} {row : Option Nat} (H : CR12 cp C T Eb N rid rs rr L hst own W) (hg : W.grownBy W' row) (h0 : cp < W.heap.size ∧ some cp ≠ row) (h1 : C < W.heap.size ∧ some C ≠ row) (h2 : T < W.heap.size ∧ some T ≠ row) (h3 : Eb < W.heap.size ∧ some Eb ≠ row) (h4 : N < W.heap.size ∧ some N ≠ row) : CR12 cp C T Eb N rid rs rr L hst own W' :=
  have key : ∀ k o, k < W.heap.size ∧ some k ≠ row → W'.cell? ⟨k, o, none⟩ = W.cell? ⟨k, o, none⟩ := fun k o hk => World.cell?_of_block (a := ⟨k, o, none⟩) (hg.block k hk.1 hk.2)
  ⟨(key _ _ h0).trans H.x0, (key _ _ h0).trans H.x1, (key _ _ h1).trans H.x2, (key _ _ h2).trans H.x3, (key _ _ h3).trans H.x4, (key _ _ h4).trans H.x5⟩
theorem encAw_one (x : Aw) : ∀ u ∈ encAw x, u.oneCell' = true := by
  intro u hu
  simp [encAw] at hu
  rcases hu with rfl | rfl | rfl | rfl | rfl | rfl | rfl | rfl <;> rfl
theorem cells_aw (W : World) (n : Nat) (hn : W.heap.size = n) (x : Aw) : ∀ (j : Nat) (u : Value), (encAw x)[j]? = some u → (W.alloc (.cells (encAw x).toArray 36)).cell? ((⟨n, 0, none⟩ : Addr).add j) = some u := by
  subst hn
  intro j u hj
  have hadd : (⟨W.heap.size, 0, none⟩ : Addr).add j = ⟨W.heap.size, j, none⟩ := by unfold Addr.add; split <;> simp_all
  rw [hadd, cell_of_row _ W.heap.size j (encAw x).toArray 36 (0, 0) (heap_alloc_new W _)]
  simpa using hj

end Go.Proofs.Ybulkbpqa
