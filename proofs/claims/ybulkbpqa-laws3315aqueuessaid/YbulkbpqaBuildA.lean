/- The walk of 'zzs3315abuild' (function 8). -/
import Derived.Test.YbulkbpqaPlainA
import Derived.Laws.Tables
namespace Go.Proofs.Ybulkbpqa
open Go.RowKit

theorem Yba.infA3 : (Yba.prog.info? 3).map (fun i => (i.zero, i.size, i.bytes)) = some (some (.int .i64 0), 1, 8) := by kernel_rfl
theorem Yba.infA9 : (Yba.prog.info? 9).map (fun i => (i.zero, i.size, i.bytes)) = some (some (.string ⟨#[]⟩), 1, 16) := by kernel_rfl
theorem Yba.infA63 : (Yba.prog.info? 63).map (fun i => (i.zero, i.size, i.bytes)) = some (some (.agg #[.string ⟨#[]⟩, .int .i64 0]), 2, 24) := by kernel_rfl
theorem Yba.infA67 : (Yba.prog.info? 67).map (fun i => (i.zero, i.size, i.bytes)) = some (some (.agg #[.int .i64 0, .bool false, .int .i64 0, .int .i64 0]), 4, 32) := by kernel_rfl

def msgC (r : RecA) : List Value := [.string r.id, .int .i64 r.s]
def rcvC (r : RecA) : Value := .int .i64 r.rcv
def sndC (h : Nat) (E : List RawE) (r : RecA) : Value := .int .i64 (hostA h E r.s)
def tmC (h : Nat) (E : List RawE) (r : RecA) : Value := .int .i64 (ownA h E r.s)
def idC (r : RecA) : Value := .string r.id
def evcA (h : Nat) (E : List RawE) (i c : Nat) : Value :=
  if c / 4 < i then (if c % 4 = 0 then .int .i64 (hostA h E (c / 4)) else if c % 4 = 1 then .bool false else if c % 4 = 2 then .int .i64 (recsA h E (c / 4 + 1)).length else .int .i64 0)
  else (if c % 4 = 1 then .bool false else .int .i64 0)

structure BA (h : Nat) (E : List RawE) (N i : Nat) (rl : List RecA) (W : World) (v16 v17 v18 v19 v20 : Value) : Prop where
  cnt : W.rowIs (N + 1) 3 h (fun g => .int .i64 (cntA h E i g))
  own : W.rowIs (N + 1 + 1) 3 E.length (fun j => .int .i64 (if j < i then ownA h E j else 0 : Nat))
  evs : W.rowIs (N + 1 + 1 + 1) 67 (E.length * 4) (evcA h E i)
  sep : Sep W (N + 4) [⟨63, 2, v16, rl.length, rl.flatMap msgC⟩, ⟨3, 1, v17, rl.length, rl.map rcvC⟩, ⟨3, 1, v18, rl.length, rl.map (sndC h E)⟩, ⟨3, 1, v19, rl.length, rl.map (tmC h E)⟩, ⟨9, 1, v20, rl.length, rl.map idC⟩]

theorem run_make67 (n : Nat) (hn : n ≤ 1024) (w : World) : (Instr.makeSlice 57 (.int .i64 (n : Int)) (.int .i64 (n : Int))).run Yba.prog w = .ok (.slice (some ⟨w.heap.size, 0, none⟩) n n) (w.alloc (.cells (madeCells #[.int .i64 0, .bool false, .int .i64 0, .int .i64 0] (n * 4)) 67)) := by
  obtain ⟨i, hi, hzz⟩ := Option.map_eq_some_iff.1 Yba.infA67
  simp only [Prod.mk.injEq] at hzz
  obtain ⟨hz, hs, hb⟩ := hzz
  have hr := run_make (P := Yba.prog) w 57 67 i _ Yba.underlying57 hi hz .i64 .i64 n n (by omega) (Int.le_refl _) (by rw [hb]; omega) (by omega)
  simp only [Int.toNat_natCast, hs] at hr
  exact hr

theorem ba_start (h : Nat) (E : List RawE) (len N : Nat) (wr : World) (hsz : wr.heap.size = N + 1) (hl : E.length = len) :
    BA h E N 0 [] (((wr.alloc (.cells (madeCells #[.int .i64 0] h) 3)).alloc (.cells (madeCells #[.int .i64 0] len) 3)).alloc (.cells (madeCells #[.int .i64 0, .bool false, .int .i64 0, .int .i64 0] (len * 4)) 67))
      (.slice none 0 0) (.slice none 0 0) (.slice none 0 0) (.slice none 0 0) (.slice none 0 0) := by
  subst hl
  refine ⟨?_, ?_, ?_, ?_⟩
  · have := ((World.rowIs_made wr (.int .i64 0) h 3).alloc (.cells (madeCells #[.int .i64 0] E.length) 3)).alloc (.cells (madeCells #[.int .i64 0, .bool false, .int .i64 0, .int .i64 0] (E.length * 4)) 67)
    rw [hsz] at this
    exact this.congr fun i _ => by simp [cntA]
  · have := (World.rowIs_made (wr.alloc (.cells (madeCells #[.int .i64 0] h) 3)) (.int .i64 0) E.length 3).alloc (.cells (madeCells #[.int .i64 0, .bool false, .int .i64 0, .int .i64 0] (E.length * 4)) 67)
    rw [World.size_alloc, hsz] at this
    exact this.congr fun i _ => by simp
  · have := World.rowIs_alloc ((wr.alloc (.cells (madeCells #[.int .i64 0] h) 3)).alloc (.cells (madeCells #[.int .i64 0] E.length) 3)) (madeCells #[.int .i64 0, .bool false, .int .i64 0, .int .i64 0] (E.length * 4)) 67 (evcA h E 0) (by
      intro c hc
      rw [size_madeCells] at hc
      have h4 : c % 4 < 4 := Nat.mod_lt _ (by omega)
      have : (madeCells #[.int .i64 0, .bool false, .int .i64 0, .int .i64 0] (E.length * 4))[c]? = some ((#[.int .i64 0, .bool false, .int .i64 0, .int .i64 0] : Array Value)[c % 4]!) := by simp [madeCells, hc]
      rw [this]
      unfold evcA
      rw [if_neg (by omega)]
      generalize c % 4 = m at *
      match m, h4 with
      | 0, _ => rfl
      | 1, _ => rfl
      | 2, _ => rfl
      | 3, _ => rfl)
    rw [size_madeCells, World.size_alloc, World.size_alloc, hsz] at this
    exact this
  · exact Sep.nils _ _ _ (by simp)

theorem BA.below {h : Nat} {E : List RawE} {N i : Nat} {rl : List RecA} {W W' : World} {v16 v17 v18 v19 v20 : Value} {L : List RecA} {u16 u17 u18 u19 u20 : Value} (hB : BA h E N i rl W v16 v17 v18 v19 v20) (hb : Below (N + 4) W W')
    (hs : Sep W' (N + 4) [⟨63, 2, u16, L.length, L.flatMap msgC⟩, ⟨3, 1, u17, L.length, L.map rcvC⟩, ⟨3, 1, u18, L.length, L.map (sndC h E)⟩, ⟨3, 1, u19, L.length, L.map (tmC h E)⟩, ⟨9, 1, u20, L.length, L.map idC⟩]) : BA h E N i L W' u16 u17 u18 u19 u20 :=
  ⟨hB.cnt.of_block (hb.block _ (by omega)), hB.own.of_block (hb.block _ (by omega)), hB.evs.of_block (hb.block _ (by omega)), hs⟩

theorem recsOf_length {h : Nat} {E : List RawE} {i : Nat} (hi : i ≠ 0) : (recsOf h E i).length = (E.getD i (0, [])).2.length := by
  unfold recsOf; rw [if_neg hi, List.length_map]
theorem recsOf_get {h : Nat} {E : List RawE} {i k : Nat} (hi : i ≠ 0) (hk : k < (E.getD i (0, [])).2.length) : (recsOf h E i)[k]? = some (recOf h E i ((E.getD i (0, [])).2.getD k (0, default))) := by
  unfold recsOf
  generalize (E.getD i (0, [])).2 = rs at *
  rw [if_neg hi, List.getElem?_map, List.getD_eq_getElem?_getD, List.getElem?_eq_getElem hk]
  rfl
theorem take_succ_of {α : Type} {l : List α} {k : Nat} {x : α} (h : l[k]? = some x) : l.take (k + 1) = l.take k ++ [x] := by
  rw [List.take_add_one, h]; rfl
/-- the world's blocks that the copies take, and one cell of each -/
theorem cells_two_at (W : World) (n : Nat) (hn : W.heap.size = n) (u v : Value) (t : TypeId) : ∀ (j : Nat) (x : Value), [u, v][j]? = some x → (W.alloc (.cells #[u, v] t)).cell? ((⟨n, 0, none⟩ : Addr).add j) = some x := by
  subst hn
  intro j x hj
  match j, hj with
  | 0, hj => simp at hj; subst hj; simp [Addr.add]
  | 1, hj => simp at hj; subst hj; simp [Addr.add]
theorem cell_one_atA (W : World) (n : Nat) (hn : W.heap.size = n) (v : Value) (t : TypeId) : ∀ (j : Nat) (u : Value), [v][j]? = some u → (W.alloc (.cells #[v] t)).cell? ((⟨n, 0, none⟩ : Addr).add j) = some u := by
  subst hn
  exact cell_one_new W v t
theorem cell_kept {wk w' wr : World} {o : Obj} {base : Nat} {e : TypeId} {sz n : Nat} {v : Value} {xs : List Value} (hown : wr.ownsRow base e sz v n xs) (hg : (wk.alloc o).grownBy w' v.ownBlock) (hlt : wr.heap.size < wk.heap.size) (j : Nat) :
    w'.cell? ⟨wr.heap.size, j, none⟩ = wk.cell? ⟨wr.heap.size, j, none⟩ := by
  refine World.cell?_of_block ?_
  show w'.heap[wr.heap.size]? = wk.heap[wr.heap.size]?
  rw [hg.block _ (by rw [World.size_alloc]; omega) (fun e => by have := (hown.lt _ e.symm).2; omega)]
  exact Below.heap_alloc _ _ _ hlt
theorem _root_.Go.RowKit.Below.comp {n m : Nat} {a b c : World} (h : Below n a b) (k : Below m b c) (hnm : n ≤ m) : Below n a c :=
  ⟨k.os.trans h.os, k.tape.trans h.tape, k.output.trans h.output, Nat.le_trans h.size k.size, fun i hi => (k.block i (by omega)).trans (h.block i hi)⟩
theorem slice_of {W : World} {base n sz : Nat} {e : TypeId} {v : Value} {xs : List Value} (h : W.ownsRow base e sz v n xs) : ∃ ao cap, v = .slice ao n cap := by
  rcases h.2 with ⟨rfl, rfl⟩ | ⟨g, cap, cur, rfl, _⟩
  · exact ⟨none, 0, rfl⟩
  · exact ⟨_, _, rfl⟩
theorem evcA_host {h : Nat} {E : List RawE} {i s : Nat} (hs : s < i) : evcA h E i (s * 4) = .int .i64 (hostA h E s) := by
  unfold evcA
  rw [show s * 4 / 4 = s by omega, show s * 4 % 4 = 0 by omega, if_pos hs, if_pos rfl]

/-- the six stores at the end of a round -/
def wStep (W : World) (N i hs ct n : Nat) : World :=
  ((((((W.setCell ⟨N + 1, hs, none⟩ (.int .i64 ((ct : Int) + 1))).setCell ⟨N + 1 + 1, i, none⟩ (.int .i64 ((ct : Int) + 1))).setCell ⟨N + 1 + 1 + 1, i * 4, none⟩ (.int .i64 hs)).setCell ⟨N + 1 + 1 + 1, i * 4 + 1, none⟩ (.bool false)).setCell ⟨N + 1 + 1 + 1, i * 4 + 2, none⟩ (.int .i64 n)).setCell ⟨N + 1 + 1 + 1, i * 4 + 3, none⟩ (.int .i64 0))
theorem wStep_size (W : World) (N i hs ct n : Nat) : (wStep W N i hs ct n).heap.size = W.heap.size := by simp [wStep, World.setCell]
theorem wStep_below {n0 : Nat} {A W : World} {N i hs ct n : Nat} (h : Below n0 A W) (hn : n0 ≤ N) : Below n0 A (wStep W N i hs ct n) :=
  (((((h.setCell (p := ⟨N + 1, hs, none⟩) (by show n0 ≤ N + 1; omega) _).setCell (p := ⟨N + 1 + 1, i, none⟩) (by show n0 ≤ N + 1 + 1; omega) _).setCell (p := ⟨N + 1 + 1 + 1, i * 4, none⟩) (by show n0 ≤ N + 1 + 1 + 1; omega) _).setCell (p := ⟨N + 1 + 1 + 1, i * 4 + 1, none⟩) (by show n0 ≤ N + 1 + 1 + 1; omega) _).setCell (p := ⟨N + 1 + 1 + 1, i * 4 + 2, none⟩) (by show n0 ≤ N + 1 + 1 + 1; omega) _).setCell (p := ⟨N + 1 + 1 + 1, i * 4 + 3, none⟩) (by show n0 ≤ N + 1 + 1 + 1; omega) _
theorem ba_step {h : Nat} {E : List RawE} {N i : Nat} {W : World} {v16 v17 v18 v19 v20 : Value} {hs ct n : Nat} (hB : BA h E N i (recsA h E (i + 1)) W v16 v17 v18 v19 v20)
    (hhs : hostA h E i = hs) (hct : cntA h E i hs = ct) (hn : (recsA h E (i + 1)).length = n) : BA h E N (i + 1) (recsA h E (i + 1)) (wStep W N i hs ct n) v16 v17 v18 v19 v20 := by
  subst hhs hct hn
  refine ⟨?_, ?_, ?_, ?_⟩
  · have h1 := (((((hB.cnt.set (hostA h E i) (.int .i64 ((cntA h E i (hostA h E i) : Int) + 1))).setOther (a := ⟨N + 1 + 1, i, none⟩) (by simp) (.int .i64 ((cntA h E i (hostA h E i) : Int) + 1))).setOther (a := ⟨N + 1 + 1 + 1, i * 4, none⟩) (by simp) (.int .i64 (hostA h E i))).setOther (a := ⟨N + 1 + 1 + 1, i * 4 + 1, none⟩) (by simp) (.bool false)).setOther (a := ⟨N + 1 + 1 + 1, i * 4 + 2, none⟩) (by simp) (.int .i64 (recsA h E (i + 1)).length)).setOther (a := ⟨N + 1 + 1 + 1, i * 4 + 3, none⟩) (by simp) (.int .i64 0)
    refine h1.congr fun g _ => ?_
    show (if g = hostA h E i then _ else _) = Value.int .i64 (cntA h E (i + 1) g)
    rw [cntA]
    by_cases e : g = hostA h E i
    · subst e; simp
    · rw [if_neg e, if_neg (fun e' => e e'.symm)]; simp
  · have h1 := (((((hB.own.setOther (a := ⟨N + 1, hostA h E i, none⟩) (by simp) (.int .i64 ((cntA h E i (hostA h E i) : Int) + 1))).set i (.int .i64 ((cntA h E i (hostA h E i) : Int) + 1))).setOther (a := ⟨N + 1 + 1 + 1, i * 4, none⟩) (by simp) (.int .i64 (hostA h E i))).setOther (a := ⟨N + 1 + 1 + 1, i * 4 + 1, none⟩) (by simp) (.bool false)).setOther (a := ⟨N + 1 + 1 + 1, i * 4 + 2, none⟩) (by simp) (.int .i64 (recsA h E (i + 1)).length)).setOther (a := ⟨N + 1 + 1 + 1, i * 4 + 3, none⟩) (by simp) (.int .i64 0)
    refine h1.congr fun g _ => ?_
    show (if g = i then _ else _) = Value.int .i64 ((if g < i + 1 then ownA h E g else 0 : Nat) : Int)
    by_cases e : g = i
    · subst e
      rw [if_pos rfl, if_pos (by omega)]
      unfold ownA
      rw [cntA, if_pos rfl]
      simp
    · rw [if_neg e]
      by_cases e2 : g < i
      · rw [if_pos e2, if_pos (by omega)]
      · rw [if_neg e2, if_neg (by omega)]
  · have h1 := (((((hB.evs.setOther (a := ⟨N + 1, hostA h E i, none⟩) (by simp; omega) (.int .i64 ((cntA h E i (hostA h E i) : Int) + 1))).setOther (a := ⟨N + 1 + 1, i, none⟩) (by simp) (.int .i64 ((cntA h E i (hostA h E i) : Int) + 1))).set (i * 4) (.int .i64 (hostA h E i))).set (i * 4 + 1) (.bool false)).set (i * 4 + 2) (.int .i64 (recsA h E (i + 1)).length)).set (i * 4 + 3) (.int .i64 0)
    refine h1.congr fun c _ => ?_
    show (if c = i * 4 + 3 then _ else if c = i * 4 + 2 then _ else if c = i * 4 + 1 then _ else if c = i * 4 then _ else _) = evcA h E (i + 1) c
    by_cases e3 : c = i * 4 + 3
    · subst e3; rw [if_pos rfl]; unfold evcA; rw [show (i * 4 + 3) / 4 = i by omega, show (i * 4 + 3) % 4 = 3 by omega, if_pos (by omega)]; simp
    · rw [if_neg e3]
      by_cases e2 : c = i * 4 + 2
      · subst e2; rw [if_pos rfl]; unfold evcA; rw [show (i * 4 + 2) / 4 = i by omega, show (i * 4 + 2) % 4 = 2 by omega, if_pos (by omega)]; simp
      · rw [if_neg e2]
        by_cases e1 : c = i * 4 + 1
        · subst e1; rw [if_pos rfl]; unfold evcA; rw [show (i * 4 + 1) / 4 = i by omega, show (i * 4 + 1) % 4 = 1 by omega, if_pos (by omega)]; simp
        · rw [if_neg e1]
          by_cases e0 : c = i * 4
          · subst e0; rw [if_pos rfl, evcA_host (by omega)]
          · rw [if_neg e0]
            unfold evcA
            by_cases e : c / 4 < i
            · rw [if_pos e, if_pos (show c / 4 < i + 1 by omega)]
            · rw [if_neg e, if_neg (show ¬ c / 4 < i + 1 by omega)]
  · exact (((((hB.sep.set (a := ⟨N + 1, hostA h E i, none⟩) (by show N + 1 < N + 4; omega) _).set (a := ⟨N + 1 + 1, i, none⟩) (by show N + 1 + 1 < N + 4; omega) _).set (a := ⟨N + 1 + 1 + 1, i * 4, none⟩) (by show N + 1 + 1 + 1 < N + 4; omega) _).set (a := ⟨N + 1 + 1 + 1, i * 4 + 1, none⟩) (by show N + 1 + 1 + 1 < N + 4; omega) _).set (a := ⟨N + 1 + 1 + 1, i * 4 + 2, none⟩) (by show N + 1 + 1 + 1 < N + 4; omega) _).set (a := ⟨N + 1 + 1 + 1, i * 4 + 3, none⟩) (by show N + 1 + 1 + 1 < N + 4; omega) _

theorem results_tmp6 {fn : Func} {t u v x y z : Tmp} (h : fn.results = #[.tmp t, .tmp u, .tmp v, .tmp x, .tmp y, .tmp z]) (tmps : Array Value) (P : Program) (w : World) :
    (results fn tmps).run P w = .ok (.tuple #[tmps.getD t undef, tmps.getD u undef, tmps.getD v undef, tmps.getD x undef, tmps.getD y undef, tmps.getD z undef]) w := by
  simp [results, h]
/-- the trace that 'zzs3315abuild' hands back, and the four columns beside it -/
structure TrA (h : Nat) (E : List RawE) (w W : World) (T : Nat) (v16 v17 v18 v19 v20 : Value) : Prop where
  tr : W.heap[T]? = some (.cells #[.slice (some ⟨w.heap.size, 0, none⟩) h h, .slice (some ⟨w.heap.size + 1 + 1 + 1, 0, none⟩) E.length E.length, v16, .slice none 0 0] 70 (0, 0))
  ba : BA h E w.heap.size E.length (recsA h E E.length) W v16 v17 v18 v19 v20
  bel : Below w.heap.size w W
  old : w.heap.size ≤ T

set_option maxRecDepth 100000 in
set_option maxHeartbeats 4000000 in
theorem build_any (ao : Option Addr) (len cap : Nat) (nh : Int) (E : List RawE) (w : World) (hnh : 0 ≤ nh ∧ nh ≤ 255) (hlen : len ≤ 1024) (htot : totA E len ≤ 4096)
    (hE : EvsIn w ao len E) (h : Nat) (hh : (h : Int) = 1 + nh % 16) :
    Calls Yba.prog 8 #[.int .u8 nh, .slice ao len cap] w fun e w' => ∃ T v16 v17 v18 v19 v20, e = .returned (.tuple #[.pointer (some ⟨T, 0, none⟩), .int .i64 h, v17, v18, v19, v20]) ∧
      TrA h E w w' T v16 v17 v18 v19 v20 := by
  have hl := hE.1
  have hhb : 1 ≤ h ∧ h ≤ 16 := by omega
  have HH : Hid ((h : Int) = 1 + nh % 16) := hh
  obtain ⟨i3, hi3, z3, s3, b3⟩ := info_parts Yba.infA3
  obtain ⟨i9, hi9, z9, s9, b9⟩ := info_parts Yba.infA9
  obtain ⟨i63, hi63, z63, s63, b63⟩ := info_parts Yba.infA63
  go_enter Yba.func8, Yba.ntmps8
  clear hh
  have hm1 := fun w => run_make_row' (P := Yba.prog) 26 9 _ 16 Yba.underlying26 Yba.infA9 rfl .i64 .i64 h (by omega) (by omega) w
  have hm2 := fun w => run_make_row' (P := Yba.prog) 25 3 _ 8 Yba.underlying25 Yba.infA3 rfl .i64 .i64 h (by omega) (by omega) w
  have hm3 := fun w => run_make_row' (P := Yba.prog) 25 3 _ 8 Yba.underlying25 Yba.infA3 rfl .i64 .i64 len (by omega) (by omega) w
  have hm4 := run_make67 len hlen
  go_wp2_with (at_make; rw [← HH.out])
  go_loopw [36, 12] (fun k _ wr => ∃ (j : Nat) (f : Nat → Value), j ≤ h ∧ k = .int .i64 j ∧ wr.rowIs w.heap.size 9 h f ∧ Below w.heap.size w wr ∧ wr.heap.size = w.heap.size + 1)
    (fun k _ _ => h - (intOf k).toNat)
  case atStart => exact ⟨0, _, Nat.zero_le _, rfl, World.rowIs_made _ _ _ _, (Below.refl _ _).alloc (Nat.le_refl _) _, by simp⟩
  case round =>
    obtain ⟨j, f, hj, rfl, hrow, hnx, hsz⟩ := hrel
    by_cases hlt : j < h
    · have c0 := hrow.cell hlt
      have f0 := hrow.frozen j
      go_wp2
      go_roundw
      case rel => exact ⟨j + 1, _, by omega, by go_num, hrow.set j _, hnx.setCell (Nat.le_refl _) _, by simpa [World.setCell] using hsz⟩
      case measure => simp [intOf]; omega
    · obtain rfl : h = j := by omega
      go_wp2
      have hst0 := ba_start h E len w.heap.size wr hsz hl
      have bel0 : Below w.heap.size w (((wr.alloc (.cells (madeCells #[.int .i64 0] h) 3)).alloc (.cells (madeCells #[.int .i64 0] len) 3)).alloc (.cells (madeCells #[.int .i64 0, .bool false, .int .i64 0, .int .i64 0] (len * 4)) 67)) :=
        ((hnx.alloc hnx.size _).alloc (by simp; omega) _).alloc (by simp; omega) _
      have size0 : w.heap.size + 4 ≤ (((wr.alloc (.cells (madeCells #[.int .i64 0] h) 3)).alloc (.cells (madeCells #[.int .i64 0] len) 3)).alloc (.cells (madeCells #[.int .i64 0, .bool false, .int .i64 0, .int .i64 0] (len * 4)) 67)).heap.size := by simp; omega
      obtain ⟨W0, hW0⟩ : ∃ W0, (((wr.alloc (.cells (madeCells #[.int .i64 0] h) 3)).alloc (.cells (madeCells #[.int .i64 0] len) 3)).alloc (.cells (madeCells #[.int .i64 0, .bool false, .int .i64 0, .int .i64 0] (len * 4)) 67)) = W0 := ⟨_, rfl⟩
      rw [hW0] at hst0 bel0 size0 ⊢
      clear hW0 hm1 hm2 hm3 hm4 hrow hnx hsz hlt hj
      go_loopw [16, 17, 18, 19, 20, 53] (fun v16 v17 v18 v19 v20 ii wr => ∃ i : Nat, i ≤ len ∧ ii = .int .i64 i ∧ BA h E w.heap.size i (recsA h E i) wr v16 v17 v18 v19 v20 ∧ Below w.heap.size w wr ∧ w.heap.size + 4 ≤ wr.heap.size)
        (fun _ _ _ _ _ ii _ => len - (intOf ii).toNat)
      case atStart => exact ⟨0, Nat.zero_le _, rfl, hst0, bel0, size0⟩
      case round =>
        clear hst0 bel0 size0
        obtain ⟨i, hi, rfl, hB, hnx, hsz⟩ := hrel
        by_cases hlt : i < len
        · obtain ⟨_, hE2⟩ := hE
          rcases hE2 with hE2 | ⟨b, off, rfl, hb, hE⟩
          · omega
          obtain ⟨c0, g0, g1, ro, rl, rc, hrl, c1, hR⟩ := hE i hlt
          have d0 := (hnx.cell (p := ⟨b, off + i * 2, none⟩) hb).trans c0
          have d1 := (hnx.cell (p := ⟨b, off + i * 2 + 1, none⟩) hb).trans c1
          obtain ⟨g, hg⟩ : ∃ g, (E.getD i (0, [])).1 = g := ⟨_, rfl⟩
          have hhost : g % (h : Int) = (hostA h E i : Int) := by
            unfold hostA
            rw [hg, Int.toNat_of_nonneg (Int.emod_nonneg _ (by omega))]
          have hhlt := hostA_lt (show 0 < h by omega) E i
          rw [hg] at d0 g0 g1
          have HE : Hid (hostA h E i = hostA h E i) := rfl
          obtain ⟨hs, hhs⟩ : ∃ hs, hostA h E i = hs := ⟨_, rfl⟩
          rw [hhs] at hhost hhlt
          have Hhs : Hid (hostA h E i = hs) := hhs
          clear hE c0 c1 hg hhs
          by_cases hi0 : i = 0
          · have HZ : Hid (recsA h E (i + 1) = recsA h E i) := by
              show _ = _
              rw [recsA, recsOf, if_pos hi0, List.append_nil]
            have hz : i ≤ 0 := by omega
            clear hi0
            have hB2 : BA h E w.heap.size i (recsA h E (i + 1)) (wr.alloc (.cells #[.int .u8 g, .slice ro rl rc] 56)) u16 u17 u18 u19 u20 := by
              rw [HZ.out]
              exact hB.below ((Below.refl _ _).alloc hsz _) (hB.sep.alloc _)
            obtain ⟨ao16, cap16, h16⟩ := slice_of (hB2.sep.owns ⟨63, 2, u16, (recsA h E (i + 1)).length, (recsA h E (i + 1)).flatMap msgC⟩ (by simp))
            dsimp only at h16
            subst h16
            have hnn : (recsA h E (i + 1)).length ≤ 4096 := Nat.le_trans (recsA_le h E (i + 1)) (Nat.le_trans (totA_mono E (by omega)) htot)
            obtain ⟨n, hn⟩ : ∃ n, (recsA h E (i + 1)).length = n := ⟨_, rfl⟩
            have Hn : Hid ((recsA h E (i + 1)).length = n) := hn
            rw [hn] at hnn ⊢
            clear hn htot
            have c0 := hB2.cnt.cell (show hs < h by omega)
            have c1 := hB2.own.cell (show i < E.length by omega)
            have c2 := hB2.evs.cell (show i * 4 < E.length * 4 by omega)
            have c3 := hB2.evs.cell (show i * 4 + 1 < E.length * 4 by omega)
            have c4 := hB2.evs.cell (show i * 4 + 2 < E.length * 4 by omega)
            have c5 := hB2.evs.cell (show i * 4 + 3 < E.length * 4 by omega)
            have f0 := hB2.cnt.frozen hs
            have f1 := hB2.own.frozen i
            have f2 := hB2.evs.frozen (i * 4)
            have f3 := hB2.evs.frozen (i * 4 + 1)
            have f4 := hB2.evs.frozen (i * 4 + 2)
            have f5 := hB2.evs.frozen (i * 4 + 3)
            have hcl := cntA_le h E i hs
            obtain ⟨ct, hct⟩ : ∃ ct, cntA h E i hs = ct := ⟨_, rfl⟩
            have Hct : Hid (cntA h E i hs = ct) := hct
            rw [hct] at c0 hcl
            clear hct
            have hnx2 : Below w.heap.size w (wr.alloc (.cells #[.int .u8 g, .slice ro rl rc] 56)) := hnx.alloc hnx.size _
            have hsz2 : w.heap.size + 4 ≤ (wr.alloc (.cells #[.int .u8 g, .slice ro rl rc] 56)).heap.size := by simp; omega
            go_wp2
            go_roundw
            case rel =>
              have h1 := ba_step hB2 Hhs.out Hct.out Hn.out
              rw [Hn.out] at h1
              have h2 : Below w.heap.size w (wStep (wr.alloc (.cells #[.int .u8 g, .slice ro rl rc] 56)) w.heap.size i hs ct n) := wStep_below hnx2 (Nat.le_refl _)
              have h3 : w.heap.size + 4 ≤ (wStep (wr.alloc (.cells #[.int .u8 g, .slice ro rl rc] 56)) w.heap.size i hs ct n).heap.size := by rw [wStep_size]; exact hsz2
              unfold wStep at h1 h2 h3
              exact ⟨i + 1, by omega, by go_num, h1, h2, h3⟩
            case measure => simp [intOf]; omega
          · have hipos : 0 < i := by omega
            have hrl2 : (E.getD i (0, [])).2.length = rl := hR.1
            have hbound : (recsA h E i).length + rl ≤ 4096 := by
              have h1 := recsA_le h E i
              have h2 := totA_mono E (show i + 1 ≤ len by omega)
              rw [totA, hrl2] at h2
              omega
            clear htot
            go_wp2
            go_loopw [16, 17, 18, 19, 20, 68] (fun v16 v17 v18 v19 v20 kk wr => ∃ k : Nat, k ≤ rl ∧ kk = .int .i64 k ∧ BA h E w.heap.size i (recsA h E i ++ (recsOf h E i).take k) wr v16 v17 v18 v19 v20 ∧ Below w.heap.size w wr ∧ w.heap.size + 4 ≤ wr.heap.size)
              (fun _ _ _ _ _ kk _ => rl - (intOf kk).toNat)
            case atStart => exact ⟨0, Nat.zero_le _, rfl, hB.below ((Below.refl _ _).alloc hsz _) (by simpa using hB.sep.alloc _), hnx.alloc hnx.size _, by simp; omega⟩
            case round =>
              clear hB hnx hsz d0 d1
              obtain ⟨k, hk, rfl, hB, hnx, hsz⟩ := hrel
              by_cases hklt : k < rl
              · obtain ⟨hr1, hr2⟩ := hR
                rcases hr2 with hr2 | ⟨b2, off2, rfl, hb2, hr2⟩
                · omega
                obtain ⟨e0, e1, m0, m1⟩ := hr2 k hklt
                have d0 := (hnx.cell (p := ⟨b2, off2 + k * 2, none⟩) hb2).trans e0
                have d1 := (hnx.cell (p := ⟨b2, off2 + k * 2 + 1, none⟩) hb2).trans e1
                have hget := recsOf_get (h := h) (E := E) (k := k) hi0 (by omega)
                have htake := take_succ_of hget
                obtain ⟨⟨gs, id⟩, hraw⟩ : ∃ x, (E.getD i (0, [])).2.getD k (0, default) = x := ⟨_, rfl⟩
                rw [hraw] at d0 d1 m0 m1 htake
                obtain ⟨s, hsE⟩ : ∃ s : Nat, (gs % (i : Int)).toNat = s := ⟨_, rfl⟩
                have hsmod : gs % (i : Int) = (s : Int) := by
                  rw [← hsE, Int.toNat_of_nonneg (Int.emod_nonneg _ (by omega))]
                have hslt : s < i := by
                  have := Int.emod_lt_of_pos gs (show (0 : Int) < i by omega)
                  omega
                have HT : Hid ((recsOf h E i).take (k + 1) = (recsOf h E i).take k ++ [⟨id, s, hs⟩]) := by
                  show _ = _
                  rw [htake]; simp [recOf, hsE, Hhs.out]
                dsimp only at d0 d1 m0 m1
                have hnn : (recsA h E i ++ (recsOf h E i).take k).length ≤ 4095 := by
                  have : (recsOf h E i).length = rl := by rw [recsOf_length hi0, hrl2]
                  simp only [List.length_append, List.length_take]
                  omega
                obtain ⟨L, hL⟩ : ∃ L, recsA h E i ++ (recsOf h E i).take k = L := ⟨_, rfl⟩
                rw [hL] at hB hnn
                have HT2 : Hid (recsA h E i ++ (recsOf h E i).take (k + 1) = L ++ [⟨id, s, hs⟩]) := by
                  show _ = _
                  rw [HT.out, ← List.append_assoc, hL]
                clear hr2 e0 e1 hget htake hraw hsE hL HT
                have f0 := hB.evs.cell (show s * 4 < E.length * 4 by omega)
                rw [evcA_host hslt] at f0
                have f1 := hB.own.cell (show s < E.length by omega)
                rw [if_pos hslt] at f1
                have hN := hnx.size
                have S0 := (hB.sep.alloc (.cells #[.int .u16 gs, .string id] 61))
                have q0 : (wr.alloc (.cells #[.int .u16 gs, .string id] 61)).cell? ⟨wr.heap.size, 1, none⟩ = some (.string id) := by simp
                go_wp2_with (first
                  | (at_builtin; refine wpList_append_own_at _ rfl (.tmp 77) (.tmp 82) 58 rfl (w.heap.size + 4) 63 i63 _ 2 24 Yba.underlying58 hi63 z63 s63 b63 rfl (by decide) u16 L.length (L.flatMap msgC) rfl ((S0.alloc _).owns ⟨63, 2, u16, L.length, L.flatMap msgC⟩ (by simp)) ⟨wr.heap.size + 1, 0, none⟩ 1 1 [.string id, .int .i64 s] rfl rfl (cells_two_at _ _ (by simp) _ _ _) (by intro u hu; simp at hu; rcases hu with rfl | rfl <;> rfl) (by unfold maxLen; omega) (by omega) (by simp only [World.size_alloc]; omega) ?_; intro v1 w1 hown1 hgrow1 _ hat1; go_must (have y1 : wr.heap.size < w1.heap.size := (by have := hgrow1.size; simp only [World.size_alloc] at this; omega); have S1 := (S0.alloc _).app (L1 := []) hown1 hgrow1 hat1; have B1 : Below (w.heap.size + 4) wr w1 := (((Below.refl _ _).alloc hsz _).alloc (by simp only [World.size_alloc]; omega) _).grown hgrow1 (by simp only [World.size_alloc]; omega) (fun k hk => ((hB.sep.owns ⟨63, 2, u16, L.length, L.flatMap msgC⟩ (by simp)).lt k hk).1); have q1 := (cell_kept (hB.sep.owns ⟨63, 2, u16, L.length, L.flatMap msgC⟩ (by simp)) hgrow1 (by simp) 1).trans q0))
                  | (at_builtin; refine wpList_append_own_at _ rfl (.tmp 84) (.tmp 86) 25 rfl (w.heap.size + 4) 3 i3 _ 1 8 Yba.underlying25 hi3 z3 s3 b3 rfl (by decide) u17 L.length (L.map rcvC) rfl ((S1.alloc _).owns ⟨3, 1, u17, L.length, L.map rcvC⟩ (by simp)) ⟨w1.heap.size, 0, none⟩ 1 1 [.int .i64 hs] rfl rfl (cell_one_new _ _ _) (by intro u hu; simp at hu; rcases hu with rfl; rfl) (by unfold maxLen; omega) (by omega) (by simp only [World.size_alloc]; omega) ?_; intro v2 w2 hown2 hgrow2 _ hat2; go_must (have y2 : wr.heap.size < w2.heap.size := (by have := hgrow2.size; simp only [World.size_alloc] at this; omega); have S2 := (S1.alloc _).app (L1 := [_]) hown2 hgrow2 hat2; have B2 : Below (w.heap.size + 4) wr w2 := (B1.alloc (by omega) _).grown hgrow2 (by simp only [World.size_alloc]; omega) (fun k hk => ((hB.sep.owns ⟨3, 1, u17, L.length, L.map rcvC⟩ (by simp)).lt k hk).1); have q2 := (cell_kept (hB.sep.owns ⟨3, 1, u17, L.length, L.map rcvC⟩ (by simp)) hgrow2 (by omega) 1).trans q1; have f0' := (B2.cell (p := ⟨w.heap.size + 1 + 1 + 1, s * 4, none⟩) (by show w.heap.size + 1 + 1 + 1 < w.heap.size + 4; omega)).trans f0))
                  | (at_builtin; refine wpList_append_own_at _ rfl (.tmp 88) (.tmp 94) 25 rfl (w.heap.size + 4) 3 i3 _ 1 8 Yba.underlying25 hi3 z3 s3 b3 rfl (by decide) u18 L.length (L.map (sndC h E)) rfl ((S2.alloc _).owns ⟨3, 1, u18, L.length, L.map (sndC h E)⟩ (by simp)) ⟨w2.heap.size, 0, none⟩ 1 1 [.int .i64 (hostA h E s)] rfl rfl (cell_one_new _ _ _) (by intro u hu; simp at hu; rcases hu with rfl; rfl) (by unfold maxLen; omega) (by omega) (by simp only [World.size_alloc]; omega) ?_; intro v3 w3 hown3 hgrow3 _ hat3; go_must (have y3 : wr.heap.size < w3.heap.size := (by have := hgrow3.size; simp only [World.size_alloc] at this; omega); have S3 := (S2.alloc _).app (L1 := [_, _]) hown3 hgrow3 hat3; have B3 : Below (w.heap.size + 4) wr w3 := (B2.alloc (by omega) _).grown hgrow3 (by simp only [World.size_alloc]; omega) (fun k hk => ((hB.sep.owns ⟨3, 1, u18, L.length, L.map (sndC h E)⟩ (by simp)).lt k hk).1); have q3 := (cell_kept (hB.sep.owns ⟨3, 1, u18, L.length, L.map (sndC h E)⟩ (by simp)) hgrow3 (by omega) 1).trans q2; have f1' := (B3.cell (p := ⟨w.heap.size + 1 + 1, s, none⟩) (by show w.heap.size + 1 + 1 < w.heap.size + 4; omega)).trans f1))
                  | (at_builtin; refine wpList_append_own_at _ rfl (.tmp 96) (.tmp 101) 25 rfl (w.heap.size + 4) 3 i3 _ 1 8 Yba.underlying25 hi3 z3 s3 b3 rfl (by decide) u19 L.length (L.map (tmC h E)) rfl ((S3.alloc _).owns ⟨3, 1, u19, L.length, L.map (tmC h E)⟩ (by simp)) ⟨w3.heap.size, 0, none⟩ 1 1 [.int .i64 (ownA h E s)] rfl rfl (cell_one_new _ _ _) (by intro u hu; simp at hu; rcases hu with rfl; rfl) (by unfold maxLen; omega) (by omega) (by simp only [World.size_alloc]; omega) ?_; intro v4 w4 hown4 hgrow4 _ hat4; go_must (have y4 : wr.heap.size < w4.heap.size := (by have := hgrow4.size; simp only [World.size_alloc] at this; omega); have S4 := (S3.alloc _).app (L1 := [_, _, _]) hown4 hgrow4 hat4; have B4 : Below (w.heap.size + 4) wr w4 := (B3.alloc (by omega) _).grown hgrow4 (by simp only [World.size_alloc]; omega) (fun k hk => ((hB.sep.owns ⟨3, 1, u19, L.length, L.map (tmC h E)⟩ (by simp)).lt k hk).1); have q4 := (cell_kept (hB.sep.owns ⟨3, 1, u19, L.length, L.map (tmC h E)⟩ (by simp)) hgrow4 (by omega) 1).trans q3))
                  | (at_builtin; refine wpList_append_own_at _ rfl (.tmp 103) (.tmp 106) 26 rfl (w.heap.size + 4) 9 i9 _ 1 16 Yba.underlying26 hi9 z9 s9 b9 rfl (by decide) u20 L.length (L.map idC) rfl ((S4.alloc _).owns ⟨9, 1, u20, L.length, L.map idC⟩ (by simp)) ⟨w4.heap.size, 0, none⟩ 1 1 [.string id] rfl rfl (cell_one_new _ _ _) (by intro u hu; simp at hu; rcases hu with rfl; rfl) (by unfold maxLen; omega) (by omega) (by simp only [World.size_alloc]; omega) ?_; intro v5 w5 hown5 hgrow5 _ hat5; go_must (have y5 : wr.heap.size < w5.heap.size := (by have := hgrow5.size; simp only [World.size_alloc] at this; omega); have S5 := (S4.alloc _).app (L1 := [_, _, _, _]) hown5 hgrow5 hat5; have B5 : Below (w.heap.size + 4) wr w5 := (B4.alloc (by omega) _).grown hgrow5 (by simp only [World.size_alloc]; omega) (fun k hk => ((hB.sep.owns ⟨9, 1, u20, L.length, L.map idC⟩ (by simp)).lt k hk).1); have q5 := (cell_kept (hB.sep.owns ⟨9, 1, u20, L.length, L.map idC⟩ (by simp)) hgrow5 (by omega) 1).trans q4))
                  | fail)
                go_roundw
                case rel => exact ⟨k + 1, by omega, by go_num, by rw [HT2.out]; exact hB.below B5 (by simpa [msgC, rcvC, sndC, tmC, idC] using S5), hnx.comp B5 (by omega), by omega⟩
                case measure => simp [intOf]; omega
              · obtain rfl : k = rl := by omega
                have htk : (recsOf h E i).take k = recsOf h E i := List.take_of_length_le (by rw [recsOf_length hi0]; omega)
                rw [htk] at hB
                have hB2 : BA h E w.heap.size i (recsA h E (i + 1)) wr u16 u17 u18 u19 u20 := hB
                obtain ⟨ao16, cap16, h16⟩ := slice_of (hB2.sep.owns ⟨63, 2, u16, (recsA h E (i + 1)).length, (recsA h E (i + 1)).flatMap msgC⟩ (by simp))
                dsimp only at h16
                subst h16
                have hnn : (recsA h E (i + 1)).length ≤ 4096 := by
                  rw [recsA, List.length_append, recsOf_length hi0]; omega
                obtain ⟨n, hn⟩ : ∃ n, (recsA h E (i + 1)).length = n := ⟨_, rfl⟩
                have Hn : Hid ((recsA h E (i + 1)).length = n) := hn
                rw [hn] at hnn ⊢
                clear hB htk hn hrl2 hR hbound
                have c0 := hB2.cnt.cell (show hs < h by omega)
                have c1 := hB2.own.cell (show i < E.length by omega)
                have c2 := hB2.evs.cell (show i * 4 < E.length * 4 by omega)
                have c3 := hB2.evs.cell (show i * 4 + 1 < E.length * 4 by omega)
                have c4 := hB2.evs.cell (show i * 4 + 2 < E.length * 4 by omega)
                have c5 := hB2.evs.cell (show i * 4 + 3 < E.length * 4 by omega)
                have f0 := hB2.cnt.frozen hs
                have f1 := hB2.own.frozen i
                have f2 := hB2.evs.frozen (i * 4)
                have f3 := hB2.evs.frozen (i * 4 + 1)
                have f4 := hB2.evs.frozen (i * 4 + 2)
                have f5 := hB2.evs.frozen (i * 4 + 3)
                have hcl := cntA_le h E i hs
                obtain ⟨ct, hct⟩ : ∃ ct, cntA h E i hs = ct := ⟨_, rfl⟩
                have Hct : Hid (cntA h E i hs = ct) := hct
                rw [hct] at c0 hcl
                clear hct
                go_wp2
                go_roundw
                case rel =>
                  have h1 := ba_step hB2 Hhs.out Hct.out Hn.out
                  rw [Hn.out] at h1
                  have h2 : Below w.heap.size w (wStep wr w.heap.size i hs ct n) := wStep_below hnx (Nat.le_refl _)
                  have h3 : w.heap.size + 4 ≤ (wStep wr w.heap.size i hs ct n).heap.size := by rw [wStep_size]; exact hsz
                  unfold wStep at h1 h2 h3
                  exact ⟨i + 1, by omega, by go_num, h1, h2, h3⟩
                case measure => simp [intOf]; omega
        · obtain rfl : i = len := by omega
          obtain ⟨ao16, cap16, h16⟩ := slice_of (hB.sep.owns ⟨63, 2, u16, (recsA h E i).length, (recsA h E i).flatMap msgC⟩ (by simp))
          dsimp only at h16
          subst h16
          go_wp2
          refine bodyPost_ret (results_tmp6 rfl _ _ _) rfl ?_
          refine ⟨wr.heap.size, .slice ao16 (recsA h E i).length cap16, u17, u18, u19, u20, rfl, ?_, ?_, ?_, ?_⟩
          · rw [hl]; exact heap_alloc_new wr _
          · rw [hl]; exact hB.below ((Below.refl _ _).alloc hsz _) (hB.sep.alloc _)
          · exact hnx.alloc hnx.size _
          · omega
end Go.Proofs.Ybulkbpqa
