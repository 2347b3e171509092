/- The awaited receipts as 'newDeliveryWatch' (function 9) gathers them, plainly, and how they lie. -/
import Derived.Test.YbulkbpqaFromA
import Derived.Test.YbulkbpqaSortA
namespace Go.Proofs.Ybulkbpqa
open Go.RowKit
set_option linter.unusedVariables false

theorem Yba.infA36 : (Yba.prog.info? 36).map (fun i => (i.zero, i.size, i.bytes)) = some (some (.agg #[.string ⟨#[]⟩, .int .i64 0, .int .i64 0, .int .i64 0, .int .i64 0, .int .i64 0, .int .i64 0, .int .i64 0]), 8, 72) := by kernel_rfl

def awOf (h : Nat) (E : List RawE) (j : Nat) (r : RecA) : Aw := ⟨r.id, r.rcv, hostA h E r.s, ownA h E r.s, j, 0, 0, 0⟩
def awsA (h : Nat) (E : List RawE) (l : List RecA) : List Aw := l.mapIdx (awOf h E)
theorem awsA_snoc (h : Nat) (E : List RawE) (l : List RecA) (r : RecA) : awsA h E (l ++ [r]) = awsA h E l ++ [awOf h E l.length r] := by
  unfold awsA; rw [List.mapIdx_concat]
theorem awsA_length (h : Nat) (E : List RawE) (l : List RecA) : (awsA h E l).length = l.length := by unfold awsA; simp

structure CA (h : Nat) (E : List RawE) (N i : Nat) (rl : List RecA) (W : World) (v : Value) : Prop where
  own : W.rowIs N 3 E.length (fun j => .int .i64 (if j < i then ownA h E j else 0 : Nat))
  cnt : W.rowIs (N + 1) 3 h (fun g => .int .i64 (cntA h E i g))
  aw : W.ownsRow (N + 1 + 1) 36 8 v rl.length ((awsA h E rl).flatMap encAw)

theorem ca_start (h : Nat) (E : List RawE) (w : World) :
    CA h E w.heap.size 0 [] ((w.alloc (.cells (madeCells #[.int .i64 0] E.length) 3)).alloc (.cells (madeCells #[.int .i64 0] h) 3)) (.slice none 0 0) := by
  refine ⟨?_, ?_, ?_⟩
  · have := (World.rowIs_made w (.int .i64 0) E.length 3).alloc (.cells (madeCells #[.int .i64 0] h) 3)
    exact this.congr fun i _ => by simp
  · have := World.rowIs_made (w.alloc (.cells (madeCells #[.int .i64 0] E.length) 3)) (.int .i64 0) h 3
    rw [World.size_alloc] at this
    exact this.congr fun i _ => by simp [cntA]
  · exact World.ownsRow_nil _ _ _ _
theorem CA.below {h : Nat} {E : List RawE} {N i : Nat} {rl L : List RecA} {W W' : World} {v u : Value} (H : CA h E N i rl W v) (hb : Below (N + 1 + 1) W W')
    (ha : W'.ownsRow (N + 1 + 1) 36 8 u L.length ((awsA h E L).flatMap encAw)) : CA h E N i L W' u :=
  ⟨H.own.of_block (hb.block _ (by omega)), H.cnt.of_block (hb.block _ (by omega)), ha⟩
theorem ownsRow_below {W W' : World} {base e sz n m : Nat} {v : Value} {xs : List Value} (h : W.ownsRow base e sz v n xs) (hm : W.heap.size ≤ m) (hb : Below m W W') : W'.ownsRow base e sz v n xs := by
  obtain ⟨h1, h2⟩ := h
  refine ⟨h1, ?_⟩
  rcases h2 with h2 | ⟨g, cap, cur, hv, hbs, hg, rest⟩
  · exact .inl h2
  · exact .inr ⟨g, cap, cur, hv, hbs, (hb.block g (Nat.lt_of_lt_of_le (Array.getElem?_eq_some_iff.1 hg).1 hm)).trans hg, rest⟩
/-- the two stores at a round's start -/
theorem ca_step {h : Nat} {E : List RawE} {N i : Nat} {rl : List RecA} {W : World} {v : Value} {hs ct : Nat} (H : CA h E N i rl W v) (hhs : hostA h E i = hs) (hct : cntA h E i hs = ct) :
    CA h E N (i + 1) rl ((W.setCell ⟨N + 1, hs, none⟩ (.int .i64 ((ct : Int) + 1))).setCell ⟨N, i, none⟩ (.int .i64 ((ct : Int) + 1))) v := by
  subst hhs hct
  refine ⟨?_, ?_, ?_⟩
  · have h1 := (H.own.setOther (a := ⟨N + 1, hostA h E i, none⟩) (by simp) (.int .i64 ((cntA h E i (hostA h E i) : Int) + 1))).set i (.int .i64 ((cntA h E i (hostA h E i) : Int) + 1))
    refine h1.congr fun g _ => ?_
    show (if g = i then _ else _) = Value.int .i64 ((if g < i + 1 then ownA h E g else 0 : Nat) : Int)
    by_cases e : g = i
    · subst e
      rw [if_pos rfl, if_pos (by omega)]
      unfold ownA
      rw [cntA, if_pos rfl]
      simp
    · rw [if_neg e]
      by_cases e2 : g < i
      · rw [if_pos e2, if_pos (by omega)]
      · rw [if_neg e2, if_neg (by omega)]
  · have h1 := (H.cnt.set (hostA h E i) (.int .i64 ((cntA h E i (hostA h E i) : Int) + 1))).setOther (a := ⟨N, i, none⟩) (by simp) (.int .i64 ((cntA h E i (hostA h E i) : Int) + 1))
    refine h1.congr fun g _ => ?_
    show (if g = hostA h E i then _ else _) = Value.int .i64 (cntA h E (i + 1) g)
    rw [cntA]
    by_cases e : g = hostA h E i
    · subst e; simp
    · rw [if_neg e, if_neg (fun e' => e e'.symm)]; simp
  · exact ownsRow_setCell_below (ownsRow_setCell_below H.aw (a := ⟨N + 1, hostA h E i, none⟩) (by show N + 1 < N + 1 + 1; omega) _) (a := ⟨N, i, none⟩) (by show N < N + 1 + 1; omega) _
end Go.Proofs.Ybulkbpqa
