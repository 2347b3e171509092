/- The walk of 'LawS3318AFresh' (function 4). -/
import Derived.Test.YbulkbprqOutbox
import Derived.Conc.LoneSelectN
namespace Go.Proofs.Ybulkbprq
open Go.Conc Go.RowKit

/-- the buffer behind i calls of wake -/
def bufAt (i : Nat) : Array Value := if i = 0 then #[] else #[.agg #[]]
theorem bufAt_or (i : Nat) : bufAt i = #[] ∨ bufAt i = #[.agg #[]] := by unfold bufAt; split; exact .inl rfl; exact .inr rfl

set_option maxRecDepth 100000 in
set_option maxHeartbeats 1000000 in
theorem fresh_plain (n : Nat) (m : Int) (drain : Bool) (w : World) (hm : m % 6 = n) (h0 : 0 ≤ m ∧ m ≤ 255) (hn : n ≤ 5) (hd : drain = false ∨ n = 0) :
    Calls Yba.prog 4 #[.int .u8 m, .bool drain] w fun e w' => e = .returned (.bool true) ∧ Below w.heap.size w w' := by
  go_enter Yba.func4, Yba.ntmps4
  go_wp2_with (go_at_call 6; refine (outbox_any _).mono ?_; rintro e w1 ⟨rfl, hO, bel1⟩)
  go_loopw [7] (fun si wr => ∃ i : Nat, i ≤ n ∧ si = .int .i64 i ∧ OB wr w.heap.size (bufAt i) ∧ Below w.heap.size w wr)
    (fun si _ => n - (intOf si).toNat)
  case atStart => exact ⟨0, Nat.zero_le _, rfl, hO, bel1⟩
  case round =>
    obtain ⟨i, hi, rfl, hO2, hnx⟩ := hrel
    by_cases hlt : i < n
    · go_wp2_with (go_at_call 5; refine (wake_ob w.heap.size _ _ hO2 (bufAt_or i) w hnx (Nat.le_refl _)).mono ?_; rintro e w2 ⟨rfl, hO3, hnx3⟩)
      go_roundw
      case rel => exact ⟨i + 1, by omega, by go_num, by unfold bufAt; rw [if_neg (by omega)]; exact hO3, hnx3⟩
      case measure => simp [intOf]; omega
    · obtain rfl : i = n := by omega
      obtain ⟨⟨s, r, hc⟩, h1, h2, h3, h4, h5, h6, h7⟩ := hO2
      have hlen := run_len_chan (P := Yba.prog) 23 3 Yba.underlying23 hc
      by_cases hz : i = 0
      · subst hz
        have hlen' : (Builtin.len_ #[23] 3 #[.chan (some w.heap.size)]).run Yba.prog wr = .ok (.int .i64 0) wr := hlen
        clear hlen hd
        cases drain
        all_goals
          go_wp2
          go_ret
          exact ⟨rfl, hnx⟩
      · obtain rfl : drain = false := by rcases hd with h | h; exact h; exact absurd h hz
        have hlen' : (Builtin.len_ #[23] 3 #[.chan (some w.heap.size)]).run Yba.prog wr = .ok (.int .i64 1) wr := by rw [hlen]; unfold bufAt; rw [if_neg hz]; rfl
        have hpos : 0 < i := by omega
        clear hlen hz hd
        go_wp2
        go_ret
        exact ⟨rfl, hnx⟩

/-! ### a walk of the machine's steps that takes whole statements by 'Code.wp' -/
section
variable {P : Program} {R : Goroutine → World → Prop} {a : Act} {w : World} {b : Frame} {k : List Item} {cs : List Frame}
theorem loneTo_seq {x y : Code} (h : LoneTo P R (G (b.at a (.code x :: .code y :: k)) cs) w) : LoneTo P R (G (b.at a (.code (.seq x y) :: k)) cs) w :=
  LoneTo.step (step_solo_go rfl stepG_seq) h
theorem loneTo_wp {x : Code} (h : x.wp P (fun e a' w' => e = .normal ∧ LoneTo P R (G (b.at a' k) cs) w') a w) : LoneTo P R (G (b.at a (.code x :: k)) cs) w := by
  obtain ⟨e, a', w', ⟨rfl, g', w2, hs, hq⟩, harr⟩ := h b k cs
  exact ⟨g', w2, Steps.trans harr hs, hq⟩
theorem loneTo_ret {x : Code} (h : x.wp P (fun e a' w' => e = .ret ∧ ∀ todo, R (G { b.at a' todo with mode := .returning } cs) w') a w) : LoneTo P R (G (b.at a (.code x :: k)) cs) w := by
  obtain ⟨e, a', w', ⟨rfl, hq⟩, todo, hs⟩ := h b k cs
  exact ⟨_, w', hs, hq todo⟩
theorem loneTo_cond {c : Operand} {x y : Code} {t : Bool} (hc : a.eval c = .bool t) (h : LoneTo P R (G (b.at a (.code (if t then x else y) :: k)) cs) w) : LoneTo P R (G (b.at a (.code (.cond c x y) :: k)) cs) w :=
  LoneTo.step (step_solo_go rfl (stepG_cond hc)) h
end

set_option maxRecDepth 100000 in
set_option maxHeartbeats 2000000 in
theorem fresh_drain (n : Nat) (m : Int) (w : World) (hm : m % 6 = n) (h0 : 0 ≤ m ∧ m ≤ 255) (hn : n ≤ 5) (hpos : 0 < n) :
    Calls Yba.prog 4 #[.int .u8 m, .bool true] w fun e w' => e = .returned (.bool true) ∧ Below w.heap.size w w' := by
  refine calls_of_loneTo fun cs => ?_
  have e : Frame.enter Yba.prog 4 #[.int .u8 m, .bool true] .normal = (base 4).at ⟨#[.int .u8 m, .bool true] ++ Array.replicate 85 undef, []⟩ [.code (Yba.f4.body.getD .skip)] := by
    simp [Frame.enter, Frame.at, Yba.func4, base, Yba.f4]
  rw [e]
  simp only [Yba.f4, Option.getD_some, Array.replicate_succ, Array.replicate_zero, List.push_toArray, List.append_toArray, List.nil_append, List.cons_append]
  refine loneTo_seq (loneTo_wp ?_)
  go_wp2
  refine loneTo_seq (loneTo_wp ?_)
  go_wp2
  refine loneTo_seq (loneTo_wp ?_)
  go_wp2_with (go_at_call 6; refine (outbox_any _).mono ?_; rintro e w1 ⟨rfl, hO, bel1⟩)
  refine loneTo_seq (loneTo_wp ?_)
  go_wp2
  go_loopw [7] (fun si wr => ∃ i : Nat, i ≤ n ∧ si = .int .i64 i ∧ OB wr w.heap.size (bufAt i) ∧ Below w.heap.size w wr)
    (fun si _ => n - (intOf si).toNat)
  case atStart => exact ⟨0, Nat.zero_le _, rfl, hO, bel1⟩
  case round =>
    obtain ⟨i, hi, rfl, hO2, hnx⟩ := hrel
    by_cases hlt : i < n
    · go_wp2_with (go_at_call 5; refine (wake_ob w.heap.size _ _ hO2 (bufAt_or i) w hnx (Nat.le_refl _)).mono ?_; rintro e w2 ⟨rfl, hO3, hnx3⟩)
      go_roundw
      case rel => exact ⟨i + 1, by omega, by go_num, by unfold bufAt; rw [if_neg (by omega)]; exact hO3, hnx3⟩
      case measure => simp [intOf]; omega
    · obtain rfl : i = n := by omega
      have hb : bufAt i = #[.agg #[]] := by unfold bufAt; rw [if_neg (by omega)]
      rw [hb] at hO2
      clear hb hO bel1 e hlt hi
      have HO := hO2
      obtain ⟨⟨s, r, hc⟩, h1, h2, h3, h4, h5, h6, h7⟩ := hO2
      have hlen : (Builtin.len_ #[23] 3 #[.chan (some w.heap.size)]).run Yba.prog wr = .ok (.int .i64 1) wr := run_len_chan (P := Yba.prog) 23 3 Yba.underlying23 hc
      go_wp2
      refine loneTo_seq (loneTo_wp ?_)
      go_wp2
      refine loneTo_seq (loneTo_wp ?_)
      go_wp2
      refine loneTo_seq (loneTo_wp ?_)
      go_wp2
      refine loneTo_seq (loneTo_seq (loneTo_wp ?_))
      go_wp2
      refine loneTo_cond (t := true) rfl ?_
      rw [if_pos rfl]
      refine loneTo_seq ?_
      refine LoneTo.goes (n := 5) ?_
      s_reg
      s_op
      s_op
      s_op
      s_op
      s_stop
      refine LoneTo.step (step_lone_recv_buf false (c := w.heap.size) (z := .agg #[]) (stepG_comm (cases := #[rcase w.heap.size (.agg #[])]) (blocking := true) (shape := .recv false) (w' := wr) rfl rfl (by decide) (by simp [go_sem, rcase])) hc (by simp)) ?_
      rw [Frame.finish_at]
      simp only [got]
      walk_nrm
      rw [show (#[Value.agg #[]].extract 1 1 : Array Value) = #[] from rfl]
      refine LoneTo.goes (n := 1) ?_
      s_c stepG_region_end
      s_stop
      have HO2 := HO.set #[] s (r + 1)
      have hnx2 := below_setChan hnx (Nat.le_refl _) 1 #[] false s (r + 1) false
      generalize wr.setChan w.heap.size 1 #[] false s (r + 1) false = wq at HO2 hnx2 ⊢
      clear hlen hc h1 h2 h3 h4 h5 h6 h7 HO
      refine loneTo_seq (loneTo_wp ?_)
      go_wp2_with (go_at_call 5; refine (wake_ob w.heap.size #[] _ HO2 (.inl rfl) w hnx2 (Nat.le_refl _)).mono ?_; rintro e w2 ⟨rfl, hO3, hnx3⟩)
      obtain ⟨⟨s, r, hc⟩, h1, h2, h3, h4, h5, h6, h7⟩ := hO3
      have hlen : (Builtin.len_ #[23] 3 #[.chan (some w.heap.size)]).run Yba.prog w2 = .ok (.int .i64 1) w2 := run_len_chan (P := Yba.prog) 23 3 Yba.underlying23 hc
      refine loneTo_wp ?_
      go_wp2
      refine loneTo_ret ?_
      go_wp2
      first
        | exact fun todo => ⟨.returned (.bool true), _, rfl, rfl, rfl, rfl, rfl, rfl, _, Yba.func4, by simp [results, Yba.f4, Frame.at]⟩
        | exact ⟨rfl, fun todo => ⟨.returned (.bool true), _, rfl, rfl, rfl, rfl, rfl, rfl, _, Yba.func4, by simp [results, Yba.f4, Frame.at]⟩⟩
        | exact fun todo => ⟨.returned (.bool true), _, rfl, ⟨rfl, hnx3⟩, rfl, rfl, rfl, rfl, _, Yba.func4, by simp [results, Yba.f4, Frame.at]⟩

theorem fresh_any (m : Int) (drain : Bool) (w : World) (h0 : 0 ≤ m ∧ m ≤ 255) :
    Calls Yba.prog 4 #[.int .u8 m, .bool drain] w fun e w' => e = .returned (.bool true) ∧ Below w.heap.size w w' := by
  have hm : m % 6 = ((m % 6).toNat : Int) := by omega
  have hn : (m % 6).toNat ≤ 5 := by omega
  cases drain
  · exact fresh_plain _ m false w hm h0 hn (.inl rfl)
  · by_cases hz : (m % 6).toNat = 0
    · exact fresh_plain _ m true w hm h0 hn (.inr hz)
    · exact fresh_drain _ m w hm h0 hn (by omega)
end Go.Proofs.Ybulkbprq
