/- 'newOutbox' (function 6). -/
import Derived.Test.YbulkbprqWake
import Derived.WalkKit
import Derived.WalkSpells
namespace Go.Proofs.Ybulkbprq
open Go.Conc Go.RowKit

theorem bytes24 : ∃ i, Yba.prog.info? 24 = some i ∧ i.bytes = 0 := by
  have h : (Yba.prog.info? 24).map (·.bytes) = some 0 := by kernel_rfl
  obtain ⟨i, hi, hb⟩ := Option.map_eq_some_iff.1 h
  exact ⟨i, hi, hb⟩
theorem mk1 (w : World) : (Instr.makeChan 23 (.int .i64 1)).run Yba.prog w = .ok (.chan (some w.heap.size)) (w.alloc (.chan 1 #[] false 0 0 false)) := by
  obtain ⟨i, hi, hb⟩ := bytes24
  simpa using run_makeChan (P := Yba.prog) (w := w) Yba.underlying23 hi .i64 1 (by omega) (by rw [hb]; omega)
theorem S_built (c : Nat) : ∃ S : Array Value, Yba.prog.built 40 [(6, .int .i64 2097152), (18, .chan (some c))] = some S ∧ S[21]? = some (.chan (some c)) ∧ S[7]? = some (.int .i64 2097152) ∧ S[3]? = some (.int .i64 0) ∧ S[12]? = some (.bool false) ∧ S[19]? = some (.bool false) ∧ S[20]? = some (.bool false) ∧ S[22]? = some (.pointer none) :=
  ⟨(Yba.prog.built 40 [(6, .int .i64 2097152), (18, .chan (some c))]).getD #[], by kernel_rfl, by kernel_rfl, by kernel_rfl, by kernel_rfl, by kernel_rfl, by kernel_rfl, by kernel_rfl, by kernel_rfl⟩
theorem wpList_build_run {P : Program} (w : World) {ops : Array Oper} {rest : List Oper} {o : Oper} {a : Act} {Q : Exit → Act → World → Prop} (hgd : o.guard = none) (t : TypeId) (i j : Nat) (x y : Operand) (ho : o.op = .build t #[(i, x), (j, y)])
    (vx vy : Value) (hx : a.eval x = vx) (hy : a.eval y = vy) (S : Array Value) (hS : P.built t [(i, vx), (j, vy)] = some S) (h : wpList P ops Q rest (a.put o.dst (.agg S)) w) : wpList P ops Q (o :: rest) a w :=
  wpList_plain hgd fun K hK => by
    subst hx hy
    have hS' : P.built t ((#[(i, x), (j, y)] : Array (Nat × Operand)).map fun (i, x) => (i, a.eval x)).toList = some S := by simpa using hS
    refine wp_build t _ ho (by rw [hS']; rfl) ?_
    rw [hS']
    exact hK _ _ h

/-- the fresh outbox: the channel in block N, the struct in block N + 1 -/
structure OB (W : World) (N : Nat) (buf : Array Value) : Prop where
  ch : ∃ s r, W.heap[N]? = some (.chan 1 buf false s r false)
  c21 : W.cell? ⟨N + 1, 21, none⟩ = some (.chan (some N))
  c7 : W.cell? ⟨N + 1, 7, none⟩ = some (.int .i64 2097152)
  c3 : W.cell? ⟨N + 1, 3, none⟩ = some (.int .i64 0)
  c12 : W.cell? ⟨N + 1, 12, none⟩ = some (.bool false)
  c19 : W.cell? ⟨N + 1, 19, none⟩ = some (.bool false)
  c20 : W.cell? ⟨N + 1, 20, none⟩ = some (.bool false)
  c22 : W.cell? ⟨N + 1, 22, none⟩ = some (.pointer (some ⟨N + 1 + 1, 0, none⟩))
theorem cell_of_blk {W : World} {b : Nat} {C : Array Value} {t : TypeId} (h : W.heap[b]? = some (.cells C t (0, 0))) (j : Nat) : W.cell? ⟨b, j, none⟩ = C[j]? := by simp [World.cell?, h]
theorem setChan_cell (W : World) (c cap : Nat) (buf : Array Value) (cl : Bool) (s r : Nat) (tm : Bool) (p : Addr) (h : p.block ≠ c) : (W.setChan c cap buf cl s r tm).cell? p = W.cell? p :=
  World.cell?_of_block (by simp only [World.setChan]; rw [Array.getElem?_setIfInBounds_ne (by omega)])
theorem OB.set {W : World} {N : Nat} {buf : Array Value} (h : OB W N buf) (buf' : Array Value) (s r : Nat) : OB (W.setChan N 1 buf' false s r false) N buf' := by
  obtain ⟨⟨s0, r0, hc⟩, h1, h2, h3, h4, h5, h6, h7⟩ := h
  have hlt : N < W.heap.size := (Array.getElem?_eq_some_iff.1 hc).1
  have hk : ∀ o, (W.setChan N 1 buf' false s r false).cell? ⟨N + 1, o, none⟩ = W.cell? ⟨N + 1, o, none⟩ := fun o => setChan_cell _ _ _ _ _ _ _ _ _ (by simp)
  exact ⟨⟨s, r, heap_setChan _ _ _ _ _ _ _ _ hlt⟩, (hk _).trans h1, (hk _).trans h2, (hk _).trans h3, (hk _).trans h4, (hk _).trans h5, (hk _).trans h6, (hk _).trans h7⟩

set_option maxRecDepth 100000 in
set_option maxHeartbeats 1000000 in
theorem outbox_any (w : World) :
    Calls Yba.prog 6 #[] w fun e w' => e = .returned (.pointer (some ⟨w.heap.size + 1, 0, none⟩)) ∧ OB w' w.heap.size #[] ∧ Below w.heap.size w w' := by
  obtain ⟨S, hS, s21, s7, s3, s12, s19, s20, s22⟩ := S_built w.heap.size
  have hmc := mk1
  go_enter Yba.func6, Yba.ntmps6
  go_wp2_with (first | (refine wpList_build_run _ rfl 40 6 18 _ _ rfl _ _ rfl rfl S hS ?_) | go_in)
  go_ret
  refine ⟨rfl, ?_, ((((Below.refl _ w).alloc (Nat.le_refl _) _).alloc (by simp) _).alloc (by simp; omega) _)⟩
  have hz : S.size > 22 := by
    by_cases h : S.size > 22
    · exact h
    · rw [Array.getElem?_eq_none (by omega)] at s22; cases s22
  have hk : ∀ (T : Array Value) (o : Obj) (j : Nat), (((w.alloc (.chan 1 #[] false 0 0 false)).alloc (.cells T 40)).alloc o).cell? ⟨w.heap.size + 1, j, none⟩ = T[j]? := by
    intro T o j
    have h1 : (((w.alloc (.chan 1 #[] false 0 0 false)).alloc (.cells T 40)).alloc o).heap[w.heap.size + 1]? = some (.cells T 40 (0, 0)) := by
      rw [Below.heap_alloc _ _ _ (by simp)]
      have := heap_alloc_new (w.alloc (.chan 1 #[] false 0 0 false)) (.cells T 40)
      rwa [World.size_alloc] at this
    exact cell_of_blk h1 j
  refine ⟨⟨0, 0, ?_⟩, ?_, ?_, ?_, ?_, ?_, ?_, ?_⟩
  · rw [Below.heap_alloc _ _ _ (by simp; omega), Below.heap_alloc _ _ _ (by simp)]
    exact heap_alloc_new w _
  all_goals rw [hk]
  · rw [Array.getElem?_setIfInBounds_ne (by omega)]; exact s21
  · rw [Array.getElem?_setIfInBounds_ne (by omega)]; exact s7
  · rw [Array.getElem?_setIfInBounds_ne (by omega)]; exact s3
  · rw [Array.getElem?_setIfInBounds_ne (by omega)]; exact s12
  · rw [Array.getElem?_setIfInBounds_ne (by omega)]; exact s19
  · rw [Array.getElem?_setIfInBounds_ne (by omega)]; exact s20
  · rw [Array.getElem?_setIfInBounds_self_of_lt hz]

/-- 'wake' on a fresh outbox -/
theorem wake_ob (N : Nat) (buf : Array Value) (w : World) (h : OB w N buf) (hb : buf = #[] ∨ buf = #[.agg #[]]) (w0 : World) (h0 : Below w0.heap.size w0 w) (hN : w0.heap.size ≤ N) :
    Calls Yba.prog 5 #[.pointer (some ⟨N + 1, 0, none⟩)] w fun e w' => e = .returned (.tuple #[]) ∧ OB w' N #[.agg #[]] ∧ Below w0.heap.size w0 w' := by
  obtain ⟨s, r, hc⟩ := h.ch
  rcases hb with rfl | rfl
  · refine (wake_room (N + 1) N s r false w h.c21 hc).mono ?_
    rintro e w' ⟨rfl, rfl⟩
    exact ⟨rfl, h.set _ _ _, below_setChan h0 hN _ _ _ _ _ _⟩
  · refine (wake_full (N + 1) N s r (.agg #[]) false w h.c21 hc).mono ?_
    rintro e w' ⟨rfl, rfl⟩
    exact ⟨rfl, h, h0⟩
end Go.Proofs.Ybulkbprq
