/- The comparator of 'newDeliveryWatch' (function 18) and what it calls: cmp.Compare[int] (20), cmp.isNaN[int] (26), cmp.Or[int] (19). -/
import Derived.Test.YbulkbpqaPlainA
import Derived.StillTailTactics
import Derived.Sort.Grow
import Derived.Shelf.SlSortCmp.WholeK
namespace Go.Proofs.Ybulkbpqa
open Go.RowKit

def cmpI (x y : Int) : Int := if x < y then -1 else if y < x then 1 else 0

theorem isnan_any (x : Int) (w : World) : Calls Yba.prog 26 #[.int .i64 x] w fun e w' => e = .returned (.bool false) ∧ w' = w := by
  have t : (x != x) = false := by simp
  go_enter Yba.func26, Yba.ntmps26
  go_wp2
  go_ret
  exact ⟨rfl, rfl⟩

theorem cmp_any (x y : Int) (w : World) : Calls Yba.prog 20 #[.int .i64 x, .int .i64 y] w fun e w' => e = .returned (.int .i64 (cmpI x y)) ∧ w' = w := by
  unfold cmpI
  by_cases h : x < y
  · rw [if_pos h]
    go_enter Yba.func20, Yba.ntmps20
    go_wp2_with (go_at_call 26; refine (isnan_any _ _).mono ?_; rintro e w ⟨rfl, rfl⟩)
    go_ret
    exact ⟨rfl, rfl⟩
  · rw [if_neg h]
    by_cases h2 : y < x
    · rw [if_pos h2]
      go_enter Yba.func20, Yba.ntmps20
      go_wp2_with (go_at_call 26; refine (isnan_any _ _).mono ?_; rintro e w ⟨rfl, rfl⟩)
      go_ret
      exact ⟨rfl, rfl⟩
    · rw [if_neg h2]
      have hle : y ≤ x := by omega
      have hle2 : x ≤ y := by omega
      clear h h2
      go_enter Yba.func20, Yba.ntmps20
      go_wp2_with (go_at_call 26; refine (isnan_any _ _).mono ?_; rintro e w ⟨rfl, rfl⟩)
      go_ret
      exact ⟨rfl, rfl⟩

/-- the first that is not zero -/
def firstI : List Int → Int
  | [] => 0
  | x :: xs => if x = 0 then firstI xs else x
theorem firstI_skip (l : List Int) (k : Nat) (h : ∀ j, j < k → l[j]? = some 0) : firstI l = firstI (l.drop k) := by
  induction k generalizing l with
  | zero => rfl
  | succ k ih =>
    cases l with
    | nil => rfl
    | cons x xs =>
      have h0 := h 0 (by omega)
      simp at h0
      subst h0
      rw [List.drop_succ_cons]
      rw [← ih xs (fun j hj => by have := h (j + 1) (by omega); simpa using this)]
      simp [firstI]

set_option maxHeartbeats 400000 in
theorem or_any (b n : Nat) (l : List Int) (w : World) (hl : l.length = n) (hn : n ≤ 1000) (hc : ∀ j, j < n → w.cell? ⟨b, j, none⟩ = some (.int .i64 (l.getD j 0))) :
    Calls Yba.prog 19 #[.slice (some ⟨b, 0, none⟩) n n] w fun e w' => e = .returned (.int .i64 (firstI l)) ∧ w' = w := by
  go_enter Yba.func19, Yba.ntmps19
  go_wp2
  go_loopw [8, 5] (fun kk _ wr => ∃ k : Nat, k ≤ n ∧ kk = .int .i64 k ∧ wr = w ∧ ∀ j, j < k → l[j]? = some 0)
    (fun kk _ _ => n - (intOf kk).toNat)
  case atStart => exact ⟨0, Nat.zero_le _, rfl, rfl, fun j hj => by omega⟩
  case round =>
    obtain ⟨k, hk, rfl, rfl, hz⟩ := hrel
    by_cases hlt : k < n
    · have c := hc k hlt
      obtain ⟨x, hx⟩ : ∃ x, l.getD k 0 = x := ⟨_, rfl⟩
      rw [hx] at c
      have hget : l[k]? = some x := by
        rw [← hx, List.getD_eq_getElem?_getD, List.getElem?_eq_getElem (by omega)]; rfl
      have Hg : Hid (l[k]? = some x) := hget
      have Hz : Hid (∀ j, j < k → l[j]? = some 0) := hz
      clear hz hx hget hc
      by_cases h0 : x = 0
      · subst h0
        go_wp2
        go_roundw
        case rel =>
          refine ⟨k + 1, by omega, by go_num, by first | rfl | trivial, fun j hj => ?_⟩
          by_cases e : j = k
          · subst e; exact Hg.out
          · exact Hz.out j (by omega)
        case measure => simp [intOf]; omega
      · have t : (x != 0) = true := by simp [h0]
        clear h0
        go_wp2
        go_ret
        refine ⟨?_, rfl⟩
        rw [firstI_skip l k Hz.out, List.drop_eq_getElem_cons (by omega)]
        have hx : l[k] = x := by have := Hg.out; rw [List.getElem?_eq_getElem (by omega)] at this; simpa using this
        rw [hx, firstI, if_neg (by simpa using t)]
        rfl
    · obtain rfl : k = n := by omega
      have Hz : Hid (∀ j, j < k → l[j]? = some 0) := hz
      clear hz hc
      go_wp2
      go_ret
      refine ⟨?_, rfl⟩
      rw [firstI_skip l k Hz.out, List.drop_of_length_le (by omega)]
      rfl

/-- what an awaited receipt holds: id, receiver, sender, time, receipt, queue, prev, next -/
structure Aw where
  id : ByteArray
  rcv : Int
  snd : Int
  tm : Int
  rcp : Int
  que : Int
  prev : Int
  next : Int
instance : Inhabited Aw := ⟨⟨default, 0, 0, 0, 0, 0, 0, 0⟩⟩
def encAw (x : Aw) : List Value := [.string x.id, .int .i64 x.rcv, .int .i64 x.snd, .int .i64 x.tm, .int .i64 x.rcp, .int .i64 x.que, .int .i64 x.prev, .int .i64 x.next]
def cmpAw (x y : Aw) : Int := firstI [cmpI x.rcv y.rcv, cmpI x.snd y.snd, cmpI x.tm y.tm, cmpI x.rcp y.rcp]

theorem region_tail {P : Program} {id : Nat} {Q : Exit → Act → World → Prop} {a : Act} {w : World} {l : List Oper} (n : Nat) (hm : P.follows .mixedOrders = true) (hB : Region.lexTailB .any l.toArray n = true)
    (h : ∀ wd, wd = w.drew → wpStill P l.toArray wd (fun a' => wpList P l.toArray Q (l.drop n) a' wd) (l.take n) a) : (Code.region id l.toArray true).wp P Q a w :=
  wp_region_still_tail n hm hB (h _ rfl)

open Go.Shelf Go.Lib Go.Sort in
theorem grow3 (W : World) (a b c : Obj) : (((W.alloc a).alloc b).drew).alloc c = grow (W.drewN 1) #[a, b, c] := by
  rw [alloc_eq_grow, alloc_eq_grow, alloc_eq_grow]
  show grow (grow (grow (W.drewN 1) #[a]) #[b]) #[c] = _
  rw [grow_grow, grow_grow]
  rfl
theorem four_cells (W : World) (a b c d : Int) (t : TypeId) : ∀ j, j < 4 → (W.alloc (.cells #[.int .i64 a, .int .i64 b, .int .i64 c, .int .i64 d] t)).cell? ⟨W.heap.size, j, none⟩ = some (.int .i64 ([a, b, c, d].getD j 0)) := by
  intro j hj
  match j, hj with
  | 0, _ => simp
  | 1, _ => simp
  | 2, _ => simp
  | 3, _ => simp

open Go.Shelf Go.Lib Go.Sort in
set_option maxRecDepth 100000 in
set_option maxHeartbeats 4000000 in
theorem clo_any (x y : Aw) (W : World) : Calls Yba.prog 18 #[.agg (encAw x).toArray, .agg (encAw y).toArray] W fun e w' => e = .returned (.int .i64 (cmpAw x y)) ∧ ∃ q os', w' = grow (W.drewN q) os' := by
  obtain ⟨i0, x1, x2, x3, x4, x5, x6, x7⟩ := x
  obtain ⟨j0, y1, y2, y3, y4, y5, y6, y7⟩ := y
  simp only [encAw, cmpAw]
  go_enter Yba.func18, Yba.ntmps18
  go_wp2
  refine region_tail 20 (by kernel_rfl) (by kernel_rfl) ?_
  intro wd hwd
  have c1 : wd.cell? ⟨W.heap.size, 1, none⟩ = some (.int .i64 x1) := by rw [hwd]; simp
  have c2 : wd.cell? ⟨W.heap.size, 2, none⟩ = some (.int .i64 x2) := by rw [hwd]; simp
  have c3 : wd.cell? ⟨W.heap.size, 3, none⟩ = some (.int .i64 x3) := by rw [hwd]; simp
  have c4 : wd.cell? ⟨W.heap.size, 4, none⟩ = some (.int .i64 x4) := by rw [hwd]; simp
  have d1 : wd.cell? ⟨W.heap.size + 1, 1, none⟩ = some (.int .i64 y1) := by rw [hwd]; simp
  have d2 : wd.cell? ⟨W.heap.size + 1, 2, none⟩ = some (.int .i64 y2) := by rw [hwd]; simp
  have d3 : wd.cell? ⟨W.heap.size + 1, 3, none⟩ = some (.int .i64 y3) := by rw [hwd]; simp
  have d4 : wd.cell? ⟨W.heap.size + 1, 4, none⟩ = some (.int .i64 y4) := by rw [hwd]; simp
  have Hwd : Hid (wd = _) := hwd
  clear hwd
  simp only [List.take_succ_cons, List.take_zero, List.drop_succ_cons, List.drop_zero]
  repeat still_step
  still_call (cmp_any _ _ _)
  repeat still_step
  still_call (cmp_any _ _ _)
  repeat still_step
  still_call (cmp_any _ _ _)
  repeat still_step
  still_call (cmp_any _ _ _)
  refine wpStill_nil ?_
  go_wp2_with (go_at_call 19; refine (or_any wd.heap.size 4 [cmpI x1 y1, cmpI x2 y2, cmpI x3 y3, cmpI x4 y4] _ rfl (by omega) (four_cells _ _ _ _ _ _)).mono ?_; rintro e w' ⟨rfl, rfl⟩)
  go_ret
  exact ⟨rfl, 1, _, by rw [Hwd.out]; exact grow3 _ _ _ _⟩

open Go.Shelf Go.Lib Go.Sort in
theorem cmpLaysA (blk off size : Nat) (w : World) : CmpLays Yba.prog 18 #[] encAw 8 cmpAw blk off size w :=
  fun _ _ _ _ x y => clo_any x y _

/-! ### the order, plainly -/
def ltAw (x y : Aw) : Prop := x.rcv < y.rcv ∨ (x.rcv = y.rcv ∧ (x.snd < y.snd ∨ (x.snd = y.snd ∧ (x.tm < y.tm ∨ (x.tm = y.tm ∧ x.rcp < y.rcp)))))
theorem cmpI_neg {x y : Int} : cmpI x y < 0 ↔ x < y := by unfold cmpI; split <;> (try split) <;> omega
theorem cmpI_zero {x y : Int} : cmpI x y = 0 ↔ x = y := by unfold cmpI; split <;> (try split) <;> omega
theorem cmpAw_neg (x y : Aw) : cmpAw x y < 0 ↔ ltAw x y := by
  unfold cmpAw ltAw firstI firstI firstI firstI
  simp only [cmpI_zero]
  by_cases h1 : x.rcv = y.rcv
  · rw [if_pos h1]
    by_cases h2 : x.snd = y.snd
    · rw [if_pos h2]
      by_cases h3 : x.tm = y.tm
      · rw [if_pos h3]
        by_cases h4 : x.rcp = y.rcp
        · rw [if_pos h4]; simp [firstI]; omega
        · rw [if_neg h4, cmpI_neg]; omega
      · rw [if_neg h3, cmpI_neg]; omega
    · rw [if_neg h2, cmpI_neg]; omega
  · rw [if_neg h1, cmpI_neg]; omega
open Go.Shelf Go.Lib Go.Sort in
theorem ltOf_cmpAw (x y : Aw) : ltOf cmpAw x y = true ↔ ltAw x y := by
  unfold ltOf
  rw [decide_eq_true_iff, cmpAw_neg]
open Go.Shelf Go.Lib Go.Sort in
theorem ltOf_cmpAw_false (x y : Aw) : ltOf cmpAw x y = false ↔ ¬ ltAw x y := by
  rw [← ltOf_cmpAw]; simp
open Go.Shelf Go.Lib Go.Sort in
theorem swoAw : SWO (ltOf cmpAw) where
  irrefl x := by rw [ltOf_cmpAw_false]; unfold ltAw; omega
  trans x y z h1 h2 := by rw [ltOf_cmpAw] at *; unfold ltAw at *; omega
  ntrans x y z h1 h2 := by rw [ltOf_cmpAw_false] at *; unfold ltAw at *; omega
end Go.Proofs.Ybulkbpqa
