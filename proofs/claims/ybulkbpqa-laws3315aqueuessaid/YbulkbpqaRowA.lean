/- The row of awaited receipts by the index; the sort upon it. -/
import Derived.Test.YbulkbpqaAwA
namespace Go.Proofs.Ybulkbpqa
open Go.RowKit Go.Sort
set_option linter.unusedVariables false

/-- block g holds the awaited receipts f 0, .., f (n - 1) -/
def AwRow (W : World) (g n : Nat) (f : Nat → Aw) : Prop :=
  ∃ cur : Array Value, W.heap[g]? = some (.cells cur 36 (0, 0)) ∧ n * 8 ≤ cur.size ∧ ∀ j c, j < n → c < 8 → cur[j * 8 + c]? = (encAw (f j))[c]?

theorem AwRow.lt {W : World} {g n : Nat} {f : Nat → Aw} (h : AwRow W g n f) : g < W.heap.size := by
  obtain ⟨cur, hb, _⟩ := h
  exact (Array.getElem?_eq_some_iff.1 hb).1
theorem AwRow.cell {W : World} {g n : Nat} {f : Nat → Aw} (h : AwRow W g n f) {j c : Nat} (hj : j < n) (hc : c < 8) : W.cell? ⟨g, j * 8 + c, none⟩ = (encAw (f j))[c]? := by
  obtain ⟨cur, hb, _, hx⟩ := h
  rw [cell_of_row _ g _ cur 36 (0, 0) hb]
  exact hx j c hj hc
theorem AwRow.frozen {W : World} {g n : Nat} {f : Nat → Aw} (h : AwRow W g n f) (k : Nat) : W.frozen? ⟨g, k, none⟩ = false := by
  obtain ⟨cur, hb, _⟩ := h
  simp [World.frozen?, hb]
theorem AwRow.of_block {W W' : World} {g n : Nat} {f : Nat → Aw} (h : AwRow W g n f) (e : W'.heap[g]? = W.heap[g]?) : AwRow W' g n f := by
  obtain ⟨cur, hb, hx⟩ := h
  exact ⟨cur, e.trans hb, hx⟩
theorem AwRow.congr {W : World} {g n : Nat} {f f' : Nat → Aw} (h : AwRow W g n f) (e : ∀ j, j < n → f j = f' j) : AwRow W g n f' := by
  obtain ⟨cur, hb, hs, hx⟩ := h
  exact ⟨cur, hb, hs, fun j c hj hc => by rw [← e j hj]; exact hx j c hj hc⟩
/-- one cell of one receipt turned -/
theorem AwRow.set {W : World} {g n : Nat} {f : Nat → Aw} (h : AwRow W g n f) {k c : Nat} (hk : k < n) (hc : c < 8) (v : Value) (x : Aw) (hx : ∀ c', c' < 8 → (encAw x)[c']? = if c' = c then some v else (encAw (f k))[c']?) :
    AwRow (W.setCell ⟨g, k * 8 + c, none⟩ v) g n (fun j => if j = k then x else f j) := by
  obtain ⟨cur, hb, hs, hy⟩ := h
  refine ⟨cur.setIfInBounds (k * 8 + c) v, ?_, by simpa using hs, fun j c' hj hc' => ?_⟩
  · simp [World.setCell, Array.getElem?_modify, hb]
  · rw [Array.getElem?_setIfInBounds]
    by_cases e : k * 8 + c = j * 8 + c'
    · have e1 : j = k := by omega
      have e2 : c' = c := by omega
      subst e1 e2
      rw [if_pos rfl, if_pos (by omega)]
      show _ = (encAw (if j = j then x else f j))[c']?
      rw [if_pos rfl, hx c' hc', if_pos rfl]
    · rw [if_neg e]
      show _ = (encAw (if j = k then x else f j))[c']?
      by_cases e1 : j = k
      · subst e1
        rw [if_pos rfl, hx c' hc', if_neg (by omega)]
        exact hy j c' hj hc'
      · rw [if_neg e1]
        exact hy j c' hj hc'

theorem flatMap_get (xs : List Aw) : ∀ (j c : Nat) (x : Aw), xs[j]? = some x → c < 8 → (xs.flatMap encAw)[j * 8 + c]? = (encAw x)[c]? := by
  induction xs with
  | nil => intro j c x hx; simp at hx
  | cons y ys ih =>
    intro j c x hx hc
    have hl : (encAw y).length = 8 := rfl
    rw [List.flatMap_cons]
    cases j with
    | zero =>
      simp at hx
      subst hx
      rw [List.getElem?_append_left (by omega)]
      simp
    | succ j =>
      simp at hx
      rw [List.getElem?_append_right (by omega), show (j + 1) * 8 + c - (encAw y).length = j * 8 + c by omega]
      exact ih j c x hx hc
theorem flatMap_length (xs : List Aw) : (xs.flatMap encAw).length = xs.length * 8 := by
  induction xs with
  | nil => rfl
  | cons y ys ih => rw [List.flatMap_cons, List.length_append, ih, List.length_cons]; have : (encAw y).length = 8 := rfl; omega

theorem awRow_of_owns {W : World} {base g n cap : Nat} {xs : List Aw} (h : W.ownsRow base 36 8 (.slice (some ⟨g, 0, none⟩) n cap) n (xs.flatMap encAw)) (hn : xs.length = n) :
    base ≤ g ∧ n ≤ cap ∧ AwRow W g n (fun j => xs.getD j default) := by
  rcases h.2 with ⟨h0, _⟩ | ⟨g', cap', cur, hv, hb, hg, hc, hm, hs, ht⟩
  · cases h0
  · cases hv
    refine ⟨hb, hc, cur, hg, by omega, fun j c hj hc8 => ?_⟩
    have hget : xs[j]? = some (xs.getD j default) := by rw [List.getD_eq_getElem?_getD, List.getElem?_eq_getElem (by omega)]; rfl
    rw [← flatMap_get xs j c _ hget hc8, ← ht, List.getElem?_take, if_pos (by omega)]
    simp

theorem holds_of_row {W : World} {g n : Nat} {d : Array Aw} (h : AwRow W g n (fun j => d[j]!)) (hn : d.size = n) : HoldsK encAw 8 W g 0 d := by
  intro t ht
  rw [size_flatK, hn] at ht
  have h1 := h.cell (j := t / 8) (c := t % 8) (by omega) (by omega)
  rw [show t / 8 * 8 + t % 8 = t by omega] at h1
  rw [Nat.zero_add, h1, h.frozen]
  refine ⟨?_, rfl⟩
  rw [get_flatK encAw 8 d t (by omega)]
  have : t % 8 < (encAw d[t / 8]!).length := by have : (encAw d[t / 8]!).length = 8 := rfl; omega
  rw [List.getElem?_eq_getElem this]
  simp [this]

theorem heap_sortWorld {w : World} {g n m : Nat} {cur : Array Value} {d' : Array Aw} {os : Array Obj} (hg : w.heap[g]? = some (.cells cur 36 (0, 0))) :
    (sortWorldK encAw 8 w g 0 m d' os).heap[g]? = some (.cells (putCells id 0 (flatK encAw 8 d') cur) 36 (0, 0)) := by
  have hlt : g < w.heap.size := (Array.getElem?_eq_some_iff.1 hg).1
  unfold sortWorldK
  rw [heap_grow_old _ _ (by unfold putRowK; rw [size_putRow]; exact hlt)]
  unfold putRowK putRow mapBlock
  simp only [Array.getElem?_modify, if_true]
  show Option.map _ (Sort.ahead w m).heap[g]? = _
  rw [show (Sort.ahead w m).heap[g]? = some (.cells cur 36 (0, 0)) from hg]
  rfl
theorem heap_sortWorld_other {w : World} {g m k : Nat} {d' : Array Aw} {os : Array Obj} (hk : k < w.heap.size) (hne : k ≠ g) :
    (sortWorldK encAw 8 w g 0 m d' os).heap[k]? = w.heap[k]? := by
  unfold sortWorldK
  rw [heap_grow_old _ _ (by unfold putRowK; rw [size_putRow]; exact hk)]
  unfold putRowK putRow mapBlock
  simp only [Array.getElem?_modify]
  rw [if_neg (fun e => hne e.symm)]
  rfl
theorem below_sortWorld {w : World} {base g m : Nat} {d' : Array Aw} {os : Array Obj} (hb : base ≤ g) (hs : base ≤ w.heap.size) : Below base w (sortWorldK encAw 8 w g 0 m d' os) := by
  refine ⟨rfl, rfl, rfl, ?_, fun k hk => heap_sortWorld_other (by omega) (by omega)⟩
  unfold sortWorldK grow
  simp only [Array.size_append]
  unfold putRowK
  rw [size_putRow]
  show w.heap.size ≤ w.heap.size + _
  omega
theorem row_sortWorld {w : World} {g n m : Nat} {f : Nat → Aw} {d' : Array Aw} {os : Array Obj} (h : AwRow w g n f) (hd : d'.size = n) : AwRow (sortWorldK encAw 8 w g 0 m d' os) g n (fun j => d'[j]!) := by
  obtain ⟨cur, hg, hs, _⟩ := h
  refine ⟨_, heap_sortWorld (n := n) hg, by simpa [putCells] using hs, fun j c hj hc => ?_⟩
  have ht : j * 8 + c < cur.size := by omega
  have h8 : (encAw d'[j]!).length = 8 := rfl
  simp only [putCells, Array.getElem?_mapIdx, Array.getElem?_eq_getElem ht, Option.map_some, size_flatK]
  rw [if_pos ⟨by omega, by omega⟩]
  simp only [id, Nat.sub_zero]
  rw [get_flatK encAw 8 d' _ (by omega), show (j * 8 + c) / 8 = j by omega, show (j * 8 + c) % 8 = c by omega]
  rw [List.getElem?_eq_getElem (by omega)]
  simp [h8, hc]

theorem sort_row (g n cap base : Nat) (f : Nat → Aw) (w : World) (h : AwRow w g n f) (hn : n ≤ 4096) (hb : base ≤ g) :
    Calls Yba.prog 17 #[.slice (some ⟨g, 0, none⟩) n cap, .func (.func 18) #[] #[]] w fun e w' => e = .returned (.tuple #[]) ∧
      ∃ f' : Nat → Aw, AwRow w' g n f' ∧ ((List.range n).map f').Perm ((List.range n).map f) ∧ (∀ i j, i < j → j < n → ¬ ltAw (f' j) (f' i)) ∧ Below base w w' := by
  have hsz : (((List.range n).map f).toArray).size = n := by simp
  have hget : ∀ j, j < n → (((List.range n).map f).toArray)[j]! = f j := fun j hj => by simp [hj]
  have hrow : AwRow w g n (fun j => (((List.range n).map f).toArray)[j]!) := h.congr fun j hj => (hget j hj).symm
  have hc := sortA g 0 cap ((List.range n).map f).toArray w (holds_of_row hrow hsz) h.lt (by rw [hsz]; omega)
  rw [hsz] at hc
  refine hc.mono ?_
  rintro e w' ⟨rfl, d', m, os, hp, hs, rfl⟩
  have hd : d'.size = n := by rw [hp.1, hsz]
  refine ⟨rfl, fun j => d'[j]!, row_sortWorld h hd, ?_, fun i j hij hj => ?_, below_sortWorld hb (Nat.le_trans hb (Nat.le_of_lt h.lt))⟩
  · have h1 := hp.2.2
    have e0 : ∀ x : Array Aw, x.size = n → x.extract 0 n = x := fun x hx => by rw [← hx]; simp
    have e1 : d'.extract 0 n = d' := e0 _ hd
    have e2 : (((List.range n).map f).toArray).extract 0 n = ((List.range n).map f).toArray := e0 _ hsz
    rw [e1, e2] at h1
    have e3 : (List.range n).map (fun j => d'[j]!) = d'.toList := by
      apply List.ext_getElem
      · simp [hd]
      · intro i h1 h2
        simp at h1 h2
        simp [h2]
    rw [e3]
    exact h1
  · have := hs i j (Nat.zero_le _) hij hj
    rwa [ltOf_cmpAw_false] at this
end Go.Proofs.Ybulkbpqa
