/- 'exceeds' (function 13). -/
import Derived.Test.YbulkbpqaIterC
namespace Go.Proofs.Ybulkbpqa
open Go.RowKit Go.Shelf Cl
attribute [local go_sem] Oper.semAt_some

/-- what 'exceeds' hands back -/
def exc (c d : List (Int × Int)) : (Int × Int) × Bool :=
  match c.find? (rise d) with
  | some x => (x, true)
  | none => ((0, 0), false)

/-- a pair of integers in a block of its own -/
def Box2 (W : World) (B : Nat) (x : Int × Int) : Prop := W.heap[B]? = some (.cells #[.int .i64 x.1, .int .i64 x.2] 48 (0, 0))
theorem Box2.lt {W : World} {B : Nat} {x : Int × Int} (h : Box2 W B x) : B < W.heap.size := (Array.getElem?_eq_some_iff.1 h).1
theorem Box2.c0 {W : World} {B : Nat} {x : Int × Int} (h : Box2 W B x) : W.cell? ⟨B, 0, none⟩ = some (.int .i64 x.1) := by simp [World.cell?, show W.heap[B]? = _ from h]
theorem Box2.c1 {W : World} {B : Nat} {x : Int × Int} (h : Box2 W B x) : W.cell? ⟨B, 1, none⟩ = some (.int .i64 x.2) := by simp [World.cell?, show W.heap[B]? = _ from h]
theorem Box2.f0 {W : World} {B : Nat} {x : Int × Int} (h : Box2 W B x) : W.frozen? ⟨B, 0, none⟩ = false := by simp [World.frozen?, show W.heap[B]? = _ from h]
theorem Box2.f1 {W : World} {B : Nat} {x : Int × Int} (h : Box2 W B x) : W.frozen? ⟨B, 1, none⟩ = false := by simp [World.frozen?, show W.heap[B]? = _ from h]
theorem Box2.new (W : World) (x : Int × Int) : Box2 (W.alloc (.cells #[.int .i64 x.1, .int .i64 x.2] 48)) W.heap.size x := World.alloc_heap_new W _
theorem Box2.kept {W W' : World} {row : Option Nat} {B : Nat} {x : Int × Int} (h : Box2 W B x) (hg : W.grownBy W' row) (hne : some B ≠ row) : Box2 W' B x := (hg.block B h.lt hne).trans h
theorem Box2.alloc {W : World} {B : Nat} {x : Int × Int} (h : Box2 W B x) (o : Obj) : Box2 (W.alloc o) B x := h.kept (World.grownBy_alloc W o none) (by simp)
theorem Box2.own {β : Type} (B : Nat) (f : β → Int × Int) : Own (fun s W => Box2 W B (f s)) := fun s X Y row hs hg hrow =>
  hs.kept hg (fun e' => by obtain ⟨o, ho, hc⟩ := hrow B e'.symm; rw [show X.heap[B]? = _ from hs] at ho; cases ho; cases hc)

/-- between two rounds (there is never a second) -/
structure ExI (w : World) (pre : List (Int × Int)) (W : World) : Prop where
  nil : pre = []
  res : Box2 W w.heap.size (0, 0)
  ok : Boxed W (w.heap.size + 1) 4 (.bool false)
  size : w.heap.size + 4 ≤ W.heap.size
  below : Below w.heap.size w W
/-- a round has returned -/
structure ExX (w : World) (j : Code) (pre : List (Int × Int)) (W : World) : Prop where
  ret : j = .ret
  one : ∃ x : Int × Int, pre = [x] ∧ W.cell? ⟨w.heap.size, 0, none⟩ = some (.int .i64 x.1) ∧ W.cell? ⟨w.heap.size, 1, none⟩ = some (.int .i64 x.2) ∧ W.cell? ⟨w.heap.size + 1, 0, none⟩ = some (.bool true)
  below : Below w.heap.size w W
theorem ExI.own (w : World) : OwnFrom (w.heap.size + 4) (ExI w) := fun s A B row hs hg hr =>
  ⟨hs.nil, Box2.own w.heap.size (fun _ : List (Int × Int) => ((0, 0) : Int × Int)) s A B row hs.res hg (fun r e => (hr r e).2), boxed_own _ 4 (fun _ : List (Int × Int) => Value.bool false) s A B row hs.ok hg (fun r e => (hr r e).2),
    Nat.le_trans hs.size hg.size, ownFrom_below (β := Unit) (Nat.le_refl _) (by omega) () A B row hs.below hg hr⟩
theorem ExX.own (w : World) (j : Code) : OwnFrom (w.heap.size + 4) (ExX w j) := fun s A B row hs hg hr => by
  obtain ⟨h1, ⟨x, h2, h3, h4, h5⟩, h6⟩ := hs
  have hr' : ∀ r, row = some r → ∃ o : Obj, A.heap[r]? = some o ∧ o.isCells = false := fun r e => (hr r e).2
  exact ⟨h1, ⟨x, h2, cell_kept h3 hg hr', cell_kept h4 hg hr', cell_kept h5 hg hr'⟩, ownFrom_below (β := Unit) (Nat.le_refl _) (by omega) () A B row h6 hg hr⟩
/-- the frame of a round of 'exceeds' -/
def ExA (w : World) (bc bd lc capc ld capd : Nat) (x : Int × Int) (a' : Act) (W : World) : Prop :=
  ∃ Bx, w.heap.size + 1 < Bx ∧ Box2 W Bx x ∧ a' = { tmps := #[.slice (some ⟨bc, 0, none⟩) lc capc, .slice (some ⟨bd, 0, none⟩) ld capd, undef, undef, .pointer (some ⟨w.heap.size, 0, none⟩), .pointer (some ⟨w.heap.size + 1, 0, none⟩), .pointer (some ⟨Bx, 0, none⟩), .slice (some ⟨bc, 0, none⟩) lc capc, .slice (some ⟨bd, 0, none⟩) ld capd, .func (.func 27) #[] #[.pointer (some ⟨w.heap.size + 1 + 1, 0, none⟩), .pointer (some ⟨w.heap.size + 1 + 1 + 1, 0, none⟩)], .agg #[.int .i64 x.1, .int .i64 x.2], undef, undef], defers := [] }
theorem exc_none {c d : List (Int × Int)} (h : c.filter (rise d) = []) : exc c d = ((0, 0), false) := by
  have : c.find? (rise d) = none := by
    rw [List.find?_eq_none]
    intro x hx
    have := List.filter_eq_nil_iff.1 h x hx
    exact this
  simp [exc, this]
theorem exc_some {c d : List (Int × Int)} {x : Int × Int} (h : [x] <+: c.filter (rise d)) : exc c d = (x, true) := by
  have : c.find? (rise d) = some x := by
    rw [← List.head?_filter]
    obtain ⟨t, ht⟩ := h
    rw [← ht]
    rfl
  simp [exc, this]

/-- the world behind the three stores of a 'return x, b' -/
def three (W : World) (B : Nat) (x : Int × Int) (b : Bool) : World := ((W.setCell ⟨B, 0, none⟩ (.int .i64 x.1)).setCell ⟨B, 1, none⟩ (.int .i64 x.2)).setCell ⟨B + 1, 0, none⟩ (.bool b)
theorem three_cells {W : World} {B : Nat} {u : Int × Int} {v : Value} (x : Int × Int) (b : Bool) (h : Box2 W B u) (h' : Boxed W (B + 1) 4 v) :
    (three W B x b).cell? ⟨B, 0, none⟩ = some (.int .i64 x.1) ∧ (three W B x b).cell? ⟨B, 1, none⟩ = some (.int .i64 x.2) ∧ (three W B x b).cell? ⟨B + 1, 0, none⟩ = some (.bool b) := by
  have c0 := h.c0
  have c1 := h.c1
  have c2 := h'.cell
  unfold three
  refine ⟨?_, ?_, ?_⟩
  · rw [World.cell?_setCell_other _ _ _ _ (by simp), World.cell?_setCell_other _ _ _ _ (by simp), World.cell?_setCell_same' _ _ _ (by rw [c0]; rfl)]
  · rw [World.cell?_setCell_other _ _ _ _ (by simp), World.cell?_setCell_same' _ _ _ (by rw [World.cell?_setCell_other _ _ _ _ (by simp), c1]; rfl)]
  · rw [World.cell?_setCell_same' _ _ _ (by rw [World.cell?_setCell_other _ _ _ _ (by simp), World.cell?_setCell_other _ _ _ _ (by simp), c2]; rfl)]
theorem three_keeps (W : World) (B : Nat) (x : Int × Int) (b : Bool) : KeepsOthers W (three W B x b) := ((KeepsOthers.setCell _ _ _).trans (KeepsOthers.setCell _ _ _)).trans (KeepsOthers.setCell _ _ _)
theorem three_below {w W : World} {x : Int × Int} {b : Bool} (h : Below w.heap.size w W) : Below w.heap.size w (three W w.heap.size x b) :=
  ((h.setCell (p := ⟨w.heap.size, 0, none⟩) (Nat.le_refl _) _).setCell (p := ⟨w.heap.size, 1, none⟩) (Nat.le_refl _) _).setCell (p := ⟨w.heap.size + 1, 0, none⟩) (Nat.le_succ _) _

set_option maxRecDepth 100000 in
set_option maxHeartbeats 2000000 in
theorem exceeds_in (n : Nat) (hn : 3 ≤ n) (bc bd capc capd : Nat) (c d : List (Int × Int)) (hu : Up d) (huc : Up c) (hlc : c.length ≤ 1024) (hld : d.length ≤ 1024) (w : World) (hC : ClkAt w.heap.size w bc c) (hD : ClkAt w.heap.size w bd d) :
    CallsIn Fence.wide n Yba.prog 13 #[.slice (some ⟨bc, 0, none⟩) c.length capc, .slice (some ⟨bd, 0, none⟩) d.length capd] w fun e W' =>
      e = .returned (.tuple #[.agg #[.int .i64 (exc c d).1.1, .int .i64 (exc c d).1.2], .bool (exc c d).2]) ∧ Below w.heap.size w W' := by
  have h1 : 1 ≤ n := by omega
  refine callsIn_of_wp_marks Yba.func13 rfl trivial ?_ rfl
  simp only [Yba.ntmps13, List.size_toArray, List.length_cons, List.length_nil, Nat.reduceAdd, Nat.reduceSub, Array.replicate_succ, Array.replicate_zero, List.push_toArray, List.append_toArray, List.nil_append, List.cons_append]
  gi_wp2_with (first | (refine ⟨trivial, ?_⟩; gi_at_call 21; refine (rises_in Fence.wide (n - 1) trivial rfl _ _ _ _ _ _ _).mono ?_; rintro e w' ⟨rfl, rfl⟩) | (gi_at_call 21; refine (rises_in Fence.wide (n - 1) trivial rfl _ _ _ _ _ _ _).mono ?_; rintro e w' ⟨rfl, rfl⟩))
  have b0 := (((Box2.new w (0, 0)).alloc (.cells #[.bool false] 4)).alloc (.cells #[.slice (some ⟨bc, 0, none⟩) c.length capc] 44)).alloc (.cells #[.slice (some ⟨bd, 0, none⟩) d.length capd] 44)
  have b1 := ((Boxed.new (w.alloc (.cells #[.int .i64 0, .int .i64 0] 48)) 4 (.bool false)).alloc (.cells #[.slice (some ⟨bc, 0, none⟩) c.length capc] 44)).alloc (.cells #[.slice (some ⟨bd, 0, none⟩) d.length capd] 44)
  have b2 := (Boxed.new ((w.alloc (.cells #[.int .i64 0, .int .i64 0] 48)).alloc (.cells #[.bool false] 4)) 44 (.slice (some ⟨bc, 0, none⟩) c.length capc)).alloc (.cells #[.slice (some ⟨bd, 0, none⟩) d.length capd] 44)
  have b3 := Boxed.new (((w.alloc (.cells #[.int .i64 0, .int .i64 0] 48)).alloc (.cells #[.bool false] 4)).alloc (.cells #[.slice (some ⟨bc, 0, none⟩) c.length capc] 44)) 44 (.slice (some ⟨bd, 0, none⟩) d.length capd)
  have hB0 : Below w.heap.size w ((((w.alloc (.cells #[.int .i64 0, .int .i64 0] 48)).alloc (.cells #[.bool false] 4)).alloc (.cells #[.slice (some ⟨bc, 0, none⟩) c.length capc] 44)).alloc (.cells #[.slice (some ⟨bd, 0, none⟩) d.length capd] 44)) :=
    ((((Below.refl _ w).alloc (Nat.le_refl _) _).alloc (by simp) _).alloc (by simp; omega) _).alloc (by simp; omega) _
  have hsz : ((((w.alloc (.cells #[.int .i64 0, .int .i64 0] 48)).alloc (.cells #[.bool false] 4)).alloc (.cells #[.slice (some ⟨bc, 0, none⟩) c.length capc] 44)).alloc (.cells #[.slice (some ⟨bd, 0, none⟩) d.length capd] 44)).heap.size = w.heap.size + 4 := by simp
  simp only [World.size_alloc] at b1 b2 b3
  obtain ⟨W0, hW0⟩ : ∃ W0, ((((w.alloc (.cells #[.int .i64 0, .int .i64 0] 48)).alloc (.cells #[.bool false] 4)).alloc (.cells #[.slice (some ⟨bc, 0, none⟩) c.length capc] 44)).alloc (.cells #[.slice (some ⟨bd, 0, none⟩) d.length capd] 44)) = W0 := ⟨_, rfl⟩
  rw [hW0] at b0 b1 b2 b3 hB0 hsz ⊢
  clear hW0
  have hC0 : ClkAt (w.heap.size + 4) W0 bc c := ⟨Nat.lt_add_right 4 hC.1, (hC.below hB0).2⟩
  have hD0 : ClkAt (w.heap.size + 4) W0 bd d := ⟨Nat.lt_add_right 4 hD.1, (hD.below hB0).2⟩
  refine wpIn_rangeFunc_ownH rfl h1 (gf := 27) (lb := #[.pointer (some ⟨w.heap.size + 1 + 1, 0, none⟩), .pointer (some ⟨w.heap.size + 1 + 1 + 1, 0, none⟩)]) rfl trivial (enters_of Yba.func27 (by kernel_rfl) rfl)
    (rises_stops (n - 1) (by omega) (w.heap.size + 1 + 1) (w.heap.size + 1 + 1 + 1) (w.heap.size + 4) bc bd capc capd c d hu huc hlc hld W0 (by omega) (by omega) (by omega) b2.cell b3.cell hC0 hD0) belowK_t (belowK_b (by omega)) (Below.refl _ _) (fun _ => rfl)
    (ExI w) (ExX w) (hsz ▸ ExI.own w) (fun j => hsz ▸ ExX.own w j) ⟨rfl, b0, b1, by omega, hB0⟩
    (ExA w bc bd c.length capc d.length capd)
    (fun x a' _ X Y row hs hg hr => by obtain ⟨Bx, h1, h2, h3⟩ := hs; exact ⟨Bx, h1, Box2.own Bx (fun _ : Unit => x) () X Y row h2 hg (fun r e => (hr r e).2), h3⟩)
    ?assign ?body ?done ?stop
  case assign =>
    intro l pre x W K hI hK
    gi_wp2
    exact hK _ _ ((KeepsOthers.alloc _ _).from _) ((Below.refl _ W).alloc hI.size _) ⟨hI.nil, hI.res.alloc _, hI.ok.alloc _, by have := hI.size; simp; omega, hI.below.alloc hI.below.size _⟩ ⟨W.heap.size, hI.ok.lt, Box2.new W x, rfl⟩
  case body =>
    rintro l pre x a' W hl - hI ⟨Bx, hBx, bX, rfl⟩ hlt
    obtain ⟨Hp, bR, bO, hs1, hB1⟩ := hI
    have r0 := bR.c0
    have r1 := bR.c1
    have f0 := bR.f0
    have f1 := bR.f1
    have o0 := bO.cell
    have of := bO.frozen
    have x0 := bX.c0
    have x1 := bX.c1
    gi_wp2
    have tc := three_cells x true bR bO
    exact ⟨(three_keeps W w.heap.size x true).from _, rfl, ⟨x, rfl, tc.1, tc.2.1, tc.2.2⟩, three_below hB1⟩
  case done =>
    rintro D ys W hD rfl hI hK
    obtain ⟨Hp, bR, bO, hs1, hB1⟩ := hI
    have HE : Hid (exc c d = ((0, 0), false)) := exc_none Hp
    clear Hp
    have r0 := bR.c0
    have r1 := bR.c1
    have f0 := bR.f0
    have f1 := bR.f1
    have o0 := bO.cell
    have of := bO.frozen
    gi_wp2
    have tc := three_cells (0, 0) false bR bO
    have hK' := (three_keeps W w.heap.size (0, 0) false).same D _ hK rfl
    have tb := three_below (x := (0, 0)) (b := false) hB1
    obtain ⟨W3, hW3⟩ : ∃ W3, ((W.setCell ⟨w.heap.size, 0, none⟩ (.int .i64 0)).setCell ⟨w.heap.size, 1, none⟩ (.int .i64 0)).setCell ⟨w.heap.size + 1, 0, none⟩ (.bool false) = W3 := ⟨_, rfl⟩
    have h3 : three W w.heap.size (0, 0) false = W3 := hW3
    rw [h3] at tc hK' tb
    rw [hW3]
    clear hW3 h3
    have hk := fun (r : Nat) (e : some D = some r) => (show ∃ o : Obj, W3.heap[r]? = some o ∧ o.isCells = false by cases e; exact ⟨_, hK', rfl⟩)
    have e0 := cell_kept tc.1 (grownBy_putObj' _ D (.deferred none)) hk
    have e1 := cell_kept tc.2.1 (grownBy_putObj' _ D (.deferred none)) hk
    have e2 := cell_kept tc.2.2 (grownBy_putObj' _ D (.deferred none)) hk
    refine ⟨by simp, .inl ⟨_, _, rfl, run_takeDeferred hK', ?_⟩⟩
    refine ⟨.tuple #[.agg #[.int .i64 0, .int .i64 0], .bool false], ?_, by rw [HE.out], tb.trans (belowK_b (w := w) (Nat.le_refl _) W3 D _ _ (by omega) hK' rfl rfl)⟩
    simp [results, Yba.f13, go_sem, e0, e1, e2]
  case stop =>
    rintro D j pre W hD hpre hX hK
    obtain ⟨rfl, ⟨x, rfl, h3, h4, h5⟩, hB⟩ := hX
    gi_wp2
    have hk := fun (r : Nat) (e : some D = some r) => (show ∃ o : Obj, W.heap[r]? = some o ∧ o.isCells = false by cases e; exact ⟨_, hK, rfl⟩)
    have e0 := cell_kept h3 (grownBy_putObj' _ D (.deferred none)) hk
    have e1 := cell_kept h4 (grownBy_putObj' _ D (.deferred none)) hk
    have e2 := cell_kept h5 (grownBy_putObj' _ D (.deferred none)) hk
    refine ⟨by simp, .inl ⟨_, _, rfl, run_takeDeferred hK, ?_⟩⟩
    refine ⟨.tuple #[.agg #[.int .i64 x.1, .int .i64 x.2], .bool true], ?_, by rw [exc_some hpre], hB.trans (belowK_b (w := w) (Nat.le_refl _) _ D _ _ (by omega) hK rfl rfl)⟩
    simp [results, Yba.f13, go_sem, e0, e1, e2]

/-- 'c.exceeds(d)': the first entry that rises, or none; nothing that lay has turned. -/
theorem exceeds_any (bc bd capc capd : Nat) (c d : List (Int × Int)) (hu : Up d) (huc : Up c) (hlc : c.length ≤ 1024) (hld : d.length ≤ 1024) (w : World) (hC : ClkAt w.heap.size w bc c) (hD : ClkAt w.heap.size w bd d) :
    Calls Yba.prog 13 #[.slice (some ⟨bc, 0, none⟩) c.length capc, .slice (some ⟨bd, 0, none⟩) d.length capd] w fun e W' =>
      e = .returned (.tuple #[.agg #[.int .i64 (exc c d).1.1, .int .i64 (exc c d).1.2], .bool (exc c d).2]) ∧ Below w.heap.size w W' :=
  callsIn_wide.1 (exceeds_in 3 (Nat.le_refl _) bc bd capc capd c d hu huc hlc hld w hC hD)
end Go.Proofs.Ybulkbpqa
