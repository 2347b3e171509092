/- The walk of 'zzs3315cbuild' (function 11). -/
import Derived.Test.YbulkbpqaProg
import Derived.Test.YbulkbpqaPlainC
namespace Go.Proofs.Ybulkbpqa
open Go.RowKit Cl

theorem Yba.info48 : (Yba.prog.info? 48).map (fun i => (i.zero, i.size, i.bytes)) = some (some (.agg #[.int .i64 0, .int .i64 0]), 2, 16) := by kernel_rfl

theorem pos_count (n : Int) : wrap64 (1 + wrap64 ((IntKind.u64.wrap n).tmod 8)) = 1 + n % 8 := by
  have h : IntKind.u64.wrap n = n % 18446744073709551616 := by simp [IntKind.wrap, IntKind.signed, IntKind.bits]
  rw [h, Int.tmod_eq_emod_of_nonneg (by omega)]
  unfold wrap64
  omega

theorem cells_two_new (w : World) (o : Obj) (u v : Value) (t : TypeId) : ∀ (j : Nat) (x : Value), [u, v][j]? = some x → ((w.alloc o).alloc (.cells #[u, v] t)).cell? ((⟨w.heap.size + 1, 0, none⟩ : Addr).add j) = some x := by
  intro j x hj
  match j, hj with
  | 0, hj => simp at hj; subst hj; simp [Addr.add]
  | 1, hj => simp at hj; subst hj; simp [Addr.add]

set_option maxRecDepth 100000 in
set_option maxHeartbeats 400000 in
theorem cbuild_some (b off len cap : Nat) (pos : Bool) (xs : List (Int × Int)) (w : World) (hl : xs.length = len) (hlen : len ≤ 1024) (hb : b < w.heap.size)
    (h0 : ∀ i, i < len → w.cell? ⟨b, off + i * 2, none⟩ = some (.int .u8 (xs.getD i (0, 0)).1)) (h1 : ∀ i, i < len → w.cell? ⟨b, off + i * 2 + 1, none⟩ = some (.int .i64 (xs.getD i (0, 0)).2))
    (hg : ∀ i, i < len → 0 ≤ (xs.getD i (0, 0)).1 ∧ (xs.getD i (0, 0)).1 ≤ 255) :
    Calls Yba.prog 11 #[.slice (some ⟨b, off, none⟩) len cap, .bool pos] w fun e w' =>
      e = .returned (.slice (some ⟨w.heap.size, 0, none⟩) len len) ∧ w'.ownsRow w.heap.size 48 2 (.slice (some ⟨w.heap.size, 0, none⟩) len len) len (flat (bld pos (-1) xs)) ∧ Below w.heap.size w w' := by
  obtain ⟨i0, hi, hz0, hz1, hz2⟩ := info_parts Yba.info48
  go_enter Yba.func11, Yba.ntmps11
  go_wp2_with (at_make; refine wpList_make_own _ rfl _ _ 44 rfl w.heap.size 48 i0 _ 2 Yba.underlying44 hi hz0 hz1 _ _ _ len rfl rfl (by omega) ?b2 ?b3 (Nat.le_refl _) ?_)
  case b2 => rw [hz2]; omega
  case b3 => unfold maxLen; omega
  intro w0 hown0 hgrow0
  go_wp2
  go_loopw [5, 6, 15] (fun c h i wr => ∃ k : Nat, k ≤ len ∧ i = .int .i64 k ∧ h = .int .i64 (hst (-1) (xs.take k)) ∧ c = .slice (some ⟨w.heap.size, 0, none⟩) k len ∧
      wr.ownsRow w.heap.size 48 2 (.slice (some ⟨w.heap.size, 0, none⟩) k len) k (flat (bld pos (-1) (xs.take k))) ∧ Below w.heap.size w wr)
    (fun _ _ i _ => len - (intOf i).toNat)
  case atStart => exact ⟨0, Nat.zero_le _, rfl, by simp [hst], rfl, by simpa [flat, bld] using hown0, (Below.refl _ _).grown hgrow0 (Nat.le_refl _) (fun k h => by cases h)⟩
  case round =>
    obtain ⟨k, hk, rfl, rfl, rfl, hown, hnx⟩ := hrel
    have hb1 := hst_le (-1) (xs.take k)
    have hb2 : (xs.take k).length = k := by simp [hl, hk]
    rw [hb2] at hb1
    clear hb2
    obtain ⟨hv, Hhv⟩ : ∃ hv, hv = hst (-1) (xs.take k) := ⟨_, rfl⟩
    rw [← Hhv] at hb1 ⊢
    by_cases hlt : k < len
    · have c0 : wr.cell? ⟨b, off + k * 2, none⟩ = some (.int .u8 (xs.getD k (0, 0)).1) := (hnx.cell (by exact hb)).trans (h0 k hlt)
      have c1 : wr.cell? ⟨b, off + k * 2 + 1, none⟩ = some (.int .i64 (xs.getD k (0, 0)).2) := (hnx.cell (by exact hb)).trans (h1 k hlt)
      have hgk := hg k hlt
      obtain ⟨g, n, hx⟩ : ∃ g n, xs.getD k (0, 0) = (g, n) := ⟨_, _, rfl⟩
      rw [hx] at c0 c1 hgk
      dsimp only at c0 c1 hgk
      have Hx : Hid (xs.getD k (0, 0) = (g, n)) := hx
      have Hh : Hid (hv = hst (-1) (xs.take k)) := Hhv
      clear hx Hhv h0 h1 hg
      cases pos
      · go_wp2_with (at_builtin; refine wpList_append_fits _ rfl (.tmp 35) (.tmp 39) 44 rfl w.heap.size 48 i0 2 Yba.underlying44 hi hz1 w.heap.size k len _ rfl ((hown.alloc _).alloc _) ⟨wr.heap.size + 1, 0, none⟩ 1 1 [.int .i64 (hv + (1 + g % 3)), .int .i64 n] rfl rfl ?c1 ?c2 (by omega) ?_)
        case c1 => exact cells_two_new _ _ _ _ _
        case c2 => intro u hu; simp at hu; rcases hu with rfl | rfl <;> rfl
        intro w1 hown1 hgrow1
        go_wp2
        go_roundw
        case rel => exact ⟨k + 1, by omega, by go_num, by rw [take_snoc xs k (by omega), hst_snoc, Hx.out, ← Hh.out], rfl, by rw [take_snoc xs k (by omega), bld_snoc, Hx.out, ← Hh.out, flat_append]; exact hown1, ((hnx.alloc hnx.size _).alloc (by have := hnx.size; simp; omega) _).grown hgrow1 (by have := hnx.size; simp; omega) (fun k hk => by cases hk; exact Nat.le_refl _)⟩
        case measure => simp [intOf]; omega
      · go_wp2_with (at_builtin; refine wpList_append_fits _ rfl (.tmp 35) (.tmp 39) 44 rfl w.heap.size 48 i0 2 Yba.underlying44 hi hz1 w.heap.size k len _ rfl ((hown.alloc _).alloc _) ⟨wr.heap.size + 1, 0, none⟩ 1 1 [.int .i64 (hv + (1 + g % 3)), .int .i64 (wrap64 (1 + wrap64 ((IntKind.u64.wrap n).tmod 8)))] rfl rfl ?d1 ?d2 (by omega) ?_)
        case d1 => exact cells_two_new _ _ _ _ _
        case d2 => intro u hu; simp at hu; rcases hu with rfl | rfl <;> rfl
        intro w1 hown1 hgrow1
        go_wp2
        go_roundw
        case rel => exact ⟨k + 1, by omega, by go_num, by rw [take_snoc xs k (by omega), hst_snoc, Hx.out, ← Hh.out], rfl, by rw [take_snoc xs k (by omega), bld_snoc, Hx.out, ← Hh.out, flat_append]; rw [pos_count] at hown1; exact hown1, ((hnx.alloc hnx.size _).alloc (by have := hnx.size; simp; omega) _).grown hgrow1 (by have := hnx.size; simp; omega) (fun k hk => by cases hk; exact Nat.le_refl _)⟩
        case measure => simp [intOf]; omega
    · obtain rfl : k = len := by omega
      go_wp2
      go_ret
      have ht : xs.take k = xs := List.take_of_length_le (by omega)
      rw [ht] at hown
      exact ⟨rfl, hown, hnx⟩

set_option maxRecDepth 100000 in
set_option maxHeartbeats 400000 in
theorem cbuild_none (ao : Option Addr) (cap : Nat) (pos : Bool) (w : World) :
    Calls Yba.prog 11 #[.slice ao 0 cap, .bool pos] w fun e w' =>
      e = .returned (.slice (some ⟨w.heap.size, 0, none⟩) 0 0) ∧ w'.ownsRow w.heap.size 48 2 (.slice (some ⟨w.heap.size, 0, none⟩) 0 0) 0 [] ∧ Below w.heap.size w w' := by
  obtain ⟨i0, hi, hz0, hz1, hz2⟩ := info_parts Yba.info48
  go_enter Yba.func11, Yba.ntmps11
  go_wp2_with (at_make; refine wpList_make_own _ rfl _ _ 44 rfl w.heap.size 48 i0 _ 2 Yba.underlying44 hi hz0 hz1 _ _ _ 0 rfl rfl (by omega) ?b2 ?b3 (Nat.le_refl _) ?_)
  case b2 => rw [hz2]; omega
  case b3 => unfold maxLen; omega
  intro w0 hown0 hgrow0
  go_wp2
  refine wp_loop_rounds 1 ?_
  rw [rounds_succ]
  go_wp2
  go_ret
  exact ⟨rfl, hown0, (Below.refl _ _).grown hgrow0 (Nat.le_refl _) (fun k h => by cases h)⟩

/-- what the walks are told of a slice of raw entries that came in -/
def Ents (W : World) (ao : Option Addr) (len : Nat) (xs : List (Int × Int)) : Prop :=
  xs.length = len ∧ (len = 0 ∨ ∃ b off, ao = some ⟨b, off, none⟩ ∧ b < W.heap.size ∧ (∀ i, i < len → W.cell? ⟨b, off + i * 2, none⟩ = some (.int .u8 (xs.getD i (0, 0)).1)) ∧
    (∀ i, i < len → W.cell? ⟨b, off + i * 2 + 1, none⟩ = some (.int .i64 (xs.getD i (0, 0)).2)) ∧ ∀ i, i < len → 0 ≤ (xs.getD i (0, 0)).1 ∧ (xs.getD i (0, 0)).1 ≤ 255)

theorem Ents.below {W W' : World} {ao : Option Addr} {len : Nat} {xs : List (Int × Int)} (h : Ents W ao len xs) (hb : Below W.heap.size W W') : Ents W' ao len xs := by
  obtain ⟨hl, h⟩ := h
  refine ⟨hl, ?_⟩
  rcases h with h | ⟨b, off, ha, hlt, h0, h1, hg⟩
  · exact .inl h
  · exact .inr ⟨b, off, ha, Nat.lt_of_lt_of_le hlt hb.size, fun i hi => (hb.cell (p := ⟨b, off + i * 2, none⟩) hlt).trans (h0 i hi), fun i hi => (hb.cell (p := ⟨b, off + i * 2 + 1, none⟩) hlt).trans (h1 i hi), hg⟩

theorem cbuild_any (ao : Option Addr) (len cap : Nat) (pos : Bool) (xs : List (Int × Int)) (w : World) (h : Ents w ao len xs) (hlen : len ≤ 1024) :
    Calls Yba.prog 11 #[.slice ao len cap, .bool pos] w fun e w' =>
      e = .returned (.slice (some ⟨w.heap.size, 0, none⟩) len len) ∧ w'.ownsRow w.heap.size 48 2 (.slice (some ⟨w.heap.size, 0, none⟩) len len) len (flat (bld pos (-1) xs)) ∧ Below w.heap.size w w' := by
  obtain ⟨hl, h⟩ := h
  rcases h with rfl | ⟨b, off, rfl, hlt, h0, h1, hg⟩
  · obtain rfl : xs = [] := List.length_eq_zero_iff.1 hl
    exact cbuild_none ao cap pos w
  · exact cbuild_some b off len cap pos xs w hl hlen hlt h0 h1 hg
end Go.Proofs.Ybulkbpqa
