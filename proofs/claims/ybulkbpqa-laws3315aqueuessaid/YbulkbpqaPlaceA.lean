/- The sorted receipts, plainly: each once, strictly in order; the links as the last loop lays them. -/
import Derived.Test.YbulkbpqaWatch0A
namespace Go.Proofs.Ybulkbpqa
open Go.RowKit
set_option linter.unusedVariables false

/-! ### the sort, the slice nil or not -/
theorem sort_any (ao : Option Addr) (g n cap base : Nat) (f : Nat → Aw) (w : World) (h : 0 < n → ao = some ⟨g, 0, none⟩ ∧ AwRow w g n f ∧ base ≤ g) (hn : n ≤ 4096) :
    Calls Yba.prog 17 #[.slice ao n cap, .func (.func 18) #[] #[]] w fun e w' => e = .returned (.tuple #[]) ∧
      ∃ f' : Nat → Aw, (0 < n → AwRow w' g n f') ∧ ((List.range n).map f').Perm ((List.range n).map f) ∧ (∀ i j, i < j → j < n → ¬ ltAw (f' j) (f' i)) ∧ Below base w w' := by
  by_cases h0 : n = 0
  · subst h0
    refine (sortA_none ao cap _ w).mono ?_
    rintro e w' ⟨rfl, rfl⟩
    exact ⟨rfl, f, fun h => absurd h (by omega), .refl _, fun i j _ hj => absurd hj (by omega), Below.refl _ _⟩
  · obtain ⟨rfl, hr, hb⟩ := h (by omega)
    refine (sort_row g n cap base f w hr hn hb).mono ?_
    rintro e w' ⟨rfl, f', hr', hp, hs, b⟩
    exact ⟨rfl, f', fun _ => hr', hp, hs, b⟩
theorem slice_owned {W : World} {base n : Nat} {u : Value} {xs : List Aw} (h : W.ownsRow base 36 8 u n (xs.flatMap encAw)) (hn : xs.length = n) :
    ∃ ao g c5, u = .slice ao n c5 ∧ n ≤ c5 ∧ (0 < n → ao = some ⟨g, 0, none⟩ ∧ AwRow W g n (fun j => xs.getD j default) ∧ base ≤ g) := by
  rcases h.2 with ⟨h0, h1⟩ | ⟨g, c5, cur, hv, h2⟩
  · exact ⟨none, 0, 0, by rw [h0, h1], by omega, fun hp => absurd hp (by omega)⟩
  · subst hv
    obtain ⟨hb, hc, hr⟩ := awRow_of_owns h hn
    exact ⟨_, g, c5, rfl, hc, fun _ => ⟨rfl, hr, hb⟩⟩

/-! ### each receipt once, strictly in order -/
structure Srt (h : Nat) (E : List RawE) (n : Nat) (f : Nat → Aw) : Prop where
  len : (recsA h E E.length).length = n
  rc : ∀ k, k < n → ∃ j, j < n ∧ f k = awOf h E j ((recsA h E E.length).getD j default)
  inj : ∀ i k, i < n → k < n → (f i).rcp = (f k).rcp → i = k
  chain : ∀ i j, i < j → j < n → ltAw (f i) (f j)
  sur : ∀ j, j < n → ∃ k, k < n ∧ (f k).rcp = (j : Nat)
theorem recsA_rcv {h : Nat} (hp : 0 < h) (E : List RawE) (i : Nat) : ∀ r ∈ recsA h E i, r.rcv < h := by
  induction i with
  | zero => intro r hr; cases hr
  | succ i ih =>
    intro r hr
    rw [recsA] at hr
    rcases List.mem_append.1 hr with hr | hr
    · exact ih r hr
    · rw [(recsOf_mem hr).2]; exact hostA_lt hp E i
theorem Srt.rcv {h : Nat} (hp : 0 < h) {E : List RawE} {n : Nat} {f : Nat → Aw} (H : Srt h E n f) {k : Nat} (hk : k < n) : ∃ r : Nat, r < h ∧ (f k).rcv = r := by
  obtain ⟨j, hj, e⟩ := H.rc k hk
  rw [e]
  refine ⟨_, ?_, rfl⟩
  refine recsA_rcv hp E E.length _ ?_
  rw [List.getD_eq_getElem?_getD, List.getElem?_eq_getElem (by rw [H.len]; exact hj)]
  exact List.getElem_mem _
theorem Srt.rcp {h : Nat} {E : List RawE} {n : Nat} {f : Nat → Aw} (H : Srt h E n f) {k : Nat} (hk : k < n) : ∃ j : Nat, j < n ∧ (f k).rcp = j := by
  obtain ⟨j, hj, e⟩ := H.rc k hk
  exact ⟨j, hj, by rw [e]; rfl⟩
theorem srt_of {h : Nat} {E : List RawE} {n : Nat} {f : Nat → Aw} (hn : (recsA h E E.length).length = n) (hp : ((List.range n).map f).Perm ((List.range n).map fun j => (awsA h E (recsA h E E.length)).getD j default)) (hs : ∀ i j, i < j → j < n → ¬ ltAw (f j) (f i)) : Srt h E n f := by
  have hget : ∀ j, j < n → (awsA h E (recsA h E E.length)).getD j default = awOf h E j ((recsA h E E.length).getD j default) := by
    intro j hj
    unfold awsA
    rw [List.getD_eq_getElem?_getD, List.getElem?_mapIdx, List.getD_eq_getElem?_getD, List.getElem?_eq_getElem (by omega)]
    rfl
  have hinj : ∀ i k, i < n → k < n → (f i).rcp = (f k).rcp → i = k := by
    have h1 := hp.map Aw.rcp
    rw [List.map_map, List.map_map] at h1
    have e : (List.range n).map (Aw.rcp ∘ fun j => (awsA h E (recsA h E E.length)).getD j default) = (List.range n).map fun j : Nat => (j : Int) := by
      refine List.map_congr_left fun j hj => ?_
      show ((awsA h E (recsA h E E.length)).getD j default).rcp = _
      rw [hget j (List.mem_range.1 hj)]; rfl
    rw [e] at h1
    have nd : ((List.range n).map fun j : Nat => (j : Int)).Nodup := by
      refine List.Pairwise.map _ (fun a b hab => ?_) List.nodup_range
      omega
    have nd2 := h1.symm.nodup nd
    intro i k hi hk hik
    have h2 := List.getElem_inj (h₀ := (by simpa using hi)) (h₁ := (by simpa using hk)) nd2 |>.1 (by simpa using hik)
    exact h2
  refine ⟨hn, fun k hk => ?_, hinj, fun i j hij hj => ?_, fun j hj => ?_⟩
  · have : f k ∈ (List.range n).map f := List.mem_map.2 ⟨k, List.mem_range.2 hk, rfl⟩
    obtain ⟨j, hj, e⟩ := List.mem_map.1 (hp.mem_iff.1 this)
    have hj' := List.mem_range.1 hj
    exact ⟨j, hj', by rw [← e, hget j hj']⟩
  · have h1 := hs i j hij hj
    have h2 : (f i).rcp ≠ (f j).rcp := fun e => by have := hinj i j (by omega) hj e; omega
    unfold ltAw at *
    omega
  · have : (awsA h E (recsA h E E.length)).getD j default ∈ (List.range n).map fun j => (awsA h E (recsA h E E.length)).getD j default := List.mem_map.2 ⟨j, List.mem_range.2 hj, rfl⟩
    obtain ⟨k, hk, e⟩ := List.mem_map.1 (hp.mem_iff.2 this)
    exact ⟨k, List.mem_range.1 hk, by rw [e, hget j hj]; rfl⟩

/-! ### the links -/
theorem F3_self (s : Nat → Aw) (k : Nat) : F3 s k k = { s k with prev := (k : Int) - 1, next := (k : Int) + 1 } := by unfold F3; rw [if_pos rfl]
theorem F3_below (s : Nat → Aw) (m : Nat) : F3 s (m + 1) m = { s m with que := queA s m, prev := prevA s m, next := nextA s (m + 1) m } := by
  unfold F3; rw [if_neg (by omega)]; unfold FA; rw [if_pos (by omega)]
/-- ahead of region 28: all but the queue of k -/
def F6 (s : Nat → Aw) (k j : Nat) : Aw := if j = k then { s k with prev := prevA s k, next := nextA s (k + 1) k } else FA s (k + 1) j
theorem nextA_self (s : Nat → Aw) (k : Nat) : nextA s (k + 1) k = (k : Int) + 1 := by unfold nextA; rw [if_neg (by omega)]
theorem nextA_old (s : Nat → Aw) {k j : Nat} (h : j + 1 < k) : nextA s (k + 1) j = nextA s k j := by unfold nextA; rw [if_pos h, if_pos (by omega)]
theorem FA_old (s : Nat → Aw) {k j : Nat} (h : j ≠ k) (h2 : j + 1 ≠ k) : FA s (k + 1) j = FA s k j := by
  unfold FA
  by_cases h3 : j < k
  · rw [if_pos h3, if_pos (by omega), nextA_old s (by omega)]
  · rw [if_neg h3, if_neg (by omega)]
theorem link_same {W : World} {g n k : Nat} {s : Nat → Aw} (h : AwRow W g n (F3 s k)) (hs : sameA s k = true) : AwRow W g n (F6 s k) := by
  refine h.congr fun j _ => ?_
  unfold F3 F6
  by_cases e : j = k
  · subst e
    rw [if_pos rfl, if_pos rfl, nextA_self]
    unfold prevA; rw [if_pos hs]
  · rw [if_neg e, if_neg e]
    by_cases e2 : j + 1 = k
    · subst e2
      unfold FA
      rw [if_pos (by omega), if_pos (by omega)]
      unfold nextA
      rw [if_neg (by omega), if_pos (by omega), if_pos hs]
    · rw [FA_old s e e2]
theorem link_new0 {W : World} {g n : Nat} {s : Nat → Aw} (h : AwRow W g n (F3 s 0)) (hn : 0 < n) : AwRow (W.setCell ⟨g, 0 * 8 + 6, none⟩ (.int .i64 (-1))) g n (F6 s 0) := by
  have h1 := h.set hn (show 6 < 8 by omega) (.int .i64 (-1)) { s 0 with prev := -1, next := 1 } (by
    intro c' hc'
    rw [F3_self]
    match c', hc' with
    | 0, _ | 1, _ | 2, _ | 3, _ | 4, _ | 5, _ | 6, _ | 7, _ => rfl)
  refine h1.congr fun j _ => ?_
  unfold F6
  by_cases e : j = 0
  · rw [if_pos e, if_pos e, nextA_self]
    unfold prevA sameA; simp
  · simp only [if_neg e]
    unfold F3; rw [if_neg e, FA_old s e (by omega)]
theorem link_new {W : World} {g n m : Nat} {s : Nat → Aw} (h : AwRow W g n (F3 s (m + 1))) (hn : m + 1 < n) (hs : sameA s (m + 1) = false) :
    AwRow ((W.setCell ⟨g, (m + 1) * 8 + 6, none⟩ (.int .i64 (-1))).setCell ⟨g, m * 8 + 7, none⟩ (.int .i64 (-1))) g n (F6 s (m + 1)) := by
  have h1 := h.set hn (show 6 < 8 by omega) (.int .i64 (-1)) { s (m + 1) with prev := -1, next := ((m + 1 : Nat) : Int) + 1 } (by
    intro c' hc'
    rw [F3_self]
    match c', hc' with
    | 0, _ | 1, _ | 2, _ | 3, _ | 4, _ | 5, _ | 6, _ | 7, _ => rfl)
  have h2 := h1.set (show m < n by omega) (show 7 < 8 by omega) (.int .i64 (-1)) { s m with que := queA s m, prev := prevA s m, next := -1 } (by
    intro c' hc'
    rw [if_neg (show m ≠ m + 1 by omega), F3_below]
    match c', hc' with
    | 0, _ | 1, _ | 2, _ | 3, _ | 4, _ | 5, _ | 6, _ | 7, _ => rfl)
  refine h2.congr fun j _ => ?_
  unfold F6
  by_cases e : j = m
  · subst e
    simp only [if_pos, if_neg (show j ≠ j + 1 by omega)]
    unfold FA
    rw [if_pos (by omega)]
    unfold nextA
    rw [if_pos (by omega), hs]
    rfl
  · simp only [if_neg e]
    by_cases e2 : j = m + 1
    · simp only [if_pos e2, nextA_self]
      unfold prevA; rw [hs]; rfl
    · simp only [if_neg e2]
      unfold F3; rw [if_neg e2, FA_old s e2 (by omega)]
theorem link_que {W : World} {g n k : Nat} {s : Nat → Aw} (h : AwRow W g n (F6 s k)) (hk : k < n) : AwRow (W.setCell ⟨g, k * 8 + 5, none⟩ (.int .i64 (queA s k))) g n (FA s (k + 1)) := by
  have h1 := h.set hk (show 5 < 8 by omega) (.int .i64 (queA s k)) { s k with que := queA s k, prev := prevA s k, next := nextA s (k + 1) k } (by
    intro c' hc'
    unfold F6; rw [if_pos rfl]
    match c', hc' with
    | 0, _ | 1, _ | 2, _ | 3, _ | 4, _ | 5, _ | 6, _ | 7, _ => rfl)
  refine h1.congr fun j _ => ?_
  by_cases e : j = k
  · subst e
    rw [if_pos rfl]
    unfold FA; rw [if_pos (by omega)]
  · simp only [if_neg e]
    unfold F6; rw [if_neg e]
def nextE (s : Nat → Aw) (n j : Nat) : Int := if j + 1 < n ∧ sameA s (j + 1) = true then (j : Int) + 1 else -1
/-- the receipts as the watch ends -/
def FE (s : Nat → Aw) (n j : Nat) : Aw := { s j with que := queA s j, prev := prevA s j, next := nextE s n j }
theorem link_end {W : World} {g m : Nat} {s : Nat → Aw} (h : AwRow W g (m + 1) (FA s (m + 1))) : AwRow (W.setCell ⟨g, m * 8 + 7, none⟩ (.int .i64 (-1))) g (m + 1) (FE s (m + 1)) := by
  have h1 := h.set (show m < m + 1 by omega) (show 7 < 8 by omega) (.int .i64 (-1)) { s m with que := queA s m, prev := prevA s m, next := -1 } (by
    intro c' hc'
    unfold FA; rw [if_pos (show m < m + 1 by omega)]
    match c', hc' with
    | 0, _ | 1, _ | 2, _ | 3, _ | 4, _ | 5, _ | 6, _ | 7, _ => rfl)
  refine h1.congr fun j hj => ?_
  unfold FE nextE
  by_cases e : j = m
  · subst e
    rw [if_pos rfl, if_neg (by omega)]
  · simp only [if_neg e]
    unfold FA nextA
    rw [if_pos hj, if_pos (by omega)]
    have h3 : j + 1 < m + 1 := by omega
    simp only [h3, true_and]
end Go.Proofs.Ybulkbpqa
