/- The walk of 'LawS3315AReceipts' (function 3). -/
import Derived.Test.YbulkbpqaWatchA
import Derived.Test.YbulkbpqaBigA
import Derived.Test.YbulkbpqaColA
import Derived.Lib.Builder
namespace Go.Proofs.Ybulkbpqa
open Go.RowKit
set_option linter.unusedVariables false

theorem Yba.infA70 : (Yba.prog.info? 70).isSome = true := by kernel_rfl
/-- where receipt j lies -/
theorem WaA.place {h : Nat} {E : List RawE} {n : Nat} {f : Nat → Aw} {ao : Option Addr} {T D Qb Ab g c5 base : Nat} {w W : World} (H : WaA h E n f ao T D Qb Ab g c5 base w W) {j : Nat} (hj : j < n) :
    ∃ k, k < n ∧ W.cell? ⟨Ab, j, none⟩ = some (.int .i64 k) ∧ f k = awOf h E j ((recsA h E E.length).getD j default) := by
  obtain ⟨p, hp, hq⟩ := H.lr.at_
  obtain ⟨k, hk, hr⟩ := H.srt.sur j hj
  have h1 := hq k hk
  rw [hr] at h1
  have h2 : p j = k := by simpa using h1
  refine ⟨k, hk, by rw [hp.cell hj, h2], ?_⟩
  obtain ⟨j', _, e⟩ := H.srt.rc k hk
  rw [e] at hr ⊢
  have : (j' : Int) = j := hr
  obtain rfl : j' = j := by omega
  rfl

set_option maxRecDepth 100000 in
set_option maxHeartbeats 4000000 in
theorem receipts_any (ao : Option Addr) (len cap : Nat) (nh : Int) (E : List RawE) (w : World) (hnh : 0 ≤ nh ∧ nh ≤ 255) (hlen : len ≤ 140737488355328) (hE : EvsIn w ao len E) :
    Calls Yba.prog 3 #[.int .u8 nh, .slice ao len cap] w fun e w' => e = .returned (.bool true) ∧ Below w.heap.size w w' := by
  obtain ⟨h, hh⟩ : ∃ h : Nat, (h : Int) = 1 + nh % 16 := ⟨(1 + nh % 16).toNat, by omega⟩
  have hhb : 1 ≤ h ∧ h ≤ 16 := by omega
  have hl := hE.1
  have HH : Hid ((h : Int) = 1 + nh % 16) := hh
  have HE : Hid (EvsIn w ao len E) := hE
  clear hh hE
  go_enter Yba.func3, Yba.ntmps3
  go_wp2_with fail
  refine (big_any ao len cap E _ HE.out hlen).mono ?_
  rintro e w1 ⟨⟨t, rfl, ht⟩, b1⟩
  cases t with
  | true =>
    go_wp2
    go_ret
    exact ⟨rfl, b1⟩
  | false =>
    obtain ⟨hl1, ht1⟩ := ht rfl
    clear ht
    go_wp2_with fail
    refine (build_any ao len cap nh E _ hnh hl1 ht1 (HE.out.below b1) h HH.out).mono ?_
    rintro e w2 ⟨T, v16, v17, v18, v19, v20, rfl, HT⟩
    obtain ⟨n, hn⟩ : ∃ n, (recsA h E E.length).length = n := ⟨_, rfl⟩
    have hnb : n ≤ 4096 := by rw [← hn]; exact Nat.le_trans (recsA_le _ _ _) (by rw [hl]; exact ht1)
    obtain ⟨ao2, cap2, HR⟩ := trR_of HT
    obtain ⟨⟨a17, c17, e17, K17⟩, ⟨a18, c18, e18, K18⟩, ⟨a19, c19, e19, K19⟩, ⟨a20, c20, e20, K20⟩⟩ := cols_of HT hn
    subst e17 e18 e19 e20
    have b2 := HT.bel
    have H17 : Hid (Col w2 a17 n (fun j => rcvC ((recsA h E E.length).getD j default))) := K17
    have H18 : Hid (Col w2 a18 n (fun j => sndC h E ((recsA h E E.length).getD j default))) := K18
    have H19 : Hid (Col w2 a19 n (fun j => tmC h E ((recsA h E E.length).getD j default))) := K19
    have H20 : Hid (Col w2 a20 n (fun j => idC ((recsA h E E.length).getD j default))) := K20
    have Hn : Hid ((recsA h E E.length).length = n) := hn
    clear K17 K18 K19 K20 HT hn
    go_wp2_with fail
    refine (watch_any h E T _ _ ao2 cap2 _ HR hhb (by omega) (by rw [hl]; exact ht1)).mono ?_
    rintro e w3 ⟨D, rfl, n', f, ao5, Qb, Ab, g, c5, base, HW⟩
    obtain rfl : n' = n := HW.srt.len.symm.trans Hn.out
    have b3 := HW.lr.bel
    have d0 : w3.cell? ⟨D, 0, none⟩ = some (.pointer (some ⟨T, 0, none⟩)) := by rw [cell_of_row _ D 0 _ 34 (0, 0) HW.lr.d]; rfl
    have d1 : w3.cell? ⟨D, 1, none⟩ = some (.slice (some ⟨Qb, 0, none⟩) h h) := by rw [cell_of_row _ D 1 _ 34 (0, 0) HW.lr.d]; rfl
    have d2 : w3.cell? ⟨D, 2, none⟩ = some (.slice ao5 n' c5) := by rw [cell_of_row _ D 2 _ 34 (0, 0) HW.lr.d]; rfl
    have d3 : w3.cell? ⟨D, 3, none⟩ = some (.slice (some ⟨Ab, 0, none⟩) n' n') := by rw [cell_of_row _ D 3 _ 34 (0, 0) HW.lr.d]; rfl
    have d4 : w3.cell? ⟨D, 4, none⟩ = some (.int .i64 0) := by rw [cell_of_row _ D 4 _ 34 (0, 0) HW.lr.d]; rfl
    have hD : D < w3.heap.size := (Array.getElem?_eq_some_iff.1 HW.lr.d).1
    have hAb : Ab < w3.heap.size := HW.lr.at_.choose_spec.1.lt
    have HWa : Hid (WaA h E n' f ao5 T D Qb Ab g c5 base w2 w3) := HW
    have hbel : Below w.heap.size w w3 := (b1.comp b2 b1.size).comp b3 (Nat.le_trans b1.size b2.size)
    have H17' : Hid (Col w3 a17 n' (fun j => rcvC ((recsA h E E.length).getD j default))) := H17.out.below b3
    have H18' : Hid (Col w3 a18 n' (fun j => sndC h E ((recsA h E E.length).getD j default))) := H18.out.below b3
    have H19' : Hid (Col w3 a19 n' (fun j => tmC h E ((recsA h E E.length).getD j default))) := H19.out.below b3
    have H20' : Hid (Col w3 a20 n' (fun j => idC ((recsA h E E.length).getD j default))) := H20.out.below b3
    clear HW HR H17 H18 H19 H20 b1 b2 b3
    obtain ⟨i70, hi70⟩ := Option.isSome_iff_exists.1 Yba.infA70
    have hneq := fun w => Go.Lib.run_neq_ptr_same (P := Yba.prog) w (tp := 24) ⟨T, 0, none⟩ Yba.underlying24 hi70
    go_wp2
    go_loopw [13] (fun jj wr => ∃ j : Nat, j ≤ n' ∧ jj = .int .i64 j ∧ Below w3.heap.size w3 wr) (fun jj _ => n' - (intOf jj).toNat)
    case atStart => exact ⟨0, Nat.zero_le _, rfl, Below.refl _ _⟩
    case round =>
      obtain ⟨j, hj, rfl, hnx⟩ := hrel
      by_cases hlt : j < n'
      · obtain ⟨k, hk, hat, hfk⟩ := HWa.out.place hlt
        have hp0 : 0 < n' := by omega
        have hao := HWa.out.hao hp0
        subst hao
        have haw := HWa.out.aw hp0
        have hg := haw.lt
        obtain ⟨g17, e17, l17, x17⟩ := H17'.out hp0
        obtain ⟨g18, e18, l18, x18⟩ := H18'.out hp0
        obtain ⟨g19, e19, l19, x19⟩ := H19'.out hp0
        obtain ⟨g20, e20, l20, x20⟩ := H20'.out hp0
        subst e17 e18 e19 e20
        have y17 := (hnx.cell (p := ⟨g17, j, none⟩) l17).trans (x17 j hlt)
        have y18 := (hnx.cell (p := ⟨g18, j, none⟩) l18).trans (x18 j hlt)
        have y19 := (hnx.cell (p := ⟨g19, j, none⟩) l19).trans (x19 j hlt)
        have y20 := (hnx.cell (p := ⟨g20, j, none⟩) l20).trans (x20 j hlt)
        have hat' := (hnx.cell (p := ⟨Ab, j, none⟩) hAb).trans hat
        have z2 := (hnx.cell (p := ⟨D, 2, none⟩) hD).trans d2
        have z3 := (hnx.cell (p := ⟨D, 3, none⟩) hD).trans d3
        have hc : ∀ c, c < 8 → wr.cell? ⟨g, k * 8 + c, none⟩ = (encAw (FE f n' k))[c]? := fun c hc => (hnx.cell (p := ⟨g, k * 8 + c, none⟩) hg).trans (haw.cell hk hc)
        have hFE : FE f n' k = { f k with que := queA f k, prev := prevA f k, next := nextE f n' k } := rfl
        rw [hfk] at hFE
        obtain ⟨rec, hrec⟩ : ∃ rec, (recsA h E E.length).getD j default = rec := ⟨_, rfl⟩
        dsimp only at y17 y18 y19 y20
        rw [hrec] at hFE y17 y18 y19 y20
        simp only [rcvC, sndC, tmC, idC] at y17 y18 y19 y20
        simp only [awOf] at hFE
        rw [hFE] at hc
        obtain ⟨q5, hq5⟩ : ∃ q5, queA f k = q5 := ⟨_, rfl⟩
        obtain ⟨q6, hq6⟩ : ∃ q6, prevA f k = q6 := ⟨_, rfl⟩
        obtain ⟨q7, hq7⟩ : ∃ q7, nextE f n' k = q7 := ⟨_, rfl⟩
        rw [hq5, hq6, hq7] at hc
        have a0 := hc 0 (by omega)
        have a1 := hc 1 (by omega)
        have a2 := hc 2 (by omega)
        have a3 := hc 3 (by omega)
        have a4 := hc 4 (by omega)
        have a5 := hc 5 (by omega)
        have a6 := hc 6 (by omega)
        have a7 := hc 7 (by omega)
        simp only [encAw, List.getElem?_cons_succ, List.getElem?_cons_zero, Nat.add_zero] at a0 a1 a2 a3 a4 a5 a6 a7
        have m17 : g17 < wr.heap.size := Nat.lt_of_lt_of_le l17 hnx.size
        have m18 : g18 < wr.heap.size := Nat.lt_of_lt_of_le l18 hnx.size
        have m19 : g19 < wr.heap.size := Nat.lt_of_lt_of_le l19 hnx.size
        have m20 : g20 < wr.heap.size := Nat.lt_of_lt_of_le l20 hnx.size
        obtain ⟨r1, hr1⟩ : ∃ r1, ((rec.rcv : Nat) : Int) = r1 := ⟨_, rfl⟩
        obtain ⟨r2, hr2⟩ : ∃ r2, ((hostA h E rec.s : Nat) : Int) = r2 := ⟨_, rfl⟩
        obtain ⟨r3, hr3⟩ : ∃ r3, ((ownA h E rec.s : Nat) : Int) = r3 := ⟨_, rfl⟩
        obtain ⟨r0, hr0⟩ : ∃ r0, rec.id = r0 := ⟨_, rfl⟩
        rw [hr0] at a0 y20
        rw [hr1] at a1 y17
        rw [hr2] at a2 y18
        rw [hr3] at a3 y19
        clear hc hFE hfk hat haw x17 x18 x19 x20 hq5 hq6 hq7 hr0 hr1 hr2 hr3
        go_wp2
        obtain ⟨Wx, hWx⟩ : ∃ Wx, wr.alloc (.cells #[.string r0, .int .i64 r1, .int .i64 r2, .int .i64 r3, .int .i64 j, .int .i64 q5, .int .i64 q6, .int .i64 q7] 36) = Wx := ⟨_, rfl⟩
        have bx : Below wr.heap.size wr Wx := by rw [← hWx]; exact (Below.refl _ _).alloc (Nat.le_refl _) _
        have s0 : Wx.cell? ⟨wr.heap.size, 0, none⟩ = some (.string r0) := by rw [← hWx]; simp
        have s1 : Wx.cell? ⟨wr.heap.size, 1, none⟩ = some (.int .i64 r1) := by rw [← hWx]; simp
        have s2 : Wx.cell? ⟨wr.heap.size, 2, none⟩ = some (.int .i64 r2) := by rw [← hWx]; simp
        have s3 : Wx.cell? ⟨wr.heap.size, 3, none⟩ = some (.int .i64 r3) := by rw [← hWx]; simp
        have s4 : Wx.cell? ⟨wr.heap.size, 4, none⟩ = some (.int .i64 j) := by rw [← hWx]; simp
        replace y17 := (bx.cell (p := ⟨g17, j, none⟩) m17).trans y17
        replace y18 := (bx.cell (p := ⟨g18, j, none⟩) m18).trans y18
        replace y19 := (bx.cell (p := ⟨g19, j, none⟩) m19).trans y19
        replace y20 := (bx.cell (p := ⟨g20, j, none⟩) m20).trans y20
        have hnx2 : Below w3.heap.size w3 Wx := hnx.comp bx hnx.size
        rw [hWx]
        clear hWx a0 a1 a2 a3 a4 a5 a6 a7 hat' z2 z3
        go_quiet (fail)
        go_wp2
        go_roundw
        case rel => exact ⟨j + 1, by omega, by go_num, hnx2.comp (m := w3.heap.size) ⟨rfl, rfl, rfl, Nat.le_refl _, fun _ _ => rfl⟩ (Nat.le_refl _)⟩
        case measure => simp [intOf]; omega
      · obtain rfl : j = n' := by omega
        go_wp2
        go_ret
        exact ⟨rfl, hbel.comp hnx hbel.size⟩
end Go.Proofs.Ybulkbpqa
