/- The walk of 'LawS3315AQueues' (function 4). -/
import Derived.Test.YbulkbpqaWatchA
import Derived.Test.YbulkbpqaBigA
import Derived.Test.YbulkbpqaLessA
namespace Go.Proofs.Ybulkbpqa
open Go.RowKit
set_option linter.unusedVariables false

/-- what region 27 reads -/
structure CQ (D Qb N gq h r i ql qc : Nat) (s1 s2 : Int) (W : World) : Prop where
  x0 : W.cell? ⟨D, 1, none⟩ = some (.slice (some ⟨Qb, 0, none⟩) h h)
  x1 : W.cell? ⟨Qb, r, none⟩ = some (.slice (some ⟨gq, 0, none⟩) ql qc)
  x2 : W.cell? ⟨N, r, none⟩ = some (.int .i64 i)
  x3 : W.cell? ⟨gq, i * 2, none⟩ = some (.int .i64 s1)
  x4 : W.cell? ⟨gq, i * 2 + 1, none⟩ = some (.int .i64 s2)
theorem CQ.below {D Qb N gq h r i ql qc n : Nat} {s1 s2 : Int} {W W' : World} (H : CQ D Qb N gq h r i ql qc s1 s2 W) (hb : Below n W W') (h0 : D < n) (h1 : Qb < n) (h2 : N < n) (h3 : gq < n) : CQ D Qb N gq h r i ql qc s1 s2 W' :=
  ⟨(hb.cell (p := ⟨D, 1, none⟩) h0).trans H.x0, (hb.cell (p := ⟨Qb, r, none⟩) h1).trans H.x1, (hb.cell (p := ⟨N, r, none⟩) h2).trans H.x2, (hb.cell (p := ⟨gq, i * 2, none⟩) h3).trans H.x3, (hb.cell (p := ⟨gq, i * 2 + 1, none⟩) h3).trans H.x4⟩

set_option maxRecDepth 100000 in
set_option maxHeartbeats 8000000 in
theorem queues_any (ao : Option Addr) (len cap : Nat) (nh : Int) (E : List RawE) (w : World) (hnh : 0 ≤ nh ∧ nh ≤ 255) (hlen : len ≤ 140737488355328) (hE : EvsIn w ao len E) :
    Calls Yba.prog 4 #[.int .u8 nh, .slice ao len cap] w fun e w' => e = .returned (.bool true) ∧ Below w.heap.size w w' := by
  obtain ⟨h, hh⟩ : ∃ h : Nat, (h : Int) = 1 + nh % 16 := ⟨(1 + nh % 16).toNat, by omega⟩
  have hhb : 1 ≤ h ∧ h ≤ 16 := by omega
  have hl := hE.1
  have HH : Hid ((h : Int) = 1 + nh % 16) := hh
  have HE : Hid (EvsIn w ao len E) := hE
  clear hh hE
  go_enter Yba.func4, Yba.ntmps4
  go_wp2_with fail
  refine (big_any ao len cap E _ HE.out hlen).mono ?_
  rintro e w1 ⟨⟨t, rfl, ht⟩, b1⟩
  cases t with
  | true =>
    go_wp2
    go_ret
    exact ⟨rfl, b1⟩
  | false =>
    obtain ⟨hl1, ht1⟩ := ht rfl
    clear ht
    go_wp2_with fail
    refine (build_any ao len cap nh E _ hnh hl1 ht1 (HE.out.below b1) h HH.out).mono ?_
    rintro e w2 ⟨T, v16, v17, v18, v19, v20, rfl, HT⟩
    obtain ⟨n, hn⟩ : ∃ n, (recsA h E E.length).length = n := ⟨_, rfl⟩
    have hnb : n ≤ 4096 := by rw [← hn]; exact Nat.le_trans (recsA_le _ _ _) (by rw [hl]; exact ht1)
    obtain ⟨ao2, cap2, HR⟩ := trR_of HT
    obtain ⟨⟨a17, c17, e17, K17⟩, ⟨a18, c18, e18, K18⟩, ⟨a19, c19, e19, K19⟩, ⟨a20, c20, e20, K20⟩⟩ := cols_of HT hn
    subst e17 e18 e19 e20
    have b2 := HT.bel
    have Hn : Hid ((recsA h E E.length).length = n) := hn
    clear K17 K18 K19 K20 HT hn
    go_wp2_with fail
    refine (watch_any h E T _ _ ao2 cap2 _ HR hhb (by omega) (by rw [hl]; exact ht1)).mono ?_
    rintro e w3 ⟨D, rfl, n', f, ao5, Qb, Ab, g, c5, base, HW⟩
    obtain rfl : n' = n := HW.srt.len.symm.trans Hn.out
    have b3 := HW.lr.bel
    have d1 : w3.cell? ⟨D, 1, none⟩ = some (.slice (some ⟨Qb, 0, none⟩) h h) := by rw [cell_of_row _ D 1 _ 34 (0, 0) HW.lr.d]; rfl
    have d2 : w3.cell? ⟨D, 2, none⟩ = some (.slice ao5 n' c5) := by rw [cell_of_row _ D 2 _ 34 (0, 0) HW.lr.d]; rfl
    have hD : D < w3.heap.size := (Array.getElem?_eq_some_iff.1 HW.lr.d).1
    have HWa : Hid (WaA h E n' f ao5 T D Qb Ab g c5 base w2 w3) := HW
    have hbel : Below w.heap.size w w3 := (b1.comp b2 b1.size).comp b3 (Nat.le_trans b1.size b2.size)
    clear HW HR b1 b2 b3
    have hQb : Qb < w3.heap.size := HWa.out.lr.qs.choose_spec.1.lt
    have hm4 := fun w => run_make_row' (P := Yba.prog) 25 3 _ 8 Yba.underlying25 Yba.infA3 rfl .i64 .i64 h (by omega) (by omega) w
    go_wp2
    have hqs0 : QS f h w3.heap.size 0 w3 (w3.alloc (.cells (madeCells #[.int .i64 0] h) 3)) := qs_start w3
    clear hm4
    go_loopw [14] (fun kk wr => ∃ k : Nat, k ≤ n' ∧ kk = .int .i64 k ∧ QS f h w3.heap.size k w3 wr) (fun kk _ => n' - (intOf kk).toNat)
    case atStart => exact ⟨0, Nat.zero_le _, rfl, hqs0⟩
    case round =>
      clear hqs0
      obtain ⟨k, hk, rfl, hqs⟩ := hrel
      by_cases hlt : k < n'
      · have hp0 : 0 < n' := by omega
        have hao := HWa.out.hao hp0
        subst hao
        have hkb : k ≤ 4096 := by omega
        have haw := HWa.out.aw hp0
        have hg := haw.lt
        obtain ⟨r, hrh, hrcv⟩ := HWa.out.srt.rcv (by omega) hlt
        have hnx := hqs.bel
        have z1 := (hnx.cell (p := ⟨D, 1, none⟩) hD).trans d1
        have z2 := (hnx.cell (p := ⟨D, 2, none⟩) hD).trans d2
        have HQ : Hid (QS f h w3.heap.size k w3 wr) := hqs
        have HR : Hid ((f k).rcv = r) := hrcv
        have Haw : Hid (AwRow w3 g n' (FE f n')) := haw
        have hc : ∀ c, c < 8 → wr.cell? ⟨g, k * 8 + c, none⟩ = (encAw (FE f n' k))[c]? := fun c hc => (hnx.cell (p := ⟨g, k * 8 + c, none⟩) hg).trans (haw.cell hlt hc)
        obtain ⟨x, hx⟩ : ∃ x, FE f n' k = x := ⟨_, rfl⟩
        rw [hx] at hc
        have Hx : Hid (FE f n' k = x) := hx
        have e1 : x.rcv = (r : Nat) := by rw [← hx]; exact hrcv
        have e2 : x.snd = (f k).snd := by rw [← hx]; rfl
        have e5 : x.que = queA f k := by rw [← hx]; rfl
        have e6 : x.prev = prevA f k := by rw [← hx]; rfl
        have e7 : x.next = nextE f n' k := by rw [← hx]; rfl
        obtain ⟨x0, x1, x2, x3, x4, x5, x6, x7⟩ := x
        dsimp only at e1 e2 e5 e6 e7
        subst e1
        have a0 := hc 0 (by omega)
        have a1 := hc 1 (by omega)
        have a2 := hc 2 (by omega)
        have a3 := hc 3 (by omega)
        have a4 := hc 4 (by omega)
        have a5 := hc 5 (by omega)
        have a6 := hc 6 (by omega)
        have a7 := hc 7 (by omega)
        simp only [encAw, List.getElem?_cons_succ, List.getElem?_cons_zero, Nat.add_zero] at a0 a1 a2 a3 a4 a5 a6 a7
        have E2 : Hid (x2 = (f k).snd) := e2
        have E5 : Hid (x5 = queA f k) := e5
        have E6 : Hid (x6 = prevA f k) := e6
        have E7 : Hid (x7 = nextE f n' k) := e7
        clear hc hx hrcv haw e2 e5 e6 e7 hqs
        go_upto_if 83 with (fail)
        have hcp0 : CpA (wr.alloc (.cells #[.string x0, .int .i64 r, .int .i64 x2, .int .i64 x3, .int .i64 x4, .int .i64 x5, .int .i64 x6, .int .i64 x7] 36)) wr.heap.size ⟨x0, r, x2, x3, x4, x5, x6, x7⟩ := cpA_new wr ⟨x0, r, x2, x3, x4, x5, x6, x7⟩
        have hqs1 : QS f h w3.heap.size k w3 (wr.alloc (.cells #[.string x0, .int .i64 r, .int .i64 x2, .int .i64 x3, .int .i64 x4, .int .i64 x5, .int .i64 x6, .int .i64 x7] 36)) := HQ.out.below ((Below.refl _ _).alloc (Nat.le_refl _) _)
        obtain ⟨WA, hWA⟩ : ∃ WA, wr.alloc (.cells #[.string x0, .int .i64 r, .int .i64 x2, .int .i64 x3, .int .i64 x4, .int .i64 x5, .int .i64 x6, .int .i64 x7] 36) = WA := ⟨_, rfl⟩
        rw [hWA] at hcp0 hqs1 ⊢
        obtain ⟨A, hA⟩ : ∃ A, wr.heap.size = A := ⟨_, rfl⟩
        have hAN : w3.heap.size < A := by rw [← hA]; exact HQ.out.cnt.lt
        rw [hA] at hcp0 ⊢
        clear hWA hA a0 a1 a2 a3 a4 a5 a6 a7 z1 z2 hnx HQ
        go_cut [16] from 61 to 201 (fun s W => s = .bool (sameA f k) ∧ QS f h w3.heap.size k w3 W ∧ CpA W A ⟨x0, r, x2, x3, x4, x5, x6, x7⟩)
        case first =>
          by_cases hk0 : 0 < k
          · have hi0 : (0 : Int) ≤ (k : Int) - 1 := by omega
            have hi1 : (k : Int) - 1 < n' := by omega
            have hless0 : ltAw (FE f n' (k - 1)) (FE f n' k) := HWa.out.srt.chain (k - 1) k (by omega) hlt
            have hc : ∀ c, c < 8 → WA.cell? ⟨g, (k - 1) * 8 + c, none⟩ = (encAw (FE f n' (k - 1)))[c]? := fun c hc => (hqs1.bel.cell (p := ⟨g, (k - 1) * 8 + c, none⟩) hg).trans (Haw.out.cell (show k - 1 < n' by omega) hc)
            have z2 := (hqs1.bel.cell (p := ⟨D, 2, none⟩) hD).trans d2
            obtain ⟨y, hy⟩ : ∃ y, FE f n' (k - 1) = y := ⟨_, rfl⟩
            have e1 : y.rcv = (f (k - 1)).rcv := by rw [← hy]; rfl
            have e2 : y.snd = (f (k - 1)).snd := by rw [← hy]; rfl
            rw [hy] at hc hless0
            rw [Hx.out] at hless0
            have Hless : Hid (ltAw y ⟨x0, r, x2, x3, x4, x5, x6, x7⟩) := hless0
            have Hsame : Hid (sameA f k = decide (y.rcv = (r : Int) ∧ y.snd = x2)) := by
              show _ = _
              unfold sameA
              rw [e1, e2, E2.out, HR.out]
              simp [hk0]
            obtain ⟨y0, y1, y2, y3, y4, y5, y6, y7⟩ := y
            have a0 := hc 0 (by omega)
            have a1 := hc 1 (by omega)
            have a2 := hc 2 (by omega)
            have a3 := hc 3 (by omega)
            have a4 := hc 4 (by omega)
            have a5 := hc 5 (by omega)
            have a6 := hc 6 (by omega)
            have a7 := hc 7 (by omega)
            simp only [encAw, List.getElem?_cons_succ, List.getElem?_cons_zero, Nat.add_zero] at a0 a1 a2 a3 a4 a5 a6 a7
            dsimp only at Hsame
            clear hc hy e1 e2 hless0
            go_upto_region 18 with (fail)
            have hcpB : CpA (WA.alloc (.cells #[.string y0, .int .i64 y1, .int .i64 y2, .int .i64 y3, .int .i64 y4, .int .i64 y5, .int .i64 y6, .int .i64 y7] 36)) WA.heap.size ⟨y0, y1, y2, y3, y4, y5, y6, y7⟩ := cpA_new WA ⟨y0, y1, y2, y3, y4, y5, y6, y7⟩
            have bB : Below WA.heap.size WA (WA.alloc (.cells #[.string y0, .int .i64 y1, .int .i64 y2, .int .i64 y3, .int .i64 y4, .int .i64 y5, .int .i64 y6, .int .i64 y7] 36)) := (Below.refl _ _).alloc (Nat.le_refl _) _
            obtain ⟨WB, hWB⟩ : ∃ WB, WA.alloc (.cells #[.string y0, .int .i64 y1, .int .i64 y2, .int .i64 y3, .int .i64 y4, .int .i64 y5, .int .i64 y6, .int .i64 y7] 36) = WB := ⟨_, rfl⟩
            rw [hWB] at hcpB bB ⊢
            obtain ⟨B, hB⟩ : ∃ B, WA.heap.size = B := ⟨_, rfl⟩
            have hcpA := hcp0.below bB
            have hqsB := hqs1.below bB
            rw [hB] at hcpB ⊢
            clear hWB hB a0 a1 a2 a3 a4 a5 a6 a7 z2 bB
            have u0 := hcpA.c 0 (by omega)
            have u1 := hcpA.c 1 (by omega)
            have u2 := hcpA.c 2 (by omega)
            have u3 := hcpA.c 3 (by omega)
            have u4 := hcpA.c 4 (by omega)
            have u5 := hcpA.c 5 (by omega)
            have u6 := hcpA.c 6 (by omega)
            have u7 := hcpA.c 7 (by omega)
            have v0 := hcpB.c 0 (by omega)
            have v1 := hcpB.c 1 (by omega)
            have v2 := hcpB.c 2 (by omega)
            have v3 := hcpB.c 3 (by omega)
            have v4 := hcpB.c 4 (by omega)
            have v5 := hcpB.c 5 (by omega)
            have v6 := hcpB.c 6 (by omega)
            have v7 := hcpB.c 7 (by omega)
            simp only [encAw, List.getElem?_cons_succ, List.getElem?_cons_zero] at u0 u1 u2 u3 u4 u5 u6 u7 v0 v1 v2 v3 v4 v5 v6 v7
            go_wp2_with fail
            refine (less_any ⟨y0, y1, y2, y3, y4, y5, y6, y7⟩ ⟨x0, r, x2, x3, x4, x5, x6, x7⟩ _ Hless.out).mono ?_
            rintro e W7 ⟨rfl, b7⟩
            have hcpA7 := hcpA.below b7
            have hcpB7 := hcpB.below b7
            have hqs7 := hqsB.below b7
            clear u0 u1 u2 u3 u4 u5 u6 u7 v0 v1 v2 v3 v4 v5 v6 v7 hcpA hcpB hqsB
            have u1 := hcpA7.c 1 (by omega)
            have u2 := hcpA7.c 2 (by omega)
            have v1 := hcpB7.c 1 (by omega)
            have v2 := hcpB7.c 2 (by omega)
            simp only [encAw, List.getElem?_cons_succ, List.getElem?_cons_zero] at u1 u2 v1 v2
            by_cases c1 : y1 = (r : Int)
            · have t1 : (y1 == (r : Int)) = true := by simp [c1]
              by_cases c2 : y2 = x2
              · have t2 : (y2 == x2) = true := by simp [c2]
                have Hres : Hid (sameA f k = true) := by show _ = _; rw [Hsame.out]; simp [c1, c2]
                clear c1 c2
                go_wp2
                go_meet
                case rel => exact ⟨by rw [Hres.out], hqs7, hcpA7⟩
              · have t2 : (y2 == x2) = false := by simp [c2]
                have Hres : Hid (sameA f k = false) := by show _ = _; rw [Hsame.out]; simp [c1, c2]
                clear c1 c2
                go_wp2
                go_meet
                case rel => exact ⟨by rw [Hres.out], hqs7, hcpA7⟩
            · have t1 : (y1 == (r : Int)) = false := by simp [c1]
              have Hres : Hid (sameA f k = false) := by show _ = _; rw [Hsame.out]; simp [c1]
              clear c1
              go_wp2
              go_meet
              case rel => exact ⟨by rw [Hres.out], hqs7, hcpA7⟩
          · have hk1 : k ≤ 0 := by omega
            have Hres : Hid (sameA f k = false) := by show _ = _; unfold sameA; simp; omega
            clear hk0
            go_wp2
            go_meet
            case rel => exact ⟨by rw [Hres.out], hqs1, hcp0⟩
        case rest =>
          clear hcp0 hqs1
          obtain ⟨hu16, hqs2, hcp2⟩ := hcut
          subst hu16
          have u1 := hcp2.c 1 (by omega)
          simp only [encAw, List.getElem?_cons_succ, List.getElem?_cons_zero] at u1
          go_upto_if 110 with (fail)
          clear u1
          go_cut [16] from 61 to 201 (fun _ W => QS f h w3.heap.size (k + 1) w3 W ∧ CpA W A ⟨x0, r, x2, x3, x4, x5, x6, x7⟩)
          case first =>
            cases hsm : sameA f k with
            | true =>
              have Hs : Hid (sameA f k = true) := hsm
              have e6 : x6 = (k : Int) - 1 := by rw [E6.out]; unfold prevA; rw [if_pos hsm]
              have t6 : (x6 != (k : Int) - 1) = false := by simp [e6]
              have u6 := hcp2.c 6 (by omega)
              simp only [encAw, List.getElem?_cons_succ, List.getElem?_cons_zero] at u6
              clear hsm e6
              go_wp2
              go_meet
              case rel => exact ⟨hqs2.same Hs.out, hcp2⟩
            | false =>
              have Hs : Hid (sameA f k = false) := hsm
              have e6 : x6 = -1 := by rw [E6.out]; unfold prevA; rw [hsm]; rfl
              have t6 : (x6 != -1) = false := by simp [e6]
              have u6 := hcp2.c 6 (by omega)
              simp only [encAw, List.getElem?_cons_succ, List.getElem?_cons_zero] at u6
              obtain ⟨hat1, hat2⟩ := heads_at hlt HR.out hsm
              obtain ⟨qa, qc, hq0, hq1⟩ := HWa.out.que hrh
              obtain ⟨gq, hqa, hgq, hs1, hs2⟩ := hq1 _ _ hat1
              subst hqa
              have hqlb := headsA_length_le f n' r
              have hcn := hqs2.cnt.cell hrh
              have HI : Hid (∃ i, (headsA f k r).length = i) := ⟨_, rfl⟩
              obtain ⟨i, hi⟩ := HI.out
              obtain ⟨ql, hql⟩ : ∃ ql, (headsA f n' r).length = ql := ⟨_, rfl⟩
              have Hi : Hid ((headsA f k r).length = i) := hi
              rw [hi] at hs1 hs2 hcn hat2
              rw [hql] at hq0 hat2 hqlb
              have hN : w3.heap.size < wc.heap.size := hqs2.cnt.lt
              have y0 := (hqs2.bel.cell (p := ⟨D, 1, none⟩) hD).trans d1
              have y1 := (hqs2.bel.cell (p := ⟨Qb, r, none⟩) hQb).trans hq0
              have y3 := (hqs2.bel.cell (p := ⟨gq, i * 2, none⟩) hgq).trans hs1
              have y4 := (hqs2.bel.cell (p := ⟨gq, i * 2 + 1, none⟩) hgq).trans hs2
              rw [← E2.out] at y3
              have hib : i ≤ 4096 := by omega
              have hge : ¬ (ql : Int) ≤ (i : Int) := by omega
              have tge : decide ((ql : Int) ≤ (i : Int)) = false := decide_eq_false hge
              clear hsm e6 hq0 hq1 hs1 hs2 hi hql hat1 HI
              go_wp2
              go_quiet (fail)
              go_wp2
              rename_i K5 ha5
              obtain ⟨WD, hWD⟩ : ∃ WD, wc.drewN nq = WD := ⟨_, rfl⟩
              have bD : Below wc.heap.size wc WD := by rw [← hWD]; exact below_drew wc nq
              rw [hWD]
              have hqs3 := hqs2.below bD
              have hcp3 := hcp2.below bD
              obtain ⟨wd, hwd⟩ : ∃ wd, WD.drew = wd := ⟨_, rfl⟩
              have bd : Below wc.heap.size wc wd := by rw [← hwd]; exact bD.drew
              have bd2 : Below WD.heap.size WD wd := by rw [← hwd]; exact (Below.refl _ _).drew
              have hqs4 := hqs3.below bd2
              have hcp4 := hcp3.below bd2
              have hC0 : CQ D Qb w3.heap.size gq h r i ql qc x2 k wd := ⟨(bd.cell (p := ⟨D, 1, none⟩) (by show D < _; omega)).trans y0, (bd.cell (p := ⟨Qb, r, none⟩) (by show Qb < _; omega)).trans y1, (bd.cell (p := ⟨w3.heap.size, r, none⟩) hN).trans hcn, (bd.cell (p := ⟨gq, i * 2, none⟩) (by show gq < _; omega)).trans y3, (bd.cell (p := ⟨gq, i * 2 + 1, none⟩) (by show gq < _; omega)).trans y4⟩
              have hNd : w3.heap.size < wd.heap.size := hqs4.cnt.lt
              clear hqs3 hcp3 bD hWD bd bd2 y0 y1 y3 y4 hcn u6 t6 tge
              have hiq : i < ql := by omega
              apply region_take (CQ D Qb w3.heap.size gq h r i ql qc x2 k) 13 [13, 14] (by kernel_rfl) (by kernel_rfl) (by kernel_rfl) (by kernel_rfl) (by rw [hwd]; exact hC0)
              case hs =>
                intro wx hx
                obtain ⟨x0', x1', x2', x3', x4'⟩ := hx
                simp only [List.take_succ_cons, List.take_zero]
                repeat still_step
                exact wpStill_nil rfl
              case ht =>
                rw [hwd]
                clear hwd
                have hlive : ∀ W', Below wd.heap.size wd W' → CQ D Qb w3.heap.size gq h r i ql qc x2 k W' := fun W' hb => hC0.below hb (by omega) (by omega) (by omega) (by omega)
                have HLv : Hid (∀ W', Below wd.heap.size wd W' → CQ D Qb w3.heap.size gq h r i ql qc x2 k W') := hlive
                clear hlive
                refine seq_drop rfl ?_
                go_wp2
                refine ⟨HLv.out _ ((Below.refl _ _).alloc (Nat.le_refl _) _), seq_drop rfl ?_⟩
                go_wp2
                refine ⟨HLv.out _ ((Below.refl _ _).alloc (Nat.le_refl _) _), ha5 _ _ ?_⟩
                have bq : Below wd.heap.size wd (wd.alloc (.cells #[.int .i64 x2, .int .i64 k] 41)) := (Below.refl _ _).alloc (Nat.le_refl _) _
                have s0 : (wd.alloc (.cells #[.int .i64 x2, .int .i64 k] 41)).cell? ⟨wd.heap.size, 0, none⟩ = some (.int .i64 x2) := by simp
                have s1 : (wd.alloc (.cells #[.int .i64 x2, .int .i64 k] 41)).cell? ⟨wd.heap.size, 1, none⟩ = some (.int .i64 k) := by simp
                obtain ⟨WQ, hWQ⟩ : ∃ WQ, wd.alloc (.cells #[.int .i64 x2, .int .i64 k] 41) = WQ := ⟨_, rfl⟩
                rw [hWQ] at bq s0 s1 ⊢
                have hqs5 := hqs4.below bq
                have hcp5 := hcp4.below bq
                have u2 := hcp5.c 2 (by omega)
                simp only [encAw, List.getElem?_cons_succ, List.getElem?_cons_zero] at u2
                have hcn5 := hqs5.cnt.cell hrh
                rw [Hi.out] at hcn5
                have hfr5 := hqs5.cnt.frozen r
                clear hWQ bq hqs4 hcp4 hC0 HLv
                go_wp2
                go_meet
                case rel =>
                  have hb := hqs5.bump HR.out Hs.out
                  rw [Hi.out] at hb
                  exact ⟨hb, hcp5.set (by show w3.heap.size ≠ A; omega) _⟩
          case rest =>
            clear hcp2 hqs2
            obtain ⟨hqs6, hcp6⟩ := hcut
            have u5 := hcp6.c 5 (by omega)
            simp only [encAw, List.getElem?_cons_succ, List.getElem?_cons_zero] at u5
            have hcn := hqs6.cnt.cell hrh
            obtain ⟨i, hi⟩ : ∃ i, (headsA f (k + 1) r).length = i := ⟨_, rfl⟩
            have hib := headsA_length_le f (k + 1) r
            rw [hi] at hcn hib
            have e5 : x5 = (i : Int) - 1 := by rw [E5.out]; unfold queA; rw [HR.out, hi]
            have t5 : (x5 != (i : Int) - 1) = false := by simp [e5]
            have hib' : i ≤ 4097 := by omega
            clear hi e5 hib
            go_wp2
            go_quiet (fail)
            go_upto_if 175 with (fail)
            have hqs7 := hqs6.below (below_drew wc nq)
            have hcp7 := hcp6.below (below_drew wc nq)
            obtain ⟨WE, hWE⟩ : ∃ WE, wc.drewN nq = WE := ⟨_, rfl⟩
            rw [hWE] at hqs7 hcp7 ⊢
            clear hWE hqs6 hcp6 u5 hcn t5
            go_cut [20] from 61 to 201 (fun s W => s = .int .i64 (nextE f n' k) ∧ QS f h w3.heap.size (k + 1) w3 W ∧ CpA W A ⟨x0, r, x2, x3, x4, x5, x6, x7⟩)
            case first =>
              by_cases hk1 : k + 1 < n'
              · have hc : ∀ c, c < 8 → WE.cell? ⟨g, (k + 1) * 8 + c, none⟩ = (encAw (FE f n' (k + 1)))[c]? := fun c hc => (hqs7.bel.cell (p := ⟨g, (k + 1) * 8 + c, none⟩) hg).trans (Haw.out.cell hk1 hc)
                have z2 := (hqs7.bel.cell (p := ⟨D, 2, none⟩) hD).trans d2
                obtain ⟨y, hy⟩ : ∃ y, FE f n' (k + 1) = y := ⟨_, rfl⟩
                have e1 : y.rcv = (f (k + 1)).rcv := by rw [← hy]; rfl
                have e2 : y.snd = (f (k + 1)).snd := by rw [← hy]; rfl
                rw [hy] at hc
                have Hnext : Hid (nextE f n' k = if y.rcv = (r : Int) ∧ y.snd = x2 then (k : Int) + 1 else -1) := by
                  show _ = _
                  unfold nextE sameA
                  rw [e1, e2, E2.out, show k + 1 - 1 = k by omega, HR.out]
                  have g1 : (decide (0 < k + 1 ∧ (r : Int) = (f (k + 1)).rcv ∧ (f k).snd = (f (k + 1)).snd) = true) = ((f (k + 1)).rcv = (r : Int) ∧ (f (k + 1)).snd = (f k).snd) := by
                    simp only [decide_eq_true_eq, eq_iff_iff]
                    constructor
                    · rintro ⟨_, h1, h2⟩; exact ⟨h1.symm, h2.symm⟩
                    · rintro ⟨h1, h2⟩; exact ⟨by omega, h1.symm, h2.symm⟩
                  simp only [g1, hk1, true_and]
                obtain ⟨y0, y1, y2, y3, y4, y5, y6, y7⟩ := y
                have a0 := hc 0 (by omega)
                have a1 := hc 1 (by omega)
                have a2 := hc 2 (by omega)
                have a3 := hc 3 (by omega)
                have a4 := hc 4 (by omega)
                have a5 := hc 5 (by omega)
                have a6 := hc 6 (by omega)
                have a7 := hc 7 (by omega)
                simp only [encAw, List.getElem?_cons_succ, List.getElem?_cons_zero, Nat.add_zero] at a0 a1 a2 a3 a4 a5 a6 a7
                dsimp only at Hnext
                clear hc hy e1 e2
                go_upto_region 36 with (fail)
                have hcpB : CpA (WE.alloc (.cells #[.string y0, .int .i64 y1, .int .i64 y2, .int .i64 y3, .int .i64 y4, .int .i64 y5, .int .i64 y6, .int .i64 y7] 36)) WE.heap.size ⟨y0, y1, y2, y3, y4, y5, y6, y7⟩ := cpA_new WE ⟨y0, y1, y2, y3, y4, y5, y6, y7⟩
                have bB : Below WE.heap.size WE (WE.alloc (.cells #[.string y0, .int .i64 y1, .int .i64 y2, .int .i64 y3, .int .i64 y4, .int .i64 y5, .int .i64 y6, .int .i64 y7] 36)) := (Below.refl _ _).alloc (Nat.le_refl _) _
                obtain ⟨WF, hWF⟩ : ∃ WF, WE.alloc (.cells #[.string y0, .int .i64 y1, .int .i64 y2, .int .i64 y3, .int .i64 y4, .int .i64 y5, .int .i64 y6, .int .i64 y7] 36) = WF := ⟨_, rfl⟩
                rw [hWF] at hcpB bB ⊢
                obtain ⟨B, hB⟩ : ∃ B, WE.heap.size = B := ⟨_, rfl⟩
                have hcpA := hcp7.below bB
                have hqsB := hqs7.below bB
                rw [hB] at hcpB ⊢
                clear hWF hB a0 a1 a2 a3 a4 a5 a6 a7 z2 bB
                have u1 := hcpA.c 1 (by omega)
                have u2 := hcpA.c 2 (by omega)
                have v1 := hcpB.c 1 (by omega)
                have v2 := hcpB.c 2 (by omega)
                simp only [encAw, List.getElem?_cons_succ, List.getElem?_cons_zero] at u1 u2 v1 v2
                by_cases c1 : y1 = (r : Int)
                · have t1 : (y1 == (r : Int)) = true := by simp [c1]
                  by_cases c2 : y2 = x2
                  · have t2 : (y2 == x2) = true := by simp [c2]
                    have Hres : Hid (nextE f n' k = (k : Int) + 1) := by show _ = _; rw [Hnext.out, if_pos ⟨c1, c2⟩]
                    clear c1 c2
                    go_wp2
                    go_meet
                    case rel => exact ⟨by rw [Hres.out], hqsB, hcpA⟩
                  · have t2 : (y2 == x2) = false := by simp [c2]
                    have Hres : Hid (nextE f n' k = -1) := by show _ = _; rw [Hnext.out, if_neg (fun e => c2 e.2)]
                    clear c1 c2
                    go_wp2
                    go_meet
                    case rel => exact ⟨by rw [Hres.out], hqsB, hcpA⟩
                · have t1 : (y1 == (r : Int)) = false := by simp [c1]
                  have Hres : Hid (nextE f n' k = -1) := by show _ = _; rw [Hnext.out, if_neg (fun e => c1 e.1)]
                  clear c1
                  go_wp2
                  go_meet
                  case rel => exact ⟨by rw [Hres.out], hqsB, hcpA⟩
              · have hk2 : n' ≤ k + 1 := by omega
                have Hres : Hid (nextE f n' k = -1) := by show _ = _; unfold nextE; rw [if_neg (fun e => hk1 e.1)]
                clear hk1
                go_wp2
                go_meet
                case rel => exact ⟨by rw [Hres.out], hqs7, hcp7⟩
            case rest =>
              clear hqs7 hcp7
              obtain ⟨hu20, hqs8, hcp8⟩ := hcut
              subst hu20
              have u7 := hcp8.c 7 (by omega)
              simp only [encAw, List.getElem?_cons_succ, List.getElem?_cons_zero] at u7
              have t7 : (x7 != nextE f n' k) = false := by rw [E7.out]; simp
              go_wp2
              go_roundw
              case rel => exact ⟨k + 1, by omega, by go_num, hqs8⟩
              case measure => simp [intOf]; omega
      · obtain rfl : k = n' := by omega
        go_wp2
        go_loopw [22] (fun rr wr2 => ∃ r : Nat, r ≤ h ∧ rr = .int .i64 r ∧ Below wr.heap.size wr wr2) (fun rr _ => h - (intOf rr).toNat)
        case atStart => exact ⟨0, Nat.zero_le _, rfl, Below.refl _ _⟩
        case round =>
          obtain ⟨r, hr, rfl, hb2⟩ := hrel
          have hq2 := hqs.below hb2
          by_cases hrlt : r < h
          · obtain ⟨qa, qc, hq0, _⟩ := HWa.out.que hrlt
            have y0 := (hq2.bel.cell (p := ⟨D, 1, none⟩) hD).trans d1
            have y1 := (hq2.bel.cell (p := ⟨Qb, r, none⟩) hQb).trans hq0
            have hcn := hq2.cnt.cell hrlt
            obtain ⟨i, hi⟩ : ∃ i, (headsA f k r).length = i := ⟨_, rfl⟩
            rw [hi] at y1 hcn
            clear hi hq0
            go_wp2
            go_quiet (fail)
            go_wp2
            go_roundw
            case rel => exact ⟨r + 1, by omega, by go_num, hb2.comp (below_drew _ _) hb2.size⟩
            case measure => simp [intOf]; omega
          · obtain rfl : r = h := by omega
            go_wp2
            go_ret
            exact ⟨rfl, hbel.comp hq2.bel hbel.size⟩
end Go.Proofs.Ybulkbpqa
