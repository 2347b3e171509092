/- The walk of 'newDeliveryWatch' (function 9). -/
import Derived.Test.YbulkbpqaLastA
import Derived.Test.YbulkbpqaOrderB
namespace Go.Proofs.Ybulkbpqa
open Go.RowKit
set_option linter.unusedVariables false

set_option maxRecDepth 100000 in
set_option maxHeartbeats 8000000 in
theorem watch_any (h : Nat) (E : List RawE) (T Hb Eb : Nat) (ao : Option Addr) (cap : Nat) (w : World) (H : TrR h E w T Hb Eb ao cap) (hh : 1 ≤ h ∧ h ≤ 16) (hL : E.length ≤ 1024) (hR : totA E E.length ≤ 4096) :
    Calls Yba.prog 9 #[.pointer (some ⟨T, 0, none⟩)] w fun e w' => ∃ D, e = .returned (.pointer (some ⟨D, 0, none⟩)) ∧ ∃ n f ao5 Qb Ab g c5 base, WaA h E n f ao5 T D Qb Ab g c5 base w w' := by
  have hRn : (recsA h E E.length).length ≤ 4096 := Nat.le_trans (recsA_le _ _ _) hR
  obtain ⟨i36, hi36, z36, s36, b36⟩ := info_parts Yba.infA36
  have hm2 := fun w => run_make_row' (P := Yba.prog) 25 3 _ 8 Yba.underlying25 Yba.infA3 rfl .i64 .i64 h (by omega) (by omega) w
  have hm3 := fun w => run_make_row' (P := Yba.prog) 25 3 _ 8 Yba.underlying25 Yba.infA3 rfl .i64 .i64 E.length (by omega) (by omega) w
  have t0 := H.t0
  have t1 := H.t1
  have hT := H.Tlt
  have hEb := H.Elt
  go_enter Yba.func9, Yba.ntmps9
  go_wp2
  have hca := ca_start h E w
  have bel0 : Below w.heap.size w ((w.alloc (.cells (madeCells #[.int .i64 0] E.length) 3)).alloc (.cells (madeCells #[.int .i64 0] h) 3)) := ((Below.refl _ _).alloc (Nat.le_refl _) _).alloc (by simp) _
  have size0 : w.heap.size + 2 ≤ ((w.alloc (.cells (madeCells #[.int .i64 0] E.length) 3)).alloc (.cells (madeCells #[.int .i64 0] h) 3)).heap.size := by simp
  obtain ⟨W0, hW0⟩ : ∃ W0, ((w.alloc (.cells (madeCells #[.int .i64 0] E.length) 3)).alloc (.cells (madeCells #[.int .i64 0] h) 3)) = W0 := ⟨_, rfl⟩
  rw [hW0] at hca bel0 size0 ⊢
  clear hW0
  go_loopw [5, 30] (fun v ii wr => ∃ i : Nat, i ≤ E.length ∧ ii = .int .i64 i ∧ CA h E w.heap.size i (recsA h E i) wr v ∧ Below w.heap.size w wr ∧ w.heap.size + 2 ≤ wr.heap.size)
    (fun _ ii _ => E.length - (intOf ii).toNat)
  case atStart => exact ⟨0, Nat.zero_le _, rfl, hca, bel0, size0⟩
  case round =>
    clear hca bel0 size0 hm2 hm3
    obtain ⟨i, hi, rfl, hC, hnx, hsz⟩ := hrel
    by_cases hlt : i < E.length
    · have HR := H.below (Nat.le_refl _) hnx
      obtain ⟨e0, e1, e2, e3⟩ := HR.ev i hlt
      have hslt := hostA_lt (show 0 < h by omega) E i
      have hcl := cntA_le h E i (hostA h E i)
      obtain ⟨hs, hhs⟩ : ∃ hs, hostA h E i = hs := ⟨_, rfl⟩
      obtain ⟨n2, hn2⟩ : ∃ n2, (recsA h E (i + 1)).length = n2 := ⟨_, rfl⟩
      rw [hn2] at e2
      rw [hhs] at e0 hslt hcl
      obtain ⟨ct, hct⟩ : ∃ ct, cntA h E i hs = ct := ⟨_, rfl⟩
      rw [hct] at hcl
      have Hhs : Hid (hostA h E i = hs) := hhs
      have Hct : Hid (cntA h E i hs = ct) := hct
      have hC1 : CA h E w.heap.size i (recsA h E i) (wr.alloc (.cells #[.int .i64 hs, .bool false, .int .i64 n2, .int .i64 0] 67)) u5 := hC.below ((Below.refl _ _).alloc hsz _) (hC.aw.alloc _)
      have hnx1 : Below w.heap.size w (wr.alloc (.cells #[.int .i64 hs, .bool false, .int .i64 n2, .int .i64 0] 67)) := hnx.alloc hnx.size _
      have c0 := hC1.cnt.cell hslt
      have c1 := hC1.own.cell hlt
      have f0 := hC1.cnt.frozen hs
      have f1 := hC1.own.frozen i
      rw [hct] at c0
      have hC2 := ca_step hC1 hhs hct
      clear hhs hct t0 t1 hn2
      have hnx2 : Below w.heap.size w (((wr.alloc (.cells #[.int .i64 hs, .bool false, .int .i64 n2, .int .i64 0] 67)).setCell ⟨w.heap.size + 1, hs, none⟩ (.int .i64 ((ct : Int) + 1))).setCell ⟨w.heap.size, i, none⟩ (.int .i64 ((ct : Int) + 1))) :=
        (hnx1.setCell (p := ⟨w.heap.size + 1, hs, none⟩) (by show w.heap.size ≤ w.heap.size + 1; omega) _).setCell (p := ⟨w.heap.size, i, none⟩) (Nat.le_refl _) _
      go_wp2_with (go_at_call 16; refine (from_any h E T Hb Eb i ao cap _ (H.below (Nat.le_refl _) hnx2) hlt hL hRn).mono ?_; rintro e w1 ⟨⟨p, c, rfl, hp⟩, b1⟩)
      have hszW : (((wr.alloc (.cells #[.int .i64 hs, .bool false, .int .i64 n2, .int .i64 0] 67)).setCell ⟨w.heap.size + 1, hs, none⟩ (.int .i64 ((ct : Int) + 1))).setCell ⟨w.heap.size, i, none⟩ (.int .i64 ((ct : Int) + 1))).heap.size = wr.heap.size + 1 := by simp [World.setCell]
      have bN : Below (w.heap.size + 1 + 1) (((wr.alloc (.cells #[.int .i64 hs, .bool false, .int .i64 n2, .int .i64 0] 67)).setCell ⟨w.heap.size + 1, hs, none⟩ (.int .i64 ((ct : Int) + 1))).setCell ⟨w.heap.size, i, none⟩ (.int .i64 ((ct : Int) + 1))) w1 :=
        (Below.refl _ _).comp b1 (by omega)
      have hC3 : CA h E w.heap.size (i + 1) (recsA h E i) w1 u5 := hC2.below bN (ownsRow_below hC2.aw (Nat.le_refl _) b1)
      have hnx3 : Below w.heap.size w w1 := hnx2.comp b1 (by omega)
      have cC : w1.cell? ⟨wr.heap.size, 0, none⟩ = some (.int .i64 hs) := by
        rw [b1.cell (p := ⟨wr.heap.size, 0, none⟩) (by show wr.heap.size < _; omega)]
        rw [World.cell?_of_block (a := ⟨wr.heap.size, 0, none⟩) (Below.heap_setCell _ _ _ _ (by show wr.heap.size ≠ w.heap.size; omega)), World.cell?_of_block (a := ⟨wr.heap.size, 0, none⟩) (Below.heap_setCell _ _ _ _ (by show wr.heap.size ≠ w.heap.size + 1; omega))]
        simp
      have hCb : u5.ownBlock ≠ some wr.heap.size := fun e => by have := (hC.aw.lt _ e).2; omega
      have hs1 : wr.heap.size < w1.heap.size := by have := b1.size; omega
      obtain ⟨C, hCe⟩ : ∃ C, wr.heap.size = C := ⟨_, rfl⟩
      rw [hCe] at cC hCb hs1 ⊢
      have hCN : w.heap.size + 2 ≤ C := by omega
      clear hCe hszW bN b1 hnx2 hC2 c0 c1 f0 f1 hnx1 hC1 e0 e1 e2 e3 HR hC hnx hsz
      go_loopw [5, 54] (fun v kk w2 => ∃ k : Nat, k ≤ (recsOf h E i).length ∧ kk = .int .i64 k ∧ CA h E w.heap.size (i + 1) (recsA h E i ++ (recsOf h E i).take k) w2 v ∧ Below w.heap.size w w2 ∧ w2.cell? ⟨C, 0, none⟩ = some (.int .i64 hs) ∧ v.ownBlock ≠ some C ∧ C < w2.heap.size)
        (fun _ kk _ => (recsOf h E i).length - (intOf kk).toNat)
      case atStart => exact ⟨0, Nat.zero_le _, rfl, by simpa using hC3, hnx3, cC, hCb, hs1⟩
      case round =>
        clear hC3 hnx3 cC hCb hs1
        obtain ⟨k, hk, rfl, hC, hnx, cC, hCb, hCs⟩ := hrel
        by_cases hklt : k < (recsOf h E i).length
        · obtain ⟨g, hao, hpe⟩ := hp (by omega)
          subst hpe
          obtain ⟨r, hr⟩ : ∃ r, (recsOf h E i)[k]? = some r := ⟨_, List.getElem?_eq_getElem hklt⟩
          obtain ⟨hrs, hrr⟩ := recsOf_mem (List.mem_of_getElem? hr)
          have HR := H.below (Nat.le_refl _) hnx
          obtain ⟨hm0, hm1⟩ := msg_at HR hao hlt hr
          have htake := take_succ_of hr
          have HT : Hid (recsA h E i ++ (recsOf h E i).take (k + 1) = (recsA h E i ++ (recsOf h E i).take k) ++ [r]) := by
            show _ = _
            rw [htake, List.append_assoc]
          have hbd : (recsA h E i).length + (recsOf h E i).length ≤ 4096 := by
            obtain ⟨t, ht⟩ := recsA_mono h E (show i + 1 ≤ E.length by omega)
            have := hRn
            rw [ht, List.length_append, recsA, List.length_append] at this
            omega
          have hnn : (recsA h E i ++ (recsOf h E i).take k).length = (recsA h E i).length + k := by
            rw [List.length_append, List.length_take]; omega
          obtain ⟨L, hLe⟩ : ∃ L, recsA h E i ++ (recsOf h E i).take k = L := ⟨_, rfl⟩
          rw [hLe] at hC hnn HT
          obtain ⟨a5, c5, h5⟩ := slice_of hC.aw
          subst h5
          obtain ⟨rid, rs, rr⟩ := r
          dsimp only at hrs hrr hm0 hm1
          rw [Hhs.out] at hrr
          subst hrr
          have he := HR.ev rs (by omega)
          have heh := he.1
          have ht1 := HR.t1
          have ho := hC.own.cell (show rs < E.length by omega)
          rw [if_pos (show rs < i + 1 by omega)] at ho
          clear htake hr he HR hLe
          have hown := hC.aw
          obtain ⟨n, hn⟩ : ∃ n, L.length = n := ⟨_, rfl⟩
          have Hn : Hid (L.length = n) := hn
          rw [hn] at hown hnn hCb ⊢
          have hnb : n ≤ 4095 := by omega
          clear hnn hn
          go_wp2
          rename_i K9 ha9
          have hrsE : rs < E.length := by omega
          have hTr : T < wr.heap.size := by omega
          have hEr : Eb < wr.heap.size := by omega
          have hNr : w.heap.size < wr.heap.size := by omega
          obtain ⟨wd, hwd⟩ : ∃ wd, (wr.alloc (.cells #[.string rid, .int .i64 rs] 63)).drew = wd := ⟨_, rfl⟩
          have bd : Below wr.heap.size wr wd := by rw [← hwd]; exact ((Below.refl _ _).alloc (Nat.le_refl _) _).drew
          have hC0 : CR12 wr.heap.size C T Eb w.heap.size rid rs rr E.length (hostA h E rs) (ownA h E rs) wd :=
            ⟨by rw [← hwd]; simp, by rw [← hwd]; simp, (bd.cell (p := ⟨C, 0, none⟩) hCs).trans cC, (bd.cell (p := ⟨T, 1, none⟩) hTr).trans ht1, (bd.cell (p := ⟨Eb, rs * 4, none⟩) hEr).trans heh, (bd.cell (p := ⟨w.heap.size, rs, none⟩) hNr).trans ho⟩
          have hownd : wd.ownsRow (w.heap.size + 1 + 1) 36 8 (.slice a5 n c5) n ((awsA h E L).flatMap encAw) := ownsRow_below hown (Nat.le_refl _) bd
          have hsd : wd.heap.size = wr.heap.size + 1 := by rw [← hwd]; simp [World.drew]
          apply region_take (CR12 wr.heap.size C T Eb w.heap.size rid rs rr E.length (hostA h E rs) (ownA h E rs)) 22 [22, 23, 24] (by kernel_rfl) (by kernel_rfl) (by kernel_rfl) (by kernel_rfl) (by rw [hwd]; exact hC0)
          case hs =>
            intro wx hx
            obtain ⟨x0, x1, x2, x3, x4, x5⟩ := hx
            simp only [List.take_succ_cons, List.take_zero]
            repeat still_step
            exact wpStill_nil rfl
          case ht =>
            rw [hwd]
            have hlive : ∀ W', Below wd.heap.size wd W' → CR12 wr.heap.size C T Eb w.heap.size rid rs rr E.length (hostA h E rs) (ownA h E rs) W' := fun W' hb =>
              hC0.below hb (by omega) (by omega) (by omega) (by omega) (by omega)
            refine seq_step rfl ?_
            go_wp2
            refine ⟨hlive _ ((Below.refl _ _).alloc (Nat.le_refl _) _), seq_step rfl ?_⟩
            have hb5 : ∀ k, some k = (Value.slice a5 n c5).ownBlock → w.heap.size + 1 + 1 ≤ k ∧ k < wr.heap.size := fun k hk => hown.lt k hk.symm
            refine wpList_append_own_at _ rfl (.tmp 58) (.tmp 80) 32 rfl (w.heap.size + 1 + 1) 36 i36 _ 8 72 Yba.underlying32 hi36 z36 s36 b36 rfl (by decide) (.slice a5 n c5) n ((awsA h E L).flatMap encAw) rfl (hownd.alloc _) ⟨wr.heap.size + 1, 0, none⟩ 1 1 (encAw (awOf h E n ⟨rid, rs, rr⟩)) rfl rfl (cells_aw wd _ hsd (awOf h E n ⟨rid, rs, rr⟩)) (encAw_one _) (by unfold maxLen; omega) (by omega) (by simp only [World.size_alloc]; omega) ?_
            intro v1 w1 hown1 hgrow1 _ hat1
            refine ⟨rfl, ?_⟩
            have hz1 : wr.heap.size + 2 ≤ w1.heap.size := by have := hgrow1.size; simp only [World.size_alloc] at this; omega
            have hlive1 : CR12 wr.heap.size C T Eb w.heap.size rid rs rr E.length (hostA h E rs) (ownA h E rs) w1 :=
              (hlive _ ((Below.refl _ _).alloc (Nat.le_refl _) _)).grown hgrow1 ⟨by simp only [World.size_alloc]; omega, fun e => by have := hb5 _ e; omega⟩ ⟨by simp only [World.size_alloc]; omega, fun e => hCb e.symm⟩ ⟨by simp only [World.size_alloc]; omega, fun e => by have := hb5 _ e; omega⟩ ⟨by simp only [World.size_alloc]; omega, fun e => by have := hb5 _ e; omega⟩ ⟨by simp only [World.size_alloc]; omega, fun e => by have := hb5 _ e; omega⟩
            refine ⟨hlive1, seq_step rfl ?_⟩
            go_wp2
            refine ha9 _ _ ?_
            go_wp2
            go_roundw
            case rel =>
              have hgb : Below (w.heap.size + 1 + 1) wr w1 := (((Below.refl _ _).comp bd (by omega)).alloc (by omega) _).grown hgrow1 (by simp only [World.size_alloc]; omega) (fun k hk => (hb5 k hk.symm).1)
              have hcell : w1.cell? ⟨C, 0, none⟩ = some (.int .i64 rr) := hlive1.x2
              have hblk : v1.ownBlock ≠ some C := by
                rcases hat1 with e | e
                · rw [e]; exact hCb
                · rw [e]; intro e2; cases e2; simp only [World.size_alloc] at *; omega
              refine ⟨k + 1, by omega, by go_num, ?_, hnx.comp hgb (by omega), hcell, hblk, by omega⟩
              rw [HT.out]
              refine hC.below hgb ?_
              rw [awsA_snoc, List.flatMap_append, List.length_append, Hn.out]
              simpa using hown1
            case measure => simp [intOf]; omega
        · obtain rfl : k = (recsOf h E i).length := by omega
          rw [List.take_length] at hC
          go_wp2
          go_roundw
          case rel => exact ⟨i + 1, by omega, by go_num, hC, hnx, by omega⟩
          case measure => simp [intOf]; omega
    · obtain rfl : i = E.length := by omega
      have ht0 := (hnx.cell (p := ⟨T, 0, none⟩) hT).trans H.t0
      obtain ⟨n, hn⟩ : ∃ n, (recsA h E E.length).length = n := ⟨_, rfl⟩
      have haw := hC.aw
      rw [hn] at haw
      obtain ⟨ao5, g, c5, hv, hnc, hrow⟩ := slice_owned haw (by rw [awsA_length, hn])
      subst hv
      have hnb : n ≤ 4096 := by omega
      have hsort := sort_any ao5 g n c5 (w.heap.size + 1 + 1) _ wr hrow hnb
      have Hao : Hid (0 < n → ao5 = some ⟨g, 0, none⟩ ∧ w.heap.size + 1 + 1 ≤ g ∧ g < wr.heap.size) := fun hp => ⟨(hrow hp).1, (hrow hp).2.2, (hrow hp).2.1.lt⟩
      have Hn : Hid ((recsA h E E.length).length = n) := hn
      clear haw hrow hn
      go_wp2_with (go_at_call 17; go_must (refine hsort.mono ?_; rintro e w1 ⟨rfl, f, hrow, hperm, hsrt, b1⟩))
      have HS : Hid (Srt h E n f) := srt_of Hn.out hperm hsrt
      have Hrow : Hid (0 < n → AwRow w1 g n f) := hrow
      clear hperm hsrt hrow hsort
      have hmq := fun w => run_make_row' (P := Yba.prog) 31 39 _ 24 Yba.underlying31 Yba.infA39 rfl .i64 .i64 h (by omega) (by omega) w
      have hma := fun w => run_make_row' (P := Yba.prog) 25 3 _ 8 Yba.underlying25 Yba.infA3 rfl .i64 .i64 n (by omega) (by omega) w
      have ht0' := (b1.cell (p := ⟨T, 0, none⟩) (by show T < w.heap.size + 1 + 1; omega)).trans ht0
      go_cut [10] from 86 to 98 (fun v W' => ∃ D Qb Ab, v = .pointer (some ⟨D, 0, none⟩) ∧ Watch0 ao5 W' w1 T h n c5 D Qb Ab)
      case first =>
        rename_i J8 K8 hJ8 hK8
        have hC0 : CR16 T Hb h w1.drew := ⟨ht0'⟩
        apply region_two_take (CR16 T Hb h) 6 7 3 6 10 [11, 12, 13] (by kernel_rfl) (by kernel_rfl) (by kernel_rfl) (by kernel_rfl) hC0
        case hs =>
          intro wx hx
          obtain ⟨x0⟩ := hx
          simp only [List.take_succ_cons, List.take_zero, List.drop_succ_cons, List.drop_zero, List.cons_append, List.nil_append]
          repeat still_step
          exact wpStill_nil rfl
        case h1 =>
          obtain ⟨wd, hwd⟩ : ∃ wd, w1.drew = wd := ⟨_, rfl⟩
          rw [hwd] at hC0 ⊢
          have bd : Below w1.heap.size w1 wd := by rw [← hwd]; exact (Below.refl _ _).drew
          have hTd : T < wd.heap.size := by have := bd.size; have := b1.size; omega
          refine seq_drop rfl ?_
          go_wp2
          refine ⟨hC0.alloc hTd _, seq_drop rfl ?_⟩
          go_wp2
          refine ⟨(hC0.alloc hTd _).alloc (by simp; omega) _, seq_drop rfl ?_⟩
          go_wp2
          refine ⟨(hC0.alloc hTd _).alloc (by simp; omega) _, seq_drop rfl ?_⟩
          go_wp2
          refine ⟨((hC0.alloc hTd _).alloc (by simp; omega) _).alloc (by simp; omega) _, seq_drop rfl ?_⟩
          go_wp2
          refine ⟨((hC0.alloc hTd _).alloc (by simp; omega) _).alloc (by simp; omega) _, ?_⟩
          refine hK8 _ _ (Met.intro (hJ8 _ _ ?_))
          exact ⟨_, _, _, _, _, _, _, _, _, _, _, _, _, _, ⟨_, _, _, rfl, watch0_qa bd⟩, rfl⟩
        case h2 =>
          obtain ⟨wd, hwd⟩ : ∃ wd, w1.drew = wd := ⟨_, rfl⟩
          rw [hwd] at hC0 ⊢
          have bd : Below w1.heap.size w1 wd := by rw [← hwd]; exact (Below.refl _ _).drew
          have hTd : T < wd.heap.size := by have := bd.size; have := b1.size; omega
          refine seq_drop rfl ?_
          go_wp2
          refine ⟨hC0.alloc hTd _, seq_drop rfl ?_⟩
          go_wp2
          refine ⟨(hC0.alloc hTd _).alloc (by simp; omega) _, seq_drop rfl ?_⟩
          go_wp2
          refine ⟨(hC0.alloc hTd _).alloc (by simp; omega) _, seq_drop rfl ?_⟩
          go_wp2
          refine ⟨((hC0.alloc hTd _).alloc (by simp; omega) _).alloc (by simp; omega) _, seq_drop rfl ?_⟩
          go_wp2
          refine ⟨((hC0.alloc hTd _).alloc (by simp; omega) _).alloc (by simp; omega) _, ?_⟩
          refine hK8 _ _ (Met.intro (hJ8 _ _ ?_))
          exact ⟨_, _, _, _, _, _, _, _, _, _, _, _, _, _, ⟨_, _, _, rfl, watch0_aq bd⟩, rfl⟩
      case rest =>
        obtain ⟨D, Qb, Ab, rfl, hW0⟩ := hcut
        clear hmq hma
        go_wp2
        have hbw : Below w.heap.size w w1 := hnx.comp b1 (by omega)
        have hls0 : LR f ao5 h n c5 T D Qb Ab wc.heap.size w 0 0 wc := lr_start hW0 hbw
        have haw0 : 0 < n → AwRow wc g n (FA f 0) := fun hp => ((Hrow.out hp).of_block (hW0.bel.block g (Hrow.out hp).lt)).congr fun j _ => (FA_zero f j).symm
        have HG : Hid (0 < n → Gd w D Qb Ab g wc.heap.size) := fun hp => gd_start hW0 hbw (by have := (Hao.out hp).2.1; omega) (by have := (Hao.out hp).2.2; have := b1.size; omega)
        obtain ⟨base, hbase⟩ : ∃ base, wc.heap.size = base := ⟨_, rfl⟩
        rw [hbase] at hls0 HG
        clear hbase
        go_loopw [101, 11, 12] (fun kk _ _ W => ∃ k : Nat, k ≤ n ∧ kk = .int .i64 k ∧ (0 < n → AwRow W g n (FA f k)) ∧ LR f ao5 h n c5 T D Qb Ab base w k k W)
          (fun kk _ _ _ => n - (intOf kk).toNat)
        case atStart => exact ⟨0, Nat.zero_le _, rfl, haw0, hls0⟩
        case round =>
          clear hls0 haw0 hW0 hbw ht0 ht0' b1 hnx hC
          obtain ⟨k, hk, rfl, haw, hlr⟩ := hrel
          by_cases hlt : k < n
          · have hkb : k ≤ 4096 := by omega
            have hnp : 0 < n := by omega
            replace haw := haw hnp
            obtain ⟨hao, hgw, _⟩ := Hao.out hnp
            subst hao
            have HG' : Hid (Gd w D Qb Ab g base) := HG.out hnp
            obtain ⟨j, hjn, hrcp⟩ := HS.out.rcp hlt
            obtain ⟨r, hrh, hrcv⟩ := HS.out.rcv (by omega) hlt
            have HJ : Hid ((f k).rcp = j) := hrcp
            have HR : Hid ((f k).rcv = r) := hrcv
            have HL : Hid (LR f (some ⟨g, 0, none⟩) h n c5 T D Qb Ab base w k k wr) := hlr
            have d3 := hlr.d3
            obtain ⟨⟨e0v, e0⟩, e1⟩ := hlr.at_cell hjn
            have a4 := haw.cell hlt (show 4 < 8 by omega)
            rw [FA_ge f (Nat.le_refl k)] at a4
            have a4' : wr.cell? ⟨g, k * 8 + 4, none⟩ = some (.int .i64 j) := by rw [a4, ← hrcp]; rfl
            clear a4 hlr hrcp hrcv
            go_wp2
            rename_i K6 ha6 K7 ha7
            have hC0 : CR21 D Ab g k n j wr.drew := ⟨d3, a4'⟩
            apply region_take (CR21 D Ab g k n j) 10 [10] (by kernel_rfl) (by kernel_rfl) (by kernel_rfl) (by kernel_rfl) hC0
            case hs =>
              intro wx hx
              obtain ⟨x0, x1⟩ := hx
              simp only [List.take_succ_cons, List.take_zero]
              repeat still_step
              exact wpStill_nil rfl
            case ht =>
              have hC2 : CR21 D Ab g k n j (wr.setCell ⟨Ab, j, none⟩ (.int .i64 k)).drew := ⟨(World.cell?_of_block (a := ⟨D, 3, none⟩) (Below.heap_setCell _ _ _ _ (fun e => HG'.out.aD e.symm))).trans d3, (World.cell?_of_block (a := ⟨g, k * 8 + 4, none⟩) (Below.heap_setCell _ _ _ _ (fun e => HG'.out.gA e))).trans a4'⟩
              refine seq_drop rfl ?_
              go_wp2
              refine ha7 _ _ ?_
              have haw2 : AwRow (wr.setCell ⟨Ab, j, none⟩ (.int .i64 k)).drew g n (FA f k) := haw.of_block (Below.heap_setCell _ _ _ _ (fun e => HG'.out.gA e))
              have HL2 : Hid (LR f (some ⟨g, 0, none⟩) h n c5 T D Qb Ab base w (k + 1) k (wr.setCell ⟨Ab, j, none⟩ (.int .i64 k)).drew) := (HL.out.setAt HG'.out HS.out hlt HJ.out).drew
              obtain ⟨W2, hW2⟩ : ∃ W2, (wr.setCell ⟨Ab, j, none⟩ (.int .i64 k)).drew = W2 := ⟨_, rfl⟩
              rw [hW2] at haw2 HL2 ⊢
              have g6 := haw2.cell hlt (show 6 < 8 by omega)
              have g7 := haw2.cell hlt (show 7 < 8 by omega)
              rw [FA_ge f (Nat.le_refl k)] at g6 g7
              have f6 := haw2.frozen (k * 8 + 6)
              have f7 := haw2.frozen (k * 8 + 7)
              simp only [encAw, List.getElem?_cons_succ, List.getElem?_cons_zero] at g6 g7
              clear d3 e0 e1 a4' hC0 hC2 haw
              go_wp2
              have haw3 : AwRow ((W2.setCell ⟨g, k * 8 + 6, none⟩ (.int .i64 ((k : Int) - 1))).setCell ⟨g, k * 8 + 7, none⟩ (.int .i64 ((k : Int) + 1))) g n (F3 f k) := link3 haw2 hlt
              have HL3 : Hid (LR f (some ⟨g, 0, none⟩) h n c5 T D Qb Ab base w (k + 1) k ((W2.setCell ⟨g, k * 8 + 6, none⟩ (.int .i64 ((k : Int) - 1))).setCell ⟨g, k * 8 + 7, none⟩ (.int .i64 ((k : Int) + 1)))) := (HL2.out.setG HG'.out _ _).setG HG'.out _ _
              obtain ⟨W3, hW3⟩ : ∃ W3, ((W2.setCell ⟨g, k * 8 + 6, none⟩ (.int .i64 ((k : Int) - 1))).setCell ⟨g, k * 8 + 7, none⟩ (.int .i64 ((k : Int) + 1))) = W3 := ⟨_, rfl⟩
              rw [hW3] at haw3 HL3 ⊢
              clear g6 g7 f6 f7 haw2 hW3 HL2 HL hW2
              go_cut [154] from 127 to 154 (fun c W => c = .bool (!sameA f k) ∧ ∃ q, W = W3.drewN q)
              case first =>
                by_cases hk0 : k = 0
                · have tb : ((k : Int) == 0) = true := by simp [hk0]
                  have Hk : Hid (k = 0) := hk0
                  clear hk0
                  go_quiet (fail)
                  go_wp2
                  go_meet
                  case rel => exact ⟨by rw [show sameA f k = false by unfold sameA; rw [Hk.out]; simp]; rfl, _, rfl⟩
                · have hkp : 0 < k := by omega
                  have tb : ((k : Int) == 0) = false := by simp; omega
                  have hi0 : (0 : Int) ≤ (k : Int) - 1 := by omega
                  have hi1 : (k : Int) - 1 < n := by omega
                  have r1 := haw3.cell hlt (show 1 < 8 by omega)
                  have r2 := haw3.cell hlt (show 2 < 8 by omega)
                  have l1 := haw3.cell (show k - 1 < n by omega) (show 1 < 8 by omega)
                  have l2 := haw3.cell (show k - 1 < n by omega) (show 2 < 8 by omega)
                  have hF : F3 f k (k - 1) = { f (k - 1) with que := queA f (k - 1), prev := prevA f (k - 1), next := nextA f k (k - 1) } := by
                    have := F3_below f (k - 1)
                    rwa [show k - 1 + 1 = k by omega] at this
                  rw [F3_self] at r1 r2
                  rw [hF] at l1 l2
                  simp only [encAw, List.getElem?_cons_succ, List.getElem?_cons_zero] at r1 r2 l1 l2
                  have Hsame : Hid (sameA f k = decide ((f (k - 1)).rcv = (f k).rcv ∧ (f (k - 1)).snd = (f k).snd)) := by
                    show _ = _
                    unfold sameA
                    simp [hkp]
                  obtain ⟨y1, hy1⟩ : ∃ y1, (f k).rcv = y1 := ⟨_, rfl⟩
                  obtain ⟨y2, hy2⟩ : ∃ y2, (f k).snd = y2 := ⟨_, rfl⟩
                  obtain ⟨z1, hz1⟩ : ∃ z1, (f (k - 1)).rcv = z1 := ⟨_, rfl⟩
                  obtain ⟨z2, hz2⟩ : ∃ z2, (f (k - 1)).snd = z2 := ⟨_, rfl⟩
                  rw [hy1, hy2, hz1, hz2] at Hsame
                  rw [hy1] at r1
                  rw [hy2] at r2
                  rw [hz1] at l1
                  rw [hz2] at l2
                  clear hy1 hy2 hz1 hz2 hk0
                  by_cases c1 : z1 = y1
                  · have t1 : (z1 != y1) = false := by simp [c1]
                    by_cases c2 : z2 = y2
                    · have t2 : (z2 != y2) = false := by simp [c2]
                      have Hres : Hid (sameA f k = true) := by show _ = _; rw [Hsame.out]; simp [c1, c2]
                      clear c1 c2
                      go_quiet (fail)
                      go_wp2
                      go_meet
                      case rel => exact ⟨by rw [Hres.out]; rfl, _, rfl⟩
                    · have t2 : (z2 != y2) = true := by simp [c2]
                      have Hres : Hid (sameA f k = false) := by show _ = _; rw [Hsame.out]; simp [c1, c2]
                      clear c1 c2
                      go_quiet (fail)
                      go_wp2
                      go_meet
                      case rel => exact ⟨by rw [Hres.out]; rfl, _, rfl⟩
                  · have t1 : (z1 != y1) = true := by simp [c1]
                    have Hres : Hid (sameA f k = false) := by show _ = _; rw [Hsame.out]; simp [c1]
                    clear c1
                    go_quiet (fail)
                    go_wp2
                    go_meet
                    case rel => exact ⟨by rw [Hres.out]; rfl, _, rfl⟩
              case rest =>
                rename_i K8 ha8
                obtain ⟨hc, q, rfl⟩ := hcut
                subst hc
                have haw4 : AwRow (W3.drewN q) g n (F3 f k) := haw3.of_block rfl
                have HL4 : Hid (LR f (some ⟨g, 0, none⟩) h n c5 T D Qb Ab base w (k + 1) k (W3.drewN q)) := HL3.out.drewN q
                obtain ⟨W4, hW4⟩ : ∃ W4, W3.drewN q = W4 := ⟨_, rfl⟩
                rw [hW4] at haw4 HL4 ⊢
                clear hW4 haw3 HL3
                refine ha8 _ _ ?_
                go_cut [] from 154 to 191 (fun W => AwRow W g n (F6 f k) ∧ LR f (some ⟨g, 0, none⟩) h n c5 T D Qb Ab base w (k + 1) (k + 1) W)
                case first =>
                  rename_i J9 K9 hJ9 hK9
                  clear ha8
                  cases hsm : sameA f k with
                  | true =>
                    have Hs : Hid (sameA f k = true) := hsm
                    clear hsm
                    simp only [Bool.not_true]
                    go_wp2
                    go_meet
                    case rel => exact ⟨link_same haw4 Hs.out, HL4.out.same Hs.out⟩
                  | false =>
                    have Hs : Hid (sameA f k = false) := hsm
                    clear hsm
                    simp only [Bool.not_false]
                    have g6 := haw4.cell hlt (show 6 < 8 by omega)
                    rw [F3_self] at g6
                    have f6 := haw4.frozen (k * 8 + 6)
                    simp only [encAw, List.getElem?_cons_succ, List.getElem?_cons_zero] at g6
                    by_cases hk0 : 0 < k
                    case' pos =>
                      have hi0 : (0 : Int) ≤ (k : Int) - 1 := by omega
                      have hi1 : (k : Int) - 1 < n := by omega
                      have g7 : (W4.setCell ⟨g, k * 8 + 6, none⟩ (.int .i64 (-1))).cell? ⟨g, (k - 1) * 8 + 7, none⟩ = some (.int .i64 (nextA f k (k - 1))) := by
                        have h1 := haw4.cell (show k - 1 < n by omega) (show 7 < 8 by omega)
                        have hF : F3 f k (k - 1) = { f (k - 1) with que := queA f (k - 1), prev := prevA f (k - 1), next := nextA f k (k - 1) } := by
                          have := F3_below f (k - 1)
                          rwa [show k - 1 + 1 = k by omega] at this
                        rw [hF] at h1
                        rw [World.cell?_setCell_other _ _ _ _ (by simp)]
                        exact h1
                      have f7 : (W4.setCell ⟨g, k * 8 + 6, none⟩ (.int .i64 (-1))).frozen? ⟨g, (k - 1) * 8 + 7, none⟩ = false := by
                        simpa using haw4.frozen ((k - 1) * 8 + 7)
                      go_wp2
                      have haw6 : AwRow ((W4.setCell ⟨g, k * 8 + 6, none⟩ (.int .i64 (-1))).setCell ⟨g, (k - 1) * 8 + 7, none⟩ (.int .i64 (-1))) g n (F6 f k) := by
                        obtain ⟨m, rfl⟩ : ∃ m, k = m + 1 := ⟨k - 1, by omega⟩
                        exact link_new haw4 hlt Hs.out
                      have HL6 : Hid (LR f (some ⟨g, 0, none⟩) h n c5 T D Qb Ab base w (k + 1) k ((W4.setCell ⟨g, k * 8 + 6, none⟩ (.int .i64 (-1))).setCell ⟨g, (k - 1) * 8 + 7, none⟩ (.int .i64 (-1)))) := (HL4.out.setG HG'.out _ _).setG HG'.out _ _
                      obtain ⟨W6, hW6⟩ : ∃ W6, ((W4.setCell ⟨g, k * 8 + 6, none⟩ (.int .i64 (-1))).setCell ⟨g, (k - 1) * 8 + 7, none⟩ (.int .i64 (-1))) = W6 := ⟨_, rfl⟩
                      rw [hW6] at haw6 HL6 ⊢
                      clear hW6 g7 f7 g6 f6 haw4 HL4 hi0 hi1
                    case' neg =>
                      have hk0' : k ≤ 0 := by omega
                      go_wp2
                      have haw6 : AwRow (W4.setCell ⟨g, k * 8 + 6, none⟩ (.int .i64 (-1))) g n (F6 f k) := by
                        obtain rfl : k = 0 := by omega
                        exact link_new0 haw4 hlt
                      have HL6 : Hid (LR f (some ⟨g, 0, none⟩) h n c5 T D Qb Ab base w (k + 1) k (W4.setCell ⟨g, k * 8 + 6, none⟩ (.int .i64 (-1)))) := HL4.out.setG HG'.out _ _
                      obtain ⟨W6, hW6⟩ : ∃ W6, (W4.setCell ⟨g, k * 8 + 6, none⟩ (.int .i64 (-1))) = W6 := ⟨_, rfl⟩
                      rw [hW6] at haw6 HL6 ⊢
                      clear hW6 g6 f6 haw4 HL4 hk0'
                    all_goals
                      clear hk0
                      obtain ⟨i41, hi41, z41, s41, b41⟩ := info_parts Yba.infA41
                      obtain ⟨qv, hq1, hq2⟩ := HL6.out.qs
                      have hqo := QL_owns hq2 hrh
                      obtain ⟨qa, qc, hqv⟩ := slice_ofQ hqo
                      have hql := headsA_length_le f k r
                      have c1 := haw6.cell hlt (show 1 < 8 by omega)
                      have c2 := haw6.cell hlt (show 2 < 8 by omega)
                      rw [F6_self] at c1 c2
                      simp only [encAw, List.getElem?_cons_succ, List.getElem?_cons_zero] at c1 c2
                      rw [HR.out] at c1
                      have c3 := hq1.cell hrh
                      have z3 := hq1.frozen r
                      have d1 := HL6.out.d1
                      have hbs := HL6.out.bs
                      have HQ1 : Hid (W6.rowIs Qb 39 h qv) := hq1
                      have HQ2 : Hid (Sep W6 base (QL f h k qv)) := hq2
                      have HQV : Hid (qv r = .slice qa (headsA f k r).length qc) := hqv
                      have HQO : Hid (W6.ownsRow base 41 2 (qv r) (headsA f k r).length ((headsA f k r).flatMap (encQ f))) := hqo
                      obtain ⟨ql, hqle⟩ : ∃ ql, (headsA f k r).length = ql := ⟨_, rfl⟩
                      rw [hqv, hqle] at c3
                      rw [hqv, hqle] at hqo
                      rw [hqle] at hql HQV
                      have Hle : Hid ((headsA f k r).length = ql) := hqle
                      clear hqv hqle hq1 hq2
                      obtain ⟨sd, hsd⟩ : ∃ sd, (f k).snd = sd := ⟨_, rfl⟩
                      rw [hsd] at c2
                      have Hsd : Hid ((f k).snd = sd) := hsd
                      clear hsd
                      have hgW : g < base := HG'.out.gb
                      have hqW : Qb < base := HG'.out.qb
                      have hdW : D < base := HG'.out.db
                      obtain ⟨wd, hwd⟩ : ∃ wd, W6.drew = wd := ⟨_, rfl⟩
                      have bd : Below W6.heap.size W6 wd := by rw [← hwd]; exact (Below.refl _ _).drew
                      have hC0 : CR27 D Qb g k h r sd (.slice qa ql qc) wd := by rw [← hwd]; exact ⟨d1, c1, c2, c3⟩
                      have hownd : wd.ownsRow base 41 2 (.slice qa ql qc) ql ((headsA f k r).flatMap (encQ f)) := ownsRow_below hqo (Nat.le_refl _) bd
                      apply region_takeZ (CR27 D Qb g k h r sd (.slice qa ql qc)) 24 27 [24, 25, 26, 27] (by kernel_rfl) (by kernel_rfl) (by kernel_rfl) (by kernel_rfl) (by kernel_rfl) (by rw [hwd]; exact hC0)
                      case hs =>
                        intro wx hx
                        obtain ⟨x0, x1, x2, x3⟩ := hx
                        simp only [List.take_succ_cons, List.take_zero]
                        repeat still_step
                        exact wpStill_nil rfl
                      case ht =>
                        rw [hwd]
                        have hds : base ≤ wd.heap.size := by have := bd.size; omega
                        have hlive : ∀ o, CR27 D Qb g k h r sd (.slice qa ql qc) (wd.alloc o) := fun o => hC0.blocks (Below.heap_alloc _ _ _ (by omega)) (Below.heap_alloc _ _ _ (by omega)) (Below.heap_alloc _ _ _ (by omega))
                        clear c1 c2 c3 z3 d1
                        refine seq_dropZ rfl ?_
                        go_wp2
                        refine ⟨⟨.inr (hlive _)⟩, seq_dropZ rfl ?_⟩
                        have hds1 : base ≤ (wd.alloc (.cells #[.int .i64 sd, .int .i64 k] 41)).heap.size := by simp only [World.size_alloc]; omega
                        refine wpList_append_own_at _ rfl (.tmp 182) (.tmp 189) 39 rfl base 41 i41 _ 2 16 Yba.underlying39 hi41 z41 s41 b41 rfl (by decide) (.slice qa ql qc) ql ((headsA f k r).flatMap (encQ f)) rfl (hownd.alloc _) ⟨wd.heap.size, 0, none⟩ 1 1 [.int .i64 sd, .int .i64 k] rfl rfl (cells_two wd _ rfl _ _ _) (by intro u hu; simp at hu; rcases hu with rfl | rfl <;> rfl) (by unfold maxLen; omega) (by omega) hds1 ?_
                        intro v1 w7 hown1 hgrow1 _ hat1
                        refine ⟨rfl, ?_⟩
                        obtain ⟨va, vc, hv1⟩ := slice_of hown1
                        subst hv1
                        have hbl : ∀ b, b < base → w7.heap[b]? = (wd.alloc (.cells #[.int .i64 sd, .int .i64 k] 41)).heap[b]? := fun b hb => hgrow1.block b (by simp only [World.size_alloc]; omega) (fun e => by have := (hownd.lt b e.symm).1; omega)
                        have hlive1 : CR27 D Qb g k h r sd (.slice qa ql qc) w7 := (hlive _).blocks (hbl D hdW) (hbl g hgW) (hbl Qb hqW)
                        refine ⟨⟨.inr hlive1⟩, seq_dropZ rfl ?_⟩
                        go_wp2
                        refine ⟨⟨.inr hlive1⟩, seq_dropZ rfl ?_⟩
                        have y3 := hlive1.x3
                        have y4 : w7.frozen? ⟨Qb, r, none⟩ = false := by
                          have hrw : w7.rowIs Qb 39 h qv := (HQ1.out.of_block (show wd.heap[Qb]? = _ by rw [← hwd]; rfl) |>.alloc (.cells #[.int .i64 sd, .int .i64 k] 41)).of_block (hbl Qb hqW)
                          exact hrw.frozen r
                        go_wp2
                        have hba : Below W6.heap.size W6 (wd.alloc (.cells #[.int .i64 sd, .int .i64 k] 41)) := bd.alloc bd.size _
                        refine ⟨⟨.inl rfl⟩, ?_⟩
                        · have e0 : (qv r).ownBlock = (Value.slice qa ql qc).ownBlock := by rw [HQV.out]
                          have haw8 : AwRow (w7.setCell ⟨Qb, r, none⟩ (.slice va (ql + 1) vc)) g n (F6 f k) := haw6.of_block (by rw [Below.heap_setCell _ _ _ _ HG'.out.gQ, hbl g hgW, hba.block g (by omega)])
                          have HL8 : LR f (some ⟨g, 0, none⟩) h n c5 T D Qb Ab base w (k + 1) (k + 1) (w7.setCell ⟨Qb, r, none⟩ (.slice va (ql + 1) vc)) :=
                            HL6.out.app HG'.out HQ1.out HQ2.out hrh HR.out Hs.out hba (by rw [Hle.out]; unfold encQ; rw [Hsd.out]; exact hown1) (by rw [e0]; exact hgrow1) (by rw [e0]; exact hat1)
                          refine hK9 _ _ (Met.intro (hJ9 _ _ ?_))
                          (repeat apply Exists.intro)
                          exact ⟨⟨haw8, HL8⟩, rfl⟩
                case rest =>
                  rename_i K10 ha10
                  clear ha8 haw4 HL4
                  obtain ⟨haw9, hl9⟩ := hcut
                  have HL9 : Hid (LR f (some ⟨g, 0, none⟩) h n c5 T D Qb Ab base w (k + 1) (k + 1) wc) := hl9
                  clear hl9
                  obtain ⟨qv, hq1, hq2⟩ := HL9.out.qs
                  have hqo := QL_owns hq2 hrh
                  obtain ⟨qa, qc, hqv⟩ := slice_ofQ hqo
                  have hql := headsA_length_le f (k + 1) r
                  have c1 := haw9.cell hlt (show 1 < 8 by omega)
                  have c5' := haw9.cell hlt (show 5 < 8 by omega)
                  have z5 := haw9.frozen (k * 8 + 5)
                  rw [F6_self] at c1 c5'
                  simp only [encAw, List.getElem?_cons_succ, List.getElem?_cons_zero] at c1 c5'
                  rw [HR.out] at c1
                  have c3 := hq1.cell hrh
                  have d1 := HL9.out.d1
                  obtain ⟨ql, hqle⟩ : ∃ ql, (headsA f (k + 1) r).length = ql := ⟨_, rfl⟩
                  rw [hqv, hqle] at c3
                  rw [hqle] at hql
                  have Hle : Hid ((headsA f (k + 1) r).length = ql) := hqle
                  clear hqv hqle hq1 hq2 hqo
                  have hqb : ql ≤ 4097 := by omega
                  refine ha10 _ _ ?_
                  clear ha10
                  have hC0 : CR28 D Qb g k h r (.slice qa ql qc) wc.drew := ⟨d1, c1, c3⟩
                  apply region_take (CR28 D Qb g k h r (.slice qa ql qc)) 15 [15] (by kernel_rfl) (by kernel_rfl) (by kernel_rfl) (by kernel_rfl) hC0
                  case hs =>
                    intro wx hx
                    obtain ⟨x0, x1, x3⟩ := hx
                    simp only [List.take_succ_cons, List.take_zero]
                    repeat still_step
                    exact wpStill_nil rfl
                  case ht =>
                    have hC2 : ∀ v, CR28 D Qb g k h r (.slice qa ql qc) (wc.setCell ⟨g, k * 8 + 5, none⟩ v).drew := fun v => ⟨(World.cell?_of_block (a := ⟨D, 1, none⟩) (Below.heap_setCell _ _ _ _ (fun e => HG'.out.gD e.symm))).trans d1, (World.cell?_setCell_other _ _ _ _ (by simp)).trans c1, (World.cell?_of_block (a := ⟨Qb, r, none⟩) (Below.heap_setCell _ _ _ _ (fun e => HG'.out.gQ e.symm))).trans c3⟩
                    have hC3 := hC2 (.int .i64 ((ql : Int) - 1))
                    clear hC2
                    refine seq_drop rfl ?_
                    go_wp2
                    have haw10 : AwRow (wc.setCell ⟨g, k * 8 + 5, none⟩ (.int .i64 ((ql : Int) - 1))).drew g n (FA f (k + 1)) := by
                      have e0 : (ql : Int) - 1 = queA f k := by unfold queA; rw [HR.out, Hle.out]
                      rw [e0]
                      exact (link_que haw9 hlt).of_block rfl
                    have HL10 : LR f (some ⟨g, 0, none⟩) h n c5 T D Qb Ab base w (k + 1) (k + 1) (wc.setCell ⟨g, k * 8 + 5, none⟩ (.int .i64 ((ql : Int) - 1))).drew := (HL9.out.setG HG'.out _ _).drew
                    refine ha6 _ _ ?_
                    go_wp2
                    go_roundw
                    case rel => exact ⟨k + 1, by omega, by go_num, fun _ => haw10, HL10⟩
                    case measure => simp [intOf]; omega
          · obtain rfl : k = n := by omega
            have HL : Hid (LR f ao5 h k c5 T D Qb Ab base w k k wr) := hlr
            have HA : Hid (0 < k → AwRow wr g k (FA f k)) := haw
            clear hlr haw
            by_cases hn0 : 0 < k
            · obtain ⟨hao, hgw, _⟩ := Hao.out hn0
              subst hao
              have haw := HA.out hn0
              have hi0 : (0 : Int) ≤ (k : Int) - 1 := by omega
              have hi1 : (k : Int) - 1 < k := by omega
              have g7 := haw.cell (show k - 1 < k by omega) (show 7 < 8 by omega)
              have f7 := haw.frozen ((k - 1) * 8 + 7)
              have hFA : FA f k (k - 1) = { f (k - 1) with que := queA f (k - 1), prev := prevA f (k - 1), next := nextA f k (k - 1) } := by
                unfold FA; rw [if_pos (by omega)]
              rw [hFA] at g7
              simp only [encAw, List.getElem?_cons_succ, List.getElem?_cons_zero] at g7
              have HG' : Hid (Gd w D Qb Ab g base) := HG.out hn0
              go_wp2
              go_ret
              refine ⟨D, rfl, k, f, _, Qb, Ab, g, c5, base, HS.out, fun _ => rfl, fun _ => ?_, HL.out.setG HG'.out _ _⟩
              obtain ⟨m, rfl⟩ : ∃ m, k = m + 1 := ⟨k - 1, by omega⟩
              exact link_end haw
            · have hn0' : k ≤ 0 := by omega
              clear hn0
              go_wp2
              go_ret
              exact ⟨D, rfl, k, f, _, Qb, Ab, g, c5, base, HS.out, fun hp => absurd hp (by omega), fun hp => absurd hp (by omega), HL.out⟩
end Go.Proofs.Ybulkbpqa
