import Derived.Test.YbulkcjygAddI
namespace Go.Proofs.Ybulkcjyg.Add
open Go.RowKit
set_option linter.unusedVariables false

set_option maxRecDepth 100000 in
set_option maxHeartbeats 8000000 in
theorem law_main (start kind mode parked : Int) (wb cr en qu : Bool) (p0 p1 p2 p3 p4 p5 p6 p7 : Int) (w : World)
    (hs0 : 0 ≤ start) (hs1 : start < 18446744073709551616) (hk0 : 0 ≤ kind) (hk1 : kind < 256) (hm0 : 0 ≤ mode) (hm1 : mode < 256) (hp0 : 0 ≤ parked) (hp1 : parked < 256)
    (hpre : ∀ p ∈ [p0, p1, p2, p3, p4, p5, p6, p7], 0 ≤ p ∧ p < 256) :
    Calls Yba.prog 5 #[.int .u64 start, .int .u8 kind, .int .u8 mode, .bool wb, .bool cr, .bool en, .bool qu, .agg #[.int .u8 p0, .int .u8 p1, .int .u8 p2, .int .u8 p3, .int .u8 p4, .int .u8 p5, .int .u8 p6, .int .u8 p7], .int .u8 parked] w fun e w' => e = .returned (.bool true) ∧ Below w.heap.size w w' := by
  go_enter Yba.func5, Yba.ntmps5
  go_upto_if 55 with fail
  go_cut [] from 56 to 60 (fun wd => ∃ wt, WtOk wb wt ∧ IsT wd (w.heap.size + 1 + 1) wt (.slice none 0 0) ∧ Fx w.heap.size w wd w.heap.size (w.heap.size + 1) #[.int .u8 p0, .int .u8 p1, .int .u8 p2, .int .u8 p3, .int .u8 p4, .int .u8 p5, .int .u8 p6, .int .u8 p7] (mode % 2) (kind % 4))
  case first => as_aux_lemma =>
    cases wb
    · go_wp2
      go_meet
      case rel => exact ⟨_, .inl ⟨rfl, rfl⟩, ⟨_, blk_n2 _ _ _ _, rfl, rfl⟩, fx3 _ _ _ _ _⟩
    · go_wp2
      go_meet
      case rel =>
        exact ⟨_, .inr ⟨rfl, _, rfl⟩, ⟨_, blk_past (blk_n2 _ _ _ _) _, rfl, rfl⟩, (fx3 _ _ _ _ _).trn ((Trn.refl _ [] _).alloc (by simp; omega) _) (by simp) (by simp)⟩
  case rest =>
    rename World => W1
    obtain ⟨wt, hwt, hT, hfx⟩ := hcut
    have hB1 : w.heap.size ≤ W1.heap.size := hfx.bel.size
    obtain ⟨np, hnp⟩ : ∃ np : Nat, parked % 4 = (np : Int) := ⟨(parked % 4).toNat, by omega⟩
    have hnp4 : np < 4 := by omega
    obtain ⟨i58, hi58, hz0, hz1, hz2⟩ := i58
    go_wp2
    simp only [hnp]
    go_loopw [24] (fun i wr => ∃ j : Nat, j ≤ np ∧ i = .int .i64 j ∧ ∃ vp, IsT wr (w.heap.size + 1 + 1) wt vp ∧ wr.ownsRow w.heap.size 58 5 vp j (pk j) ∧ Trn w.heap.size [42, 58] W1 wr) (fun i _ => np - (intOf i).toNat)
    case atStart => exact ⟨0, Nat.zero_le _, rfl, _, hT, World.ownsRow_nil _ _ _ _, Trn.refl _ _ _⟩
    case round =>
      obtain ⟨j, hj, rfl, vp, hT', hown, htr⟩ := hrel
      by_cases hlt : j < np
      · obtain ⟨vo, vc, hv⟩ := row_shape hown
        subst hv
        have h9 := hT'.c9
        have hf := hT'.frz 9
        have hTl := hT'.lt
        have hB2 : w.heap.size ≤ wr.heap.size := Nat.le_trans hB1 htr.le
        have e1 : IntKind.i64.wrap (100 + (j : Int)) = 100 + (j : Int) := by rw [IntKind.wrap_i64]; omega
        go_wp2_with (at_builtin; refine wpList_append_lies _ ?_ (.tmp 73) (.tmp 79) 40 ?_ w.heap.size 58 i58 _ 5 32 Yba.underlying40 hi58 hz0 hz1 hz2 rfl (by decide) (.slice vo j vc) j (pk j) ?_ ?_ ⟨wr.heap.size, 0, none⟩ 1 1 [.pointer none, .pointer none, .int .u8 0, .int .u8 0, .int .u64 (100 + (j : Int))] ?_ ?_ ?_ ?_ (by decide) ?_ ?_ ?_ _ rfl ?_; rfl; rfl; rfl; (focus exact hown.alloc _); rfl; rfl; (focus exact World.news_of_block (cs := #[.pointer none, .pointer none, .int .u8 0, .int .u8 0, .int .u64 (100 + (j : Int))]) (t := 58) (fr := (0, 0)) (blk_new _ _)); (focus (intro u hu; simp at hu; rcases hu with rfl | rfl | rfl | rfl | rfl <;> rfl)); (focus (unfold maxLen; omega)); (focus omega); (focus (simp; omega)); intro gg cap w1 hown1 hgrow hat hlt1; have ht1 := ((Turn.refl (fun b => (Value.slice vo j vc).ownBlock = some b) wr).alloc _).grown hgrow (fun b hb => hb); have hT1 := hT'.far hown (by decide) ht1; have h9' := hT1.c9; have hf' := hT1.frz 9; have hlt2 := hT1.lt)
        go_roundw
        case rel => exact ⟨j + 1, by omega, by go_num, _, hT1.set9 _, hT1.row hown1 (by decide) _, htr.trans (t_push hB2 (by omega) hT1 hown ht1)⟩
        case measure => simp [intOf]; omega
      · have ej : np = j := by omega
        subst ej
        have hB2 : w.heap.size ≤ wr.heap.size := Nat.le_trans hB1 htr.le
        replace hfx := hfx.trn htr (by decide) (by decide)
        clear hT htr hB1 hi58 hz0 hz1 hz2
        clear i58
        go_upto_if 86 with fail
        go_cut [] from 87 to 91 (fun wd => ∃ qp, IsE wd wr.heap.size en (.pointer none) qp ∧ Queue w.heap.size wd qu qp ∧ Trn w.heap.size [] wr wd)
        case first => as_aux_lemma =>
          cases qu
          · go_wp2
            go_meet
            case rel => exact ⟨_, ⟨_, blk_new _ _, rfl, rfl, rfl⟩, .inl ⟨rfl, rfl⟩, (Trn.refl _ _ _).alloc hB2 _⟩
          · go_wp2
            go_meet
            case rel => exact ⟨_, ⟨_, blk_past (blk_new _ _) _, rfl, rfl, rfl⟩, .inr ⟨rfl, _, _, rfl, blk_n1 _ _ _, rfl, rfl, by omega⟩, ((Trn.refl _ _ _).alloc hB2 _).alloc (by simp; omega) _⟩
        case rest =>
          rename World => W3
          obtain ⟨qp, hE, hQ, htr⟩ := hcut
          have hB3 : w.heap.size ≤ W3.heap.size := Nat.le_trans hB2 htr.le
          obtain ⟨Eb, hEb⟩ : ∃ Eb, wr.heap.size = Eb := ⟨_, rfl⟩
          have hBE : w.heap.size ≤ Eb := by omega
          rw [hEb] at hE
          replace hT' := hT'.trn htr (by decide)
          replace hown := row_trn hown htr (by decide)
          replace hfx := hfx.trn htr (by decide) (by decide)
          clear htr hB2
          simp only [hEb]
          have hL0 := cell_blk (i := 0) hfx.lock rfl
          have hL1 := cell_blk (i := 1) hfx.lock rfl
          have hLl := blk_lt hfx.lock
          have hEl := hE.lt
          go_upto_if 95 with fail
          go_cut [] from 96 to 104 (fun wd => ∃ cp, IsE wd Eb en cp qp ∧ Crowd w.heap.size wd cr cp (w.heap.size + 1 + 1) (mode % 2) (kind % 4) (-1) ∧ Trn w.heap.size [67] W3 wd ∧ wd.heap[W3.heap.size]? = some (.cells #[.pointer (some ⟨w.heap.size + 1 + 1, 0, none⟩), .int .u8 (mode % 2), .int .u8 (kind % 4)] 54 (0, 0)))
          case first => as_aux_lemma =>
            have ht0 : Trn w.heap.size [67] W3 (W3.alloc (.cells #[.pointer (some ⟨w.heap.size + 1 + 1, 0, none⟩), .int .u8 (mode % 2), .int .u8 (kind % 4)] 54)) := (Trn.refl _ _ _).alloc hB3 _
            have hH0 := blk_new W3 (.cells #[.pointer (some ⟨w.heap.size + 1 + 1, 0, none⟩), .int .u8 (mode % 2), .int .u8 (kind % 4)] 54)
            cases cr
            · go_wp2
              go_meet
              case rel => exact ⟨_, hE.trn (ts := []) ((Trn.refl w.heap.size _ _).alloc hB3 _) (by simp), .inl ⟨rfl, rfl⟩, ht0, hH0⟩
            · obtain ⟨o, hrun, hone⟩ := run_first (a := ⟨w.heap.size + 1 + 1, 0, none⟩) (m := mode % 2) (k := kind % 4) (blk_n1 W3 (.cells #[.pointer (some ⟨w.heap.size + 1 + 1, 0, none⟩), .int .u8 (mode % 2), .int .u8 (kind % 4)] 54) (.map #[] 0)) (.agg #[.int .i32 3, .int .i32 (-1)])
              obtain ⟨wm, hwm⟩ : ∃ wm, wm = setM ((W3.alloc (.cells #[.pointer (some ⟨w.heap.size + 1 + 1, 0, none⟩), .int .u8 (mode % 2), .int .u8 (kind % 4)] 54)).alloc (.map #[] 0)) (W3.heap.size + 1) o := ⟨_, rfl⟩
              rw [← hwm] at hrun hone
              have htm : Turn (fun b => b = W3.heap.size + 1) W3 wm := by
                rw [hwm]
                exact (((Turn.refl _ W3).alloc _).alloc _).setM _ _ rfl
              have htm2 : Trn w.heap.size [] W3 wm := Trn.of_turn htm hB3 (by
                rintro b rfl
                exact ⟨by omega, fun o ho => by have := blk_lt ho; omega⟩)
              have hHm : wm.heap[W3.heap.size]? = some (.cells #[.pointer (some ⟨w.heap.size + 1 + 1, 0, none⟩), .int .u8 (mode % 2), .int .u8 (kind % 4)] 54 (0, 0)) := by
                rw [hwm, setM_other _ _ _ (by omega)]
                exact blk_past hH0 _
              have hEm := hE.trn htm2 (by simp)
              have hE7 := hEm.c7
              have hEml := hEm.lt
              have hEf : wm.frozen? ⟨Eb, 7, none⟩ = false := by obtain ⟨c, hc, _⟩ := hEm; exact frz_blk hc 7
              have hms : W3.heap.size + 1 + 1 = wm.heap.size := by rw [hwm, setM_size]; simp
              clear hwm
              have hmm := @run_makeMap Yba.prog
              go_wp2
              go_meet
              case rel =>
                obtain ⟨c1, c2, c3⟩ := crowd_new (B := w.heap.size) hEm (by omega) (by omega) (by omega) hone #[.int .i32 0, .int .i32 0, .int .i32 0, .int .i32 0, .int .i32 0, .int .i32 0, .int .i32 0, .int .i32 0, .int .u64 0, .int .u64 0, .int .u64 0, .int .u64 0, .int .u64 0, .int .u64 0, .int .u64 0, .int .u64 0, .slice none 0 0, .int .i32 0, .map (some (W3.heap.size + 1))] rfl
                exact ⟨_, c1, c2, (htm2.wide (by simp)).trans c3, c3.at hHm (by simp [knd])⟩
          case rest =>
            rename World => W4
            obtain ⟨cp, hE, hC, htr, hH⟩ := hcut
            have hB4 : w.heap.size ≤ W4.heap.size := Nat.le_trans hB3 htr.le
            obtain ⟨Hb, hHb⟩ : ∃ Hb, W3.heap.size = Hb := ⟨_, rfl⟩
            rw [hHb] at hH
            replace hT' := hT'.trn htr (by decide)
            replace hown := row_trn hown htr (by decide)
            replace hfx := hfx.trn htr (by decide) (by decide)
            replace hQ := hQ.trn htr (by decide)
            clear htr hB3 hL0 hL1 hLl hEl
            simp only [hHb]
            have hpz : ∀ i, i < 8 → (#[.int .u8 p0, .int .u8 p1, .int .u8 p2, .int .u8 p3, .int .u8 p4, .int .u8 p5, .int .u8 p6, .int .u8 p7] : Array Value)[i]? = some (.int .u8 ([p0, p1, p2, p3, p4, p5, p6, p7].getD i 0)) ∧ 0 ≤ [p0, p1, p2, p3, p4, p5, p6, p7].getD i 0 ∧ [p0, p1, p2, p3, p4, p5, p6, p7].getD i 0 < 256 := by
              intro i hi
              have : i = 0 ∨ i = 1 ∨ i = 2 ∨ i = 3 ∨ i = 4 ∨ i = 5 ∨ i = 6 ∨ i = 7 := by omega
              rcases this with rfl | rfl | rfl | rfl | rfl | rfl | rfl | rfl <;> exact ⟨rfl, hpre _ (by simp)⟩
            obtain ⟨pz, hpzd⟩ : ∃ pz : Nat → Int, pz = fun i => [p0, p1, p2, p3, p4, p5, p6, p7].getD i 0 := ⟨_, rfl⟩
            replace hpz : ∀ i, i < 8 → (#[.int .u8 p0, .int .u8 p1, .int .u8 p2, .int .u8 p3, .int .u8 p4, .int .u8 p5, .int .u8 p6, .int .u8 p7] : Array Value)[i]? = some (.int .u8 (pz i)) ∧ 0 ≤ pz i ∧ pz i < 256 := by rw [hpzd]; exact hpz
            clear hpzd hpre
            obtain ⟨F, hF⟩ : ∃ F : Nat → Nat, ∀ i, i < 8 → pz i % 5 = (F i : Int) ∧ F i < 5 := ⟨fun i => (pz i % 5).toNat, fun i hi => by have := hpz i hi; dsimp only; omega⟩
            obtain ⟨i56, hi56, hz0, hz1, hz2⟩ := i56
            go_wp2
            go_loopw [29] (fun i wr => ∃ j : Nat, j ≤ 8 ∧ i = .int .i64 j ∧ Lp w.heap.size W4 wr W4.heap.size (W4.heap.size + 1) start F j 0 j) (fun i _ => 8 - (intOf i).toNat)
            case atStart => exact ⟨0, by omega, rfl, lp_start hB4 start F⟩
            case round =>
              obtain ⟨j, hj, rfl, hlp⟩ := hrel
              by_cases hl8 : j < 8
              · --SKIP
                have hl8i : (j : Int) < 8 := by omega
                obtain ⟨hFj, hF5⟩ := hF j hl8
                obtain ⟨hpj, hpj0, hpj1⟩ := hpz j hl8
                have hfr := hfx.trn hlp.trn (by decide) (by decide)
                have hpc := cell_blk hfr.pre hpj
                have hpl := blk_lt hfr.pre
                have hlc := hlp.lens.ci hl8
                have hlf := hlp.lens.frz j
                have hll := hlp.lens.lt
                have hBr : w.heap.size ≤ wr.heap.size := Nat.le_trans hB4 hlp.trn.le
                go_upto_region 24 with fail
                simp only [hFj]
                go_wp2
                go_loopw [31] (fun i wr2 => ∃ q : Nat, q ≤ F j ∧ i = .int .i64 q ∧ Lp w.heap.size W4 wr2 W4.heap.size (W4.heap.size + 1) start F j q (j + 1)) (fun i _ => F j - (intOf i).toNat)
                case atStart => exact ⟨0, by omega, rfl, lp_len hl8 hBr (by omega) hlp⟩
                case round =>
                  rename World => wq
                  obtain ⟨q, hq, rfl, hlq⟩ := hrel
                  clear hlp hfr hpc hpl hlc hlf hll hBr
                  by_cases hqF : q < F j
                  · have hBq : w.heap.size ≤ wq.heap.size := Nat.le_trans hB4 hlq.trn.le
                    obtain ⟨V, hS, hR⟩ := hlq.rows
                    have hown := hR.1 j hl8
                    obtain ⟨vo, vc, hv⟩ := row_shape hown
                    have hci := hS.ci hl8
                    have hfz := hS.frz j
                    have hSl := hS.lt
                    have hv' := hv
                    simp only [fjq_at] at hv' hown
                    rw [hv'] at hci hown
                    have hww : IntKind.u64.wrap (q : Int) = (q : Int) := by rw [IntKind.wrap_u64]; omega
                    go_upto_region 28 with fail
                    go_region_law (refine step_append_lies _ rfl (.tmp 132) (.tmp 136) 85 rfl w.heap.size 56 i56 _ 4 24 Yba.underlying85 hi56 hz0 hz1 hz2 rfl (by decide) (.slice vo q vc) q (gr q) (by simp [Act.eval]) (row_of hown ?_) ⟨wq.heap.size, 0, none⟩ 1 1 [.pointer none, .int .u8 0, .int .u8 0, .int .u64 (q : Int)] (by simp [Act.eval]) rfl ?_ ?_ (by decide) ?_ ?_ ?_ _ rfl ?_; (focus (intro b hb; exact (turn1 (fun _ => False) wq _).block b (hown.lt b hb).2 (fun h => h))); (focus exact World.news_of_block (cs := #[.pointer none, .int .u8 0, .int .u8 0, .int .u64 (q : Int)]) (t := 56) (fr := (0, 0)) (blk_new1 _ _)); (focus (intro u hu; simp at hu; rcases hu with rfl | rfl | rfl | rfl <;> rfl)); (focus (unfold maxLen; omega)); (focus omega); (focus exact Nat.le_trans hBq (turn1 (fun _ => False) wq _).size); intro gg cap w2 hown1 hgrow hat hlt1; have ht1 := (turn1 (fun b => (Value.slice vo q vc).ownBlock = some b) wq _).grown hgrow (fun b hb => hb); have hS1 := hS.far hown (by decide) ht1; have hci' := hS1.ci hl8; have hfz' := hS1.frz j; have hlt2 := hS1.lt)
                    all_goals
                      go_wp2
                      go_roundw
                      case rel => exact ⟨q + 1, by omega, by go_num, lp_push hBq (by omega) hS1 hR hl8 hv' hown1 ht1 hat hlq⟩
                      case measure => simp [intOf]; omega
                  · obtain rfl : q = F j := by omega
                    go_wp2
                    go_roundw
                    case rel => exact ⟨j + 1, by omega, by go_num, lp_next hlq⟩
                    case measure => simp [intOf]; omega
                --POP
              · obtain rfl : j = 8 := by omega
                clear hi56 hz0 hz1 hz2
                clear i56
                obtain ⟨V, hS, hR⟩ := hlp.rows
                have hlens := hlp.lens
                have htr := hlp.trn
                have hBr : w.heap.size ≤ wr.heap.size := Nat.le_trans hB4 htr.le
                obtain ⟨G, hGd⟩ : ∃ G, fjq F 8 0 = G := ⟨_, rfl⟩
                have hG5 : ∀ i, i < 8 → G i < 5 := fun i hi => by rw [← hGd]; simp only [fjq, if_pos hi]; exact (hF i hi).2
                rw [hGd] at hlens
                simp only [hGd] at hR
                obtain ⟨S, hSd⟩ : ∃ S, W4.heap.size = S := ⟨_, rfl⟩
                obtain ⟨Ln, hLd⟩ : ∃ Ln, W4.heap.size + 1 = Ln := ⟨_, rfl⟩
                obtain ⟨T, hTd⟩ : ∃ T, w.heap.size + 1 + 1 = T := ⟨_, rfl⟩
                obtain ⟨L, hLkd⟩ : ∃ L, w.heap.size + 1 = L := ⟨_, rfl⟩
                obtain ⟨k, hkd⟩ : ∃ k, kind % 4 = k := ⟨_, rfl⟩
                obtain ⟨m, hmd⟩ : ∃ m, mode % 2 = m := ⟨_, rfl⟩
                have hk0' : 0 ≤ k := by omega
                have hk4 : k < 4 := by omega
                have hm0' : 0 ≤ m := by omega
                have hm2 : m < 2 := by omega
                have hBS : w.heap.size ≤ S := by omega
                have hBT : w.heap.size ≤ T := by omega
                obtain ⟨typ, htyp⟩ : ∃ typ : Nat, k * 2 + m = (typ : Int) := ⟨(k * 2 + m).toNat, by omega⟩
                have ht8 : typ < 8 := by omega
                rw [hLd] at hlens
                rw [hSd] at hS
                rw [hTd, hkd, hmd] at hH hC
                rw [hTd] at hT'
                rw [hLkd, hkd, hmd] at hfx
                have hst : St w.heap.size wr T Eb S wt en cr qu m k (-1) start np (pk np) G (fun t => gr (G t)) := ⟨⟨vp, hT'.trn htr (by decide), row_trn hown htr (by decide)⟩, ⟨V, hS, hR⟩, ⟨cp, qp, hE.trn htr (by decide), hC.trn htr (by decide) (by decide), hQ.trn htr (by decide)⟩, hBr, hBT, hBS⟩
                replace hfx := hfx.trn htr (by decide) (by decide)
                replace hH := htr.at hH (by simp [knd])
                simp only [hLd, hTd]
                simp only [hSd, hLkd, hkd, hmd]
                clear hlp hR hS hT' hown hE hC hQ htr hF hpz hGd
                have hH0 := cell_blk (i := 0) hH rfl
                have hH1 := cell_blk (i := 1) hH rfl
                have hH2 := cell_blk (i := 2) hH rfl
                have hHl := blk_lt hH
                go_upto_region 30 with (go_at_call 8; refine (add_all w.heap.size T Eb S wt wb en cr qu m k start np (pk np) G (fun t => gr (G t)) typ _ hst hwt hm0' hm2 hk0' hk4 htyp (hG5 typ ht8) hnp4).mono ?_; rintro e w7 ⟨rfl, hst7, htr7⟩)
                have hB7 : w.heap.size ≤ w7.heap.size := hst7.hB
                replace hlens := hlens.trn htr7 (by decide)
                replace hfx := hfx.trn htr7 (by decide) (by decide)
                replace hH := htr7.at hH (by simp [knd])
                clear hst htr7 hH0 hH1 hH2 hHl
                have hc8 : w7.cell? ⟨S, 8, none⟩ = some (.int .u64 (IntKind.u64.wrap (start + 1))) := by obtain ⟨V, hS, _⟩ := hst7.s; exact hS.c8
                have hSl : S < w7.heap.size := by obtain ⟨V, hS, _⟩ := hst7.s; exact hS.lt
                go_upto_region 34 with fail
                go_cut [34] from 160 to 165 (fun s34 wd => s34 = .bool (isPark k wb) ∧ w7 = wd)
                case first => as_aux_lemma =>
                  by_cases hk3 : k = 3
                  · have hkb : (k == 3) = true := by simp [hk3]
                    cases wb
                    all_goals
                      go_wp2
                      go_meet
                      case rel => exact ⟨by simp [isPark, isSkip, hk3], rfl⟩
                  · have hkb : (k == 3) = false := by simp [hk3]
                    cases wb
                    all_goals
                      go_wp2
                      go_meet
                      case rel => exact ⟨by simp [isPark, isSkip, hk3], rfl⟩
                case rest =>
                  obtain ⟨rfl, rfl⟩ := hcut
                  go_upto_region 35 with fail
                  go_cut [35] from 166 to 170 (fun s35 wd => s35 = .bool (isPut k wb) ∧ w7 = wd)
                  case first => as_aux_lemma =>
                    by_cases hk3 : k = 3
                    · have hkb : (k == 3) = true := by simp [hk3]
                      cases wb
                      all_goals
                        go_wp2
                        go_meet
                        case rel => exact ⟨by simp [isPut, isSkip, hk3], rfl⟩
                    · have hkb : (k == 3) = false := by simp [hk3]
                      cases wb
                      all_goals
                        go_wp2
                        go_meet
                        case rel => exact ⟨by simp [isPut, isSkip, hk3], rfl⟩
                  case rest =>
                    obtain ⟨rfl, rfl⟩ := hcut
                    clear hc8 hSl
                    have hn31 := neq31 m k
                    have hn32 := neq32 ⟨T, 0, none⟩
                    have hn45 := neq45 ⟨Eb, 0, none⟩
                    obtain ⟨pa, hpa⟩ : ∃ pa, isPark k wb = pa := ⟨_, rfl⟩
                    obtain ⟨pu, hpu⟩ : ∃ pu, isPut k wb = pu := ⟨_, rfl⟩
                    simp only [hpa, hpu]
                    go_wp2
                    go_loopw [36] (fun i wr => ∃ j : Nat, j ≤ 8 ∧ i = .int .i64 j ∧ Trn w.heap.size [] w7 wr) (fun i _ => 8 - (intOf i).toNat)
                    case atStart => exact ⟨0, by omega, rfl, Trn.refl _ _ _⟩
                    case round =>
                      rename World => w8
                      obtain ⟨j, hj, rfl, htr8⟩ := hrel
                      by_cases hl8 : j < 8
                      · --SKIP
                        have hl8i : (j : Int) < 8 := by omega
                        have hst8 := hst7.trn htr8
                        have hlens8 := hlens.trn htr8 (by decide)
                        have hlc := hlens8.ci hl8
                        have hll := hlens8.lt
                        have hSl : S < w8.heap.size := by obtain ⟨V, hS, _⟩ := hst8.s; exact hS.lt
                        have hGj := hG5 j hl8
                        obtain ⟨vo, vc, hcS, hcq, hcl⟩ := st_row hst8 hl8
                        go_upto_region 40 with fail
                        go_cut [183] from 178 to 183 (fun s wd => s = .bool (isLast k wb typ j) ∧ w8 = wd)
                        case first => as_aux_lemma =>
                          cases pu
                          · go_wp2
                            go_meet
                            case rel => exact ⟨by simp [isLast, hpu], rfl⟩
                          · go_wp2
                            go_meet
                            case rel => exact ⟨by rw [isLast, hpu, ibeq]; rfl, rfl⟩
                        case rest =>
                          obtain ⟨rfl, rfl⟩ := hcut
                          obtain ⟨la, hla⟩ : ∃ la, isLast k wb typ j = la := ⟨_, rfl⟩
                          simp only [hla] at hcS hcl
                          simp only [hla]
                          go_upto_if 183 with fail
                          go_cut [37] from 184 to 185 (fun s wd => s = .int .i64 ((bif la then G j + 1 else G j : Nat) : Int) ∧ w8 = wd)
                          case first => as_aux_lemma =>
                            cases la
                            · go_wp2
                              go_meet
                              case rel => exact ⟨rfl, rfl⟩
                            · go_wp2
                              go_meet
                              case rel => exact ⟨by go_num, rfl⟩
                          case rest =>
                            obtain ⟨rfl, rfl⟩ := hcut
                            have hpl : (pu && decide (j = typ)) = la := by rw [← hla, isLast, hpu]
                            go_wp2
                            go_loopw [38] (fun i wr => ∃ q : Nat, q ≤ G j ∧ i = .int .i64 q ∧ w8 = wr) (fun i _ => G j - (intOf i).toNat)
                            case atStart => exact ⟨0, by omega, rfl, rfl⟩
                            case round =>
                              obtain ⟨q, hq, rfl, rfl⟩ := hrel
                              by_cases hqG : q < G j
                              · obtain ⟨b, rfl, hbl, hc0, hc3⟩ := hcq q hqG
                                have hqn : q < (bif la then G j + 1 else G j) := by cases la <;> simp <;> omega
                                have hww : IntKind.u64.wrap (q : Int) = (q : Int) := by rw [IntKind.wrap_u64]; omega
                                go_wp2
                                go_roundw
                                case rel => exact ⟨q + 1, by omega, by go_num, by first | rfl | trivial⟩
                                case measure => simp [intOf]; omega
                              · obtain rfl : q = G j := by omega
                                have hBw : w.heap.size ≤ w8.heap.size := hst8.hB
                                cases pu
                                · obtain rfl : la = false := by simpa using hpl.symm
                                  go_wp2
                                  go_roundw
                                  case rel => exact ⟨j + 1, by omega, by go_num, htr8⟩
                                  case measure => simp [intOf]; omega
                                · by_cases hjt : j = typ
                                  · obtain rfl : la = true := by rw [← hpl]; simp [hjt]
                                    subst hjt
                                    obtain ⟨b, rfl, hbl, hd0, hd1, hd2, hd3⟩ := hcl rfl
                                    have hww : IntKind.i64.wrap (G j : Int) = (G j : Int) := by rw [IntKind.wrap_i64]; omega
                                    have hfl := hfx.trn htr8 (by decide) (by decide)
                                    have hL0 := cell_blk (i := 0) hfl.lock rfl
                                    have hL1 := cell_blk (i := 1) hfl.lock rfl
                                    have hLl := blk_lt hfl.lock
                                    have hgl : G j < G j + 1 := by omega
                                    simp only [cond_true] at hcS
                                    simp only [cond_true]
                                    go_wp2
                                    go_roundw
                                    case rel => exact ⟨j + 1, by omega, by go_num, htr8.alloc hBw _⟩
                                    case measure => simp [intOf]; omega
                                  · obtain rfl : la = false := by rw [← hpl]; simp [hjt]
                                    have hjb : ((j : Int) == (typ : Int)) = false := by rw [ibeq]; simp [hjt]
                                    go_wp2
                                    go_roundw
                                    case rel => exact ⟨j + 1, by omega, by go_num, htr8⟩
                                    case measure => simp [intOf]; omega
                        --POP
                      · obtain rfl : j = 8 := by omega
                        have hst8 := hst7.trn htr8
                        clear hst7
                        obtain ⟨vo, vc, hcT, hcq, hcl⟩ := st_par hst8
                        obtain ⟨n', hn'⟩ : ∃ n', nA k wb np = n' := ⟨_, rfl⟩
                        rw [hn'] at hcT
                        have hTl : T < w8.heap.size := by obtain ⟨vp, hT, _⟩ := hst8.t; exact hT.lt
                        have hBw : w.heap.size ≤ w8.heap.size := hst8.hB
                        go_upto_if 264 with fail
                        go_cut [40] from 265 to 266 (fun s wd => s = .int .i64 (n' : Int) ∧ w8 = wd)
                        case first => as_aux_lemma =>
                          cases pa
                          · go_wp2
                            go_meet
                            case rel => exact ⟨by rw [← hn', nA, hpa]; rfl, rfl⟩
                          · go_wp2
                            go_meet
                            case rel => exact ⟨by rw [← hn', nA, hpa]; go_num, rfl⟩
                        case rest =>
                          obtain ⟨rfl, rfl⟩ := hcut
                          go_wp2
                          go_loopw [41] (fun i wr => ∃ q : Nat, q ≤ np ∧ i = .int .i64 q ∧ w8 = wr) (fun i _ => np - (intOf i).toNat)
                          case atStart => exact ⟨0, by omega, rfl, rfl⟩
                          case round =>
                            obtain ⟨q, hq, rfl, rfl⟩ := hrel
                            by_cases hqG : q < np
                            · obtain ⟨b, rfl, hbl, hc0, hc3⟩ := hcq q hqG
                              have hqn : q < n' := by rw [← hn']; unfold nA; cases isPark k wb <;> simp <;> omega
                              have hww : IntKind.u64.wrap (100 + (q : Int)) = 100 + (q : Int) := by rw [IntKind.wrap_u64]; omega
                              have hwi : IntKind.i64.wrap (100 + (q : Int)) = 100 + (q : Int) := by rw [IntKind.wrap_i64]; omega
                              go_wp2
                              go_roundw
                              case rel => exact ⟨q + 1, by omega, by go_num, by first | rfl | trivial⟩
                              case measure => simp [intOf]; omega
                            · have eq : np = q := by omega
                              subst eq
                              clear hcq
                              go_upto_if 303 with fail
                              go_cut [42] from 304 to 338 (fun s wd => Trn w.heap.size [] w8 wd)
                              case first => as_aux_lemma =>
                                cases pa
                                · go_wp2
                                  go_meet
                                  case rel => exact Trn.refl _ _ _
                                · obtain ⟨b, rfl, hbl, hd0, hd1, hd2, hd3, hd4⟩ := hcl hpa
                                  obtain rfl : n' = np + 1 := by rw [← hn', nA, hpa]; rfl
                                  have hww : IntKind.i64.wrap (np : Int) = (np : Int) := by rw [IntKind.wrap_i64]; omega
                                  have hfl := hfx.trn htr8 (by decide) (by decide)
                                  have hL0 := cell_blk (i := 0) hfl.lock rfl
                                  have hL1 := cell_blk (i := 1) hfl.lock rfl
                                  have hLl := blk_lt hfl.lock
                                  have hgl : np < np + 1 := by omega
                                  go_wp2
                                  go_meet
                                  case rel => exact (Trn.refl _ _ _).alloc hBw _
                              case rest =>
                                rename World => w9
                                have htr9 := hcut
                                clear hcut hcT hcl hTl
                                replace hst8 := hst8.trn htr9
                                have hB9 : w.heap.size ≤ w9.heap.size := hst8.hB
                                obtain ⟨cp, qp, hE, hC, hQ⟩ := hst8.e
                                have hEl := hE.lt
                                have hE7 := hE.c7
                                have hE8 := hE.c8
                                replace hlens := (hlens.trn htr8 (by decide)).trn htr9 (by decide)
                                replace hH := htr9.at (htr8.at hH (by simp)) (by simp)
                                go_upto_if 339 with fail
                                go_cut [43, 44, 45] from 340 to 375 (fun s43 s44 s45 wd => Trn w.heap.size [] w9 wd)
                                case first => as_aux_lemma =>
                                  rcases hC with ⟨rfl, rfl⟩ | ⟨rfl, bc, bm, c, rfl, hc1, hc2, hc3, hc4⟩
                                  · go_wp2
                                    go_meet
                                    case rel => exact Trn.refl _ _ _
                                  · obtain ⟨x, hx⟩ : ∃ x, xA k wb true en (G typ) = x := ⟨_, rfl⟩
                                    rw [hx] at hc4
                                    have hc18 := cell_blk hc1 hc2
                                    have hcl := blk_lt hc1
                                    have hml := hc4.lt
                                    have hH0 := cell_blk (i := 0) hH rfl
                                    have hH1 := cell_blk (i := 1) hH rfl
                                    have hH2 := cell_blk (i := 2) hH rfl
                                    have hHl := blk_lt hH
                                    have hlc := hlens.ci ht8
                                    have hll := hlens.lt
                                    have ht8i : (typ : Int) < 8 := by omega
                                    have hGt := hG5 typ ht8
                                    have hwi : IntKind.i32.wrap (G typ : Int) = (G typ : Int) := by rw [IntKind.wrap_i32]; omega
                                    have q0 : (Instr.lookup 79 (.map (some bm)) (.agg #[.pointer (some ⟨T, 0, none⟩), .int .u8 m, .int .u8 k]) true).run Yba.prog w9.drew = .ok (.tuple #[.agg #[.int .i32 3, .int .i32 x], .bool true]) w9.drew := run_lookup (hc4.of rfl)
                                    have q1 : ∀ o1 : Obj, (Instr.lookup 79 (.map (some bm)) (.agg #[.pointer (some ⟨T, 0, none⟩), .int .u8 m, .int .u8 k]) true).run Yba.prog (w9.alloc o1).drew = .ok (.tuple #[.agg #[.int .i32 3, .int .i32 x], .bool true]) (w9.alloc o1).drew := fun o1 => run_lookup (hc4.of ((Turn.refl (fun _ => False) w9).alloc o1 |>.drew.block bm hml (fun h => h)))
                                    rw [xA, hpu] at hx
                                    go_upto_region 68 with fail
                                    go_region
                                    all_goals
                                      cases pu
                                      · obtain rfl : x = -1 := by rw [← hx]; rfl
                                        go_wp2
                                        go_meet
                                        case rel => exact ((Trn.refl _ _ _).alloc hB9 _).drew
                                      · cases en
                                        · by_cases hk1 : k = 1
                                          · have hkb : (k == 1) = true := by simp [hk1]
                                            obtain rfl : x = (G typ : Int) := by rw [← hx]; simp [plc, hk1]
                                            go_wp2
                                            go_meet
                                            case rel => exact ((Trn.refl _ _ _).alloc hB9 _).drew
                                          · have hkb : (k == 1) = false := by simp [hk1]
                                            obtain rfl : x = -1 := by rw [← hx, plc, hkb]; rfl
                                            go_wp2
                                            go_meet
                                            case rel => exact ((Trn.refl _ _ _).alloc hB9 _).drew
                                        · obtain rfl : x = -1 := by rw [← hx]; rfl
                                          go_wp2
                                          go_meet
                                          case rel => exact ((Trn.refl _ _ _).alloc hB9 _).drew
                                case rest =>
                                  rename World => w10
                                  have htr10 := hcut
                                  clear hcut
                                  replace hE := hE.trn htr10 (by simp)
                                  replace hQ := hQ.trn htr10 (by simp)
                                  have hbel : Below w.heap.size w w10 := ((hfx.bel.trans htr8.below).trans htr9.below).trans htr10.below
                                  clear hE7 hE8
                                  have hE8 := hE.c8
                                  have hEl := hE.lt
                                  rcases hQ with ⟨rfl, rfl⟩ | ⟨rfl, bq, c, rfl, hq1, hq2, hq3, hq4⟩
                                  · go_wp2
                                    go_ret
                                    exact ⟨rfl, hbel⟩
                                  · have hq35 := cell_blk hq1 hq2
                                    have hq36 := cell_blk hq1 hq3
                                    have hql := blk_lt hq1
                                    go_wp2
                                    go_ret
                                    exact ⟨rfl, hbel⟩
end Go.Proofs.Ybulkcjyg.Add
