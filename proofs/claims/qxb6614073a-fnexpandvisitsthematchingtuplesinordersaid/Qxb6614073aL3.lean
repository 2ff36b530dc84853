import Derived.Test.Qxb6614073aW6
namespace Go.Proofs.Qxb6614073a
open Go.RowKit
set_option linter.unusedVariables false
set_option linter.unusedSimpArgs false

set_option maxRecDepth 100000 in
set_option maxHeartbeats 4000000 in
theorem law3 (a0 a1 a2 : Option Addr) (n0 n1 n2 c0 c1 c2 : Nat) (r s : Nat → Nat) (A : Nat → Int) (sub : Nat) (lim : Int) (w : World) (h0 : Came .u64 w a0 n0 (fun i => (r i : Nat))) (h1 : Came .u64 w a1 n1 (fun i => (s i : Nat))) (h2 : Came .i64 w a2 n2 A) :
    Calls Try.prog 3 #[.slice a0 n0 c0, .slice a1 n1 c1, .slice a2 n2 c2, .int .u64 sub, .int .i64 lim] w fun e w' => e = .returned (.bool true) ∧ Below w.heap.size w w' := by
  have hB := bytes5 a0 a1 a2 n0 n1 n2 c0 c1 c2 sub lim w h0.1 h1.1 h2.1
  have HB := hide hB
  clear hB
  have m0 := h0.1
  have m1 := h1.1
  have m2 := h2.1
  unfold maxLen at m0 m1 m2
  obtain ⟨i24, hi24, hz20, hz21, hz22⟩ := info_parts info24
  obtain ⟨i3, hi3, hz30, hz31, hz32⟩ := info_parts info3
  obtain ⟨i4, hi4, hz40, hz41, hz42⟩ := info_parts info4
  have y22 := fun w a n c => run_neq_slice_nil_any (P := Try.prog) w 22 24 a n c 0 0 Try.underlying22
  have y23 := fun w a n c => run_neq_slice_nil_any (P := Try.prog) w 23 3 a n c 0 0 Try.underlying23
  go_enter Try.func3, Try.ntmps3
  go_wp2_with fail
  refine HB.out.mono ?_
  rintro e w' ⟨b, rfl, hw'⟩
  obtain rfl : w = w' := hw'.symm
  clear HB
  cases b with
  | false =>
    go_wp2
    go_ret
    exact ⟨rfl, Below.refl _ _⟩
  | true =>
  by_cases l0 : 4096 < n0
  · go_wp2
    go_ret
    exact ⟨rfl, Below.refl _ _⟩
  by_cases l1 : 4096 < n1
  · go_wp2
    go_ret
    exact ⟨rfl, Below.refl _ _⟩
  by_cases l2 : 4096 < n2
  · go_wp2
    go_ret
    exact ⟨rfl, Below.refl _ _⟩
  go_upto_if 39 with fail
  go_cut [0, 11] from 22 (fun s0 s7 wc => Cp .u64 24 w.heap.size wc s0 n0 (fun i => (r i : Nat)) ∧ Below w.heap.size w wc)
  case first =>
    rcases h0.2 with ⟨rfl, hn⟩ | ⟨x, rfl, hx⟩
    · have Hn := hide hn
      clear hn h0
      go_wp2_with fail
      go_meet
      case rel => exact ⟨Cp.nil Hn.out _, Below.refl _ _⟩
    · go_wp2_with (first | (at_make; refine wpList_make_full _ rfl _ _ 22 rfl w.heap.size 24 i24 (.int .u64 0) 1 Try.underlying22 hi24 hz20 hz21 _ _ _ _ n0 rfl rfl (by omega) (by omega) (by rw [hz22]; omega) (by unfold maxLen; omega) (Nat.le_refl _) ?_))
      intro w1 hown hgrow
      have hA := made_arr hown
      have hB1 := below_none hgrow
      obtain ⟨w2, hcp, hA2, hO2⟩ := copy_run (cap := c0) (T := 22) Try.underlying22 (by kernel_rfl) hA (x := x) (k := .u64) (z := fun i => (r i : Nat)) (fun i hi => (hB1.cell (World.block_lt_of_cell? _ _ (hx i hi))).trans (hx i hi))
      clear hown hgrow
      go_wp2_with fail
      go_meet
      case rel => exact ⟨⟨_, _, _, rfl, .inl rfl, fun _ => ⟨Nat.le_refl _, hA2⟩⟩, hO2.grown hB1 (Nat.le_refl _)⟩
  case rest =>
    obtain ⟨⟨p0, g0, d0, rfl, q0, hA0⟩, hB0⟩ := hcut
    clear h0
    obtain ⟨wa, hwa⟩ : ∃ wa, wa = wc := ⟨_, rfl⟩
    subst hwa
    go_upto_if 48 with fail
    go_cut [1, 12] from 22 (fun s1 s8 wc => Cp .u64 24 w.heap.size wc s1 n1 (fun i => (s i : Nat)) ∧ Below wa.heap.size wa wc)
    case first =>
      rcases h1.2 with ⟨rfl, hn⟩ | ⟨x, rfl, hx⟩
      · have Hn := hide hn
        clear hn h1
        go_wp2_with fail
        go_meet
        case rel => exact ⟨Cp.nil Hn.out _, Below.refl _ _⟩
      · go_wp2_with (first | (at_make; refine wpList_make_full _ rfl _ _ 22 rfl wa.heap.size 24 i24 (.int .u64 0) 1 Try.underlying22 hi24 hz20 hz21 _ _ _ _ n1 rfl rfl (by omega) (by omega) (by rw [hz22]; omega) (by unfold maxLen; omega) (Nat.le_refl _) ?_))
        intro w1 hown hgrow
        have hA := made_arr hown
        have hB1 := below_none hgrow
        obtain ⟨w2, hcp, hA2, hO2⟩ := copy_run (cap := c1) (T := 22) Try.underlying22 (by kernel_rfl) hA (x := x) (k := .u64) (z := fun i => (s i : Nat)) (fun i hi => ((hB0.trans (hB1.mono hB0.size)).cell (World.block_lt_of_cell? _ _ (hx i hi))).trans (hx i hi))
        clear hown hgrow
        go_wp2_with fail
        go_meet
        case rel => exact ⟨⟨_, _, _, rfl, .inl rfl, fun _ => ⟨hB0.size, hA2⟩⟩, hO2.grown hB1 (Nat.le_refl _)⟩
    case rest =>
      obtain ⟨⟨p1, g1, d1, rfl, q1, hA1⟩, hB1⟩ := hcut
      clear h1
      obtain ⟨wb, hwb⟩ : ∃ wb, wb = wc := ⟨_, rfl⟩
      subst hwb
      replace hA0 := fun h => (hA0 h).2.kept hB1
      have hBb : Below w.heap.size w wb := hB0.trans (hB1.mono hB0.size)
      clear hB0 hB1
      go_upto_if 57 with fail
      go_cut [2, 13] from 22 (fun s2 s9 wc => Cp .i64 3 w.heap.size wc s2 n2 A ∧ Below wb.heap.size wb wc)
      case first =>
        rcases h2.2 with ⟨rfl, hn⟩ | ⟨x, rfl, hx⟩
        · have Hn := hide hn
          clear hn h2
          go_wp2_with fail
          go_meet
          case rel => exact ⟨Cp.nil Hn.out _, Below.refl _ _⟩
        · go_wp2_with (first | (at_make; refine wpList_make_full _ rfl _ _ 23 rfl wb.heap.size 3 i3 (.int .i64 0) 1 Try.underlying23 hi3 hz30 hz31 _ _ _ _ n2 rfl rfl (by omega) (by omega) (by rw [hz32]; omega) (by unfold maxLen; omega) (Nat.le_refl _) ?_))
          intro w1 hown hgrow
          have hA := made_arr hown
          have hB1 := below_none hgrow
          obtain ⟨w2, hcp, hA2, hO2⟩ := copy_run (cap := c2) (T := 23) Try.underlying23 (by kernel_rfl) hA (x := x) (k := .i64) (z := A) (fun i hi => ((hBb.trans (hB1.mono hBb.size)).cell (World.block_lt_of_cell? _ _ (hx i hi))).trans (hx i hi))
          clear hown hgrow
          go_wp2_with fail
          go_meet
          case rel => exact ⟨⟨_, _, _, rfl, .inl rfl, fun _ => ⟨hBb.size, hA2⟩⟩, hO2.grown hB1 (Nat.le_refl _)⟩
      case rest =>
        obtain ⟨⟨p2, g2, d2, rfl, q2, hA2⟩, hB2⟩ := hcut
        clear h2
        obtain ⟨w3, hw3⟩ : ∃ w3, w3 = wc := ⟨_, rfl⟩
        subst hw3
        replace hA0 := fun h => (hA0 h).kept hB2
        replace hA1 := fun h => (hA1 h).2.kept hB2
        replace hA2 := fun h => (hA2 h).2
        have hB3 : Below w.heap.size w w3 := hBb.trans (hB2.mono hBb.size)
        clear hB2 hBb
        have hspc := space_any p0 p1 g0 g1 n0 n1 d0 d1 r s w3 (by omega) (by omega) q0 q1 (fun i hi => (hA0 (by omega)).cell hi) (fun i hi => (hA1 (by omega)).cell hi)
        have HS := hide hspc
        clear hspc
        go_wp2_with fail
        refine HS.out.mono ?_
        rintro e w' ⟨hw', p, ok, rfl, hsp⟩
        obtain rfl : w3 = w' := hw'.symm
        clear HS
        cases ok with
        | false =>
          clear hsp
          go_wp2
          go_ret
          exact ⟨rfl, hB3⟩
        | true =>
        obtain ⟨hnn, hsp⟩ := hsp rfl
        subst hnn
        have hasc := asc_any p2 g2 n2 d2 n1 A w3 (by omega) (by omega) q2 (fun i hi => (hA2 (by omega)).cell hi)
        have HS := hide hasc
        have HSP := hide hsp
        clear hasc hsp
        go_wp2_with fail
        refine HS.out.mono ?_
        rintro e w' ⟨hw', ok, rfl, hsp⟩
        obtain rfl : w3 = w' := hw'.symm
        clear HS
        cases ok with
        | false =>
          clear hsp
          go_wp2
          go_ret
          exact ⟨rfl, hB3⟩
        | true =>
        obtain ⟨A', g, hAn, hst⟩ := good_of HSP.out (hsp rfl) (by omega) (by omega)
        have hpe : p = pr r n1 := HSP.out.2.1
        subst hpe
        clear hsp HSP
        have hA2' : 0 < n2 → Arr w3 g2 3 n2 (fun j => .int .i64 (A' j : Nat)) := fun h => (hA2 h).congr (fun j hj => by rw [hAn j hj])
        have hA1' : 0 < n1 → Arr w3 g1 24 n1 (fun j => .int .u64 (pr r j : Nat)) := fun h => (hA1 h).congr (fun j hj => by rw [hst j hj])
        clear hAn hst hA1 hA2
        have hsubs := subSize_any p0 p2 g0 g2 n1 n2 d0 d2 r A' w3 g q0 q2 (fun i hi => (hA0 (by omega)).cell hi) (fun i hi => (hA2' (by omega)).cell hi)
        have HS := hide hsubs
        have u1 := g.p n1 (Nat.le_refl _)
        have u3 := g.psub_le (Nat.le_refl n2)
        clear hsubs
        go_wp2_with fail
        refine HS.out.mono ?_
        rintro e w' ⟨rfl, hw'⟩
        obtain rfl : w3 = w' := hw'.symm
        clear HS
        by_cases hsub : pr (ra r A') n2 ≤ sub
        · go_wp2
          go_ret
          exact ⟨rfl, hB3⟩
        have hdig := subDigits_any p0 p2 g0 g2 n1 n2 d0 d2 r A' w3 sub g q0 q2 (by omega) (fun i hi => (hA0 (by omega)).cell hi) (fun i hi => (hA2' (by omega)).cell hi)
        have HS := hide hdig
        clear hdig
        go_wp2_with fail
        refine HS.out.mono ?_
        rintro e w4 ⟨gw, gf, rfl, hW4, hF4, hB4⟩
        clear HS
        have hA0' : 0 < n1 → Arr w4 g0 24 n1 (fun i => .int .u64 (r i : Nat)) := fun h => (hA0 h).kept hB4
        have hx0 : 0 < n1 → g0 < w3.heap.size := fun h => (hA0 h).lt
        go_upto_if 92 with fail
        go_cut [18] from 22 (fun s18 wc => s18 = .int .i64 (mx lim : Nat) ∧ wc = w4)
        case first =>
          by_cases hl1 : lim < 1
          · have hmx : (mx lim : Int) = 1 := by simp only [mx]; omega
            have HM := hide hmx
            clear hmx
            go_wp2_with fail
            go_meet
            case rel => exact ⟨by rw [HM.out], rfl⟩
          · have hmx : (mx lim : Int) = lim := by simp only [mx]; omega
            have HM := hide hmx
            clear hmx
            go_wp2_with fail
            go_meet
            case rel => exact ⟨by rw [HM.out], rfl⟩
        case rest =>
          obtain ⟨rfl, hwc⟩ := hcut
          subst hwc
          have hwk := g.wdok sub
          generalize hfx : fixF A' n2 = fx at *
          generalize hwd : wantF r A' sub n2 = wd at *
          have Hfx := hide hfx
          have Hwd := hide hwd
          clear hfx hwd
          go_wp2_with fail
          go_loopw [19, 20] (fun s19 s20 wr => ∃ (t : Nat) (ao : Option Addr) (cap : Nat), t ≤ pr r n1 ∧ s20 = .int .u64 t ∧ s19 = .slice ao (ML n1 r fx wd t).length cap ∧ (ML n1 r fx wd t).length ≤ mx lim ∧
              wr.ownsRow wc.heap.size 24 1 (.slice ao (ML n1 r fx wd t).length cap) (ML n1 r fx wd t).length (U (ML n1 r fx wd t)) ∧ Below wc.heap.size wc wr) (fun _ s20 _ => pr r n1 - (intOf s20).toNat)
          case atStart => exact ⟨0, none, 0, Nat.zero_le _, rfl, rfl, Nat.zero_le _, World.ownsRow_nil _ _ _ _, Below.refl _ _⟩
          case round =>
            obtain ⟨t, ao, cap, ht, rfl, rfl, hle, hown, hBt⟩ := hrel
            have hml := ML_len (n := n1) (r := r) (fx := fx) (wd := wd) t
            by_cases hgo : t < pr r n1 ∧ (ML n1 r fx wd t).length < mx lim
            · obtain ⟨hgo1, hgo2⟩ := hgo
              have hmat := matches_any p0 g0 gf gw n1 n2 d0 n1 n1 r A' fx wd wr t g q0 (by omega) (fun i hi => ((hA0' (by omega)).kept hBt).cell hi) (hF4.kept hBt) (hW4.kept hBt)
              have hgo3 : ((ML n1 r fx wd t).length : Int) < (mx lim : Int) := by omega
              have hsz := hBt.size
              cases hmt : mt r fx wd t n1 with
              | false =>
                rw [hmt] at hmat
                have hnx : ML n1 r fx wd (t + 1) = ML n1 r fx wd t := ML_succ_no (fun h => by rw [mt_Mt.2 h] at hmt; cases hmt)
                have HM := hide hmat
                have HN := hide hnx
                clear hmat hnx hmt
                go_wp2_with fail
                refine HM.out.mono ?_
                rintro e w' ⟨rfl, hw'⟩
                obtain rfl : wr = w' := hw'.symm
                clear HM
                go_wp2
                go_roundw
                case rel => exact ⟨t + 1, ao, cap, by omega, by go_num, by rw [HN.out], by rw [HN.out]; exact hle, by rw [HN.out]; exact hown, hBt⟩
                case measure => simp [intOf]; omega
              | true =>
                rw [hmt] at hmat
                have hnx : ML n1 r fx wd (t + 1) = ML n1 r fx wd t ++ [t] := ML_succ_yes (mt_Mt.1 hmt)
                have HM := hide hmat
                have HN := hide hnx
                clear hmat hnx hmt
                go_wp2_with fail
                refine HM.out.mono ?_
                rintro e w' ⟨rfl, hw'⟩
                obtain rfl : wr = w' := hw'.symm
                clear HM
                have hownA := hown.alloc (.cells #[.int .u64 (t : Nat)] 24)
                go_wp2_with (first
                  | (at_builtin; refine wpList_append_own _ rfl _ _ 22 rfl wc.heap.size 24 i24 (.int .u64 0) 1 8 Try.underlying22 hi24 hz20 hz21 hz22 rfl (by decide) _ _ _ rfl hownA ⟨wr.heap.size, 0, none⟩ 1 1 [.int .u64 (t : Nat)] rfl rfl (cell_one_new _ _ _) ?c2 ?c3 ?c4 ?c5 ?_))
                case c2 => intro u hu; simp at hu; subst hu; rfl
                case c3 => unfold maxLen; omega
                case c4 => omega
                case c5 => simp; omega
                intro v' w7 hown' hgrow _
                have hbel := hBt.trans (visit_grow hown hsz hgrow)
                have hown2 : w7.ownsRow wc.heap.size 24 1 v' (ML n1 r fx wd (t + 1)).length (U (ML n1 r fx wd (t + 1))) := by
                  rw [HN.out, U_snoc, List.length_append]; exact hown'
                obtain ⟨ao', cap', hv'⟩ := owns_shape hown2
                rw [hv'] at hown2 ⊢
                have hlen2 : (ML n1 r fx wd (t + 1)).length ≤ mx lim := by rw [HN.out, List.length_append]; simp; omega
                have HO := hide hown2
                clear hown2 hown' hown hownA hgrow hv'
                go_wp2
                go_roundw
                case rel => exact ⟨t + 1, ao', cap', by omega, by go_num, rfl, hlen2, HO.out, hbel⟩
                case measure => simp [intOf]; omega
            · have hres : ML n1 r fx wd t = res n1 r fx wd lim := by
                by_cases h1 : t < pr r n1
                · have h2 : (ML n1 r fx wd t).length = mx lim := by omega
                  unfold res
                  rw [← h2]
                  exact ML_prefix (by omega)
                · have h2 : t = pr r n1 := by omega
                  unfold res
                  rw [← h2, List.take_of_length_le hle]
              have hexp := zzexpand_any g0 g1 g2 n1 n2 d0 d1 d2 p0 p1 p2 r A' wr sub lim g q0 q1 q2 (by omega) (fun i hi => ((hA0' (by omega)).kept hBt).cell hi) (fun i hi => (((hA1' (by omega)).kept hB4).kept hBt).cell hi) (fun i hi => (((hA2' (by omega)).kept hB4).kept hBt).cell hi)
              rw [Hfx.out, Hwd.out, ← hres] at hexp
              have HE := hide hexp
              have HRES := hide hres
              clear hexp hres
              obtain ⟨ge, qe, hge⟩ := row_at hown
              have hBw : Below w.heap.size w wr := (hB3.trans (hB4.mono hB3.size)).trans (hBt.mono (Nat.le_trans hB3.size hB4.size))
              have hgoI : (t : Int) < (pr r n1 : Int) → ¬ ((ML n1 r fx wd t).length : Int) < (mx lim : Int) := fun h1 h2 => hgo ⟨by omega, by omega⟩
              clear hgo hown hF4 hW4 hA0' hA1' hA2' hA0
              by_cases h1 : t < pr r n1
              all_goals
                first | (have h2 := hgoI (by omega)) | skip
                clear hgoI
                go_wp2_with fail
                refine HE.out.mono ?_
                rintro e w8 ⟨v, rfl, hown8, hB8⟩
                clear HE
                obtain ⟨ao8, cap8, hv8⟩ := owns_shape hown8
                rw [hv8] at hown8 ⊢
                obtain ⟨gg, qg, hgg⟩ := row_at hown8
                have heq := equal_any ao8 ao gg ge _ _ cap8 cap (fun i => (ML n1 r fx wd t).getD i 0) w8 (by omega) rfl qg qe (fun i hi => (hgg (by omega)).2.cell hi) (fun i hi => ((hge (by omega)).2.kept hB8).cell hi)
                have HQ := hide heq
                clear heq hown8 hv8 hge hgg
                go_wp2_with fail
                refine HQ.out.mono ?_
                rintro e w9 ⟨rfl, hD9⟩
                have hfin : Below w.heap.size w w9 := (hBw.trans (hB8.mono hBw.size)).trans (hD9.below _)
                go_wp2
                go_ret
                exact ⟨rfl, hfin⟩

end Go.Proofs.Qxb6614073a
