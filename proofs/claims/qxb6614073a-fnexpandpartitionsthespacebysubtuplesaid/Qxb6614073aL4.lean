import Derived.Test.Qxb6614073aCp
namespace Go.Proofs.Qxb6614073a
open Go.RowKit
set_option linter.unusedVariables false
set_option linter.unusedSimpArgs false

theorem law4_step {n m k j sz gs gd BB : Nat} {r A : Nat → Nat} {w6 wr w7 : World} {f7 : Nat → Value} (hS : Arr wr gs 4 sz (fun t => .bool (seenJ n r m A k j t))) (hO : Only gd wr w7) (hD : Arr w7 gd 24 n f7) (hV : VG gs gd BB w6 wr) (hne : gs ≠ gd) :
    Arr (w7.setCell ⟨gs, gt n r m A k j, none⟩ (.bool true)) gs 4 sz (fun t => .bool (seenJ n r m A k (j + 1) t)) ∧ Arr (w7.setCell ⟨gs, gt n r m A k j, none⟩ (.bool true)) gd 24 n f7 ∧ VG gs gd BB w6 (w7.setCell ⟨gs, gt n r m A k j, none⟩ (.bool true)) := by
  refine ⟨((hS.only hO hne).setCell _ _).congr (fun t _ => ?_), hD.setCell_other (Ne.symm hne) _, ?_⟩
  · show (if t = gt n r m A k j then Value.bool true else .bool (seenJ n r m A k j t)) = .bool (if t = gt n r m A k j then true else seenJ n r m A k j t)
    split <;> rfl
  · refine hV.trans ⟨hO.os, hO.tape, hO.output, by simp [hO.size], fun b _ h1 h2 => ?_⟩
    rw [heap_setCell_other w7 _ b _ h1]
    exact hO.block b h2

set_option maxRecDepth 100000 in
set_option maxHeartbeats 4000000 in
theorem law4 (a0 a1 a2 : Option Addr) (n0 n1 n2 c0 c1 c2 : Nat) (r s : Nat → Nat) (A : Nat → Int) (w : World) (h0 : Came .u64 w a0 n0 (fun i => (r i : Nat))) (h1 : Came .u64 w a1 n1 (fun i => (s i : Nat))) (h2 : Came .i64 w a2 n2 A) :
    Calls Try.prog 4 #[.slice a0 n0 c0, .slice a1 n1 c1, .slice a2 n2 c2] w fun e w' => e = .returned (.bool true) ∧ Below w.heap.size w w' := by
  have hB := bytes13 a0 a1 a2 n0 n1 n2 c0 c1 c2 w h0.1 h1.1 h2.1
  have HB := hide hB
  clear hB
  have m0 := h0.1
  have m1 := h1.1
  have m2 := h2.1
  unfold maxLen at m0 m1 m2
  obtain ⟨i24, hi24, hz20, hz21, hz22⟩ := info_parts info24
  obtain ⟨i3, hi3, hz30, hz31, hz32⟩ := info_parts info3
  obtain ⟨i4, hi4, hz40, hz41, hz42⟩ := info_parts info4
  have y22 := fun w a n c => run_neq_slice_nil_any (P := Try.prog) w 22 24 a n c 0 0 Try.underlying22
  have y23 := fun w a n c => run_neq_slice_nil_any (P := Try.prog) w 23 3 a n c 0 0 Try.underlying23
  go_enter Try.func4, Try.ntmps4
  go_wp2_with fail
  refine HB.out.mono ?_
  rintro e w' ⟨b, rfl, hw'⟩
  obtain rfl : w = w' := hw'.symm
  clear HB
  cases b with
  | false =>
    go_wp2
    go_ret
    exact ⟨rfl, Below.refl _ _⟩
  | true =>
  by_cases l0 : 4096 < n0
  · go_wp2
    go_ret
    exact ⟨rfl, Below.refl _ _⟩
  by_cases l1 : 4096 < n1
  · go_wp2
    go_ret
    exact ⟨rfl, Below.refl _ _⟩
  by_cases l2 : 4096 < n2
  · go_wp2
    go_ret
    exact ⟨rfl, Below.refl _ _⟩
  go_upto_if 35 with fail
  go_cut [0, 7] from 20 (fun s0 s7 wc => Cp .u64 24 w.heap.size wc s0 n0 (fun i => (r i : Nat)) ∧ Below w.heap.size w wc)
  case first =>
    rcases h0.2 with ⟨rfl, hn⟩ | ⟨x, rfl, hx⟩
    · have Hn := hide hn
      clear hn h0
      go_wp2_with fail
      go_meet
      case rel => exact ⟨Cp.nil Hn.out _, Below.refl _ _⟩
    · go_wp2_with (first | (at_make; refine wpList_make_full _ rfl _ _ 22 rfl w.heap.size 24 i24 (.int .u64 0) 1 Try.underlying22 hi24 hz20 hz21 _ _ _ _ n0 rfl rfl (by omega) (by omega) (by rw [hz22]; omega) (by unfold maxLen; omega) (Nat.le_refl _) ?_))
      intro w1 hown hgrow
      have hA := made_arr hown
      have hB1 := below_none hgrow
      obtain ⟨w2, hcp, hA2, hO2⟩ := copy_run (cap := c0) (T := 22) Try.underlying22 (by kernel_rfl) hA (x := x) (k := .u64) (z := fun i => (r i : Nat)) (fun i hi => (hB1.cell (World.block_lt_of_cell? _ _ (hx i hi))).trans (hx i hi))
      clear hown hgrow
      go_wp2_with fail
      go_meet
      case rel => exact ⟨⟨_, _, _, rfl, .inl rfl, fun _ => ⟨Nat.le_refl _, hA2⟩⟩, hO2.grown hB1 (Nat.le_refl _)⟩
  case rest =>
    obtain ⟨⟨p0, g0, d0, rfl, q0, hA0⟩, hB0⟩ := hcut
    clear h0
    obtain ⟨wa, hwa⟩ : ∃ wa, wa = wc := ⟨_, rfl⟩
    subst hwa
    go_upto_if 44 with fail
    go_cut [1, 8] from 20 (fun s1 s8 wc => Cp .u64 24 w.heap.size wc s1 n1 (fun i => (s i : Nat)) ∧ Below wa.heap.size wa wc)
    case first =>
      rcases h1.2 with ⟨rfl, hn⟩ | ⟨x, rfl, hx⟩
      · have Hn := hide hn
        clear hn h1
        go_wp2_with fail
        go_meet
        case rel => exact ⟨Cp.nil Hn.out _, Below.refl _ _⟩
      · go_wp2_with (first | (at_make; refine wpList_make_full _ rfl _ _ 22 rfl wa.heap.size 24 i24 (.int .u64 0) 1 Try.underlying22 hi24 hz20 hz21 _ _ _ _ n1 rfl rfl (by omega) (by omega) (by rw [hz22]; omega) (by unfold maxLen; omega) (Nat.le_refl _) ?_))
        intro w1 hown hgrow
        have hA := made_arr hown
        have hB1 := below_none hgrow
        obtain ⟨w2, hcp, hA2, hO2⟩ := copy_run (cap := c1) (T := 22) Try.underlying22 (by kernel_rfl) hA (x := x) (k := .u64) (z := fun i => (s i : Nat)) (fun i hi => ((hB0.trans (hB1.mono hB0.size)).cell (World.block_lt_of_cell? _ _ (hx i hi))).trans (hx i hi))
        clear hown hgrow
        go_wp2_with fail
        go_meet
        case rel => exact ⟨⟨_, _, _, rfl, .inl rfl, fun _ => ⟨hB0.size, hA2⟩⟩, hO2.grown hB1 (Nat.le_refl _)⟩
    case rest =>
      obtain ⟨⟨p1, g1, d1, rfl, q1, hA1⟩, hB1⟩ := hcut
      clear h1
      obtain ⟨wb, hwb⟩ : ∃ wb, wb = wc := ⟨_, rfl⟩
      subst hwb
      replace hA0 := fun h => (hA0 h).2.kept hB1
      have hBb : Below w.heap.size w wb := hB0.trans (hB1.mono hB0.size)
      clear hB0 hB1
      go_upto_if 53 with fail
      go_cut [2, 9] from 20 (fun s2 s9 wc => Cp .i64 3 w.heap.size wc s2 n2 A ∧ Below wb.heap.size wb wc)
      case first =>
        rcases h2.2 with ⟨rfl, hn⟩ | ⟨x, rfl, hx⟩
        · have Hn := hide hn
          clear hn h2
          go_wp2_with fail
          go_meet
          case rel => exact ⟨Cp.nil Hn.out _, Below.refl _ _⟩
        · go_wp2_with (first | (at_make; refine wpList_make_full _ rfl _ _ 23 rfl wb.heap.size 3 i3 (.int .i64 0) 1 Try.underlying23 hi3 hz30 hz31 _ _ _ _ n2 rfl rfl (by omega) (by omega) (by rw [hz32]; omega) (by unfold maxLen; omega) (Nat.le_refl _) ?_))
          intro w1 hown hgrow
          have hA := made_arr hown
          have hB1 := below_none hgrow
          obtain ⟨w2, hcp, hA2, hO2⟩ := copy_run (cap := c2) (T := 23) Try.underlying23 (by kernel_rfl) hA (x := x) (k := .i64) (z := A) (fun i hi => ((hBb.trans (hB1.mono hBb.size)).cell (World.block_lt_of_cell? _ _ (hx i hi))).trans (hx i hi))
          clear hown hgrow
          go_wp2_with fail
          go_meet
          case rel => exact ⟨⟨_, _, _, rfl, .inl rfl, fun _ => ⟨hBb.size, hA2⟩⟩, hO2.grown hB1 (Nat.le_refl _)⟩
      case rest =>
        obtain ⟨⟨p2, g2, d2, rfl, q2, hA2⟩, hB2⟩ := hcut
        clear h2
        obtain ⟨w3, hw3⟩ : ∃ w3, w3 = wc := ⟨_, rfl⟩
        subst hw3
        replace hA0 := fun h => (hA0 h).kept hB2
        replace hA1 := fun h => (hA1 h).2.kept hB2
        replace hA2 := fun h => (hA2 h).2
        have hB3 : Below w.heap.size w w3 := hBb.trans (hB2.mono hBb.size)
        clear hB2 hBb
        have hspc := space_any p0 p1 g0 g1 n0 n1 d0 d1 r s w3 (by omega) (by omega) q0 q1 (fun i hi => (hA0 (by omega)).cell hi) (fun i hi => (hA1 (by omega)).cell hi)
        have HS := hide hspc
        clear hspc
        go_wp2_with fail
        refine HS.out.mono ?_
        rintro e w' ⟨hw', p, ok, rfl, hsp⟩
        obtain rfl : w3 = w' := hw'.symm
        clear HS
        cases ok with
        | false =>
          clear hsp
          go_wp2
          go_ret
          exact ⟨rfl, hB3⟩
        | true =>
        obtain ⟨hnn, hsp⟩ := hsp rfl
        subst hnn
        have hasc := asc_any p2 g2 n2 d2 n1 A w3 (by omega) (by omega) q2 (fun i hi => (hA2 (by omega)).cell hi)
        have HS := hide hasc
        have HSP := hide hsp
        clear hasc hsp
        go_wp2_with fail
        refine HS.out.mono ?_
        rintro e w' ⟨hw', ok, rfl, hsp⟩
        obtain rfl : w3 = w' := hw'.symm
        clear HS
        cases ok with
        | false =>
          clear hsp
          go_wp2
          go_ret
          exact ⟨rfl, hB3⟩
        | true =>
        obtain ⟨A', g, hAn, hst⟩ := good_of HSP.out (hsp rfl) (by omega) (by omega)
        have hpe : p = pr r n1 := HSP.out.2.1
        subst hpe
        clear hsp HSP
        have hA2' : 0 < n2 → Arr w3 g2 3 n2 (fun j => .int .i64 (A' j : Nat)) := fun h => (hA2 h).congr (fun j hj => by rw [hAn j hj])
        have hA1' : 0 < n1 → Arr w3 g1 24 n1 (fun j => .int .u64 (pr r j : Nat)) := fun h => (hA1 h).congr (fun j hj => by rw [hst j hj])
        clear hAn hst hA1 hA2
        have hsub := subSize_any p0 p2 g0 g2 n1 n2 d0 d2 r A' w3 g q0 q2 (fun i hi => (hA0 (by omega)).cell hi) (fun i hi => (hA2' (by omega)).cell hi)
        have HS := hide hsub
        have u1 := g.p n1 (Nat.le_refl _)
        have u2 := g.psub_pos (Nat.le_refl n2)
        have u3 := g.psub_le (Nat.le_refl n2)
        have u4 := perN_div n1 r n2 A'
        have u5 : perN n1 r n2 A' ≤ 65536 := Nat.le_trans (Nat.div_le_self _ _) u1
        clear hsub
        go_wp2_with fail
        refine HS.out.mono ?_
        rintro e w' ⟨rfl, hw'⟩
        obtain rfl : w3 = w' := hw'.symm
        clear HS
        go_wp2_with (first | (at_make; refine wpList_make_full _ rfl _ _ 30 rfl w3.heap.size 4 i4 (.bool false) 1 Try.underlying30 hi4 hz40 hz41 _ _ _ _ (pr r n1) rfl rfl (by omega) (by omega) (by rw [hz42]; omega) (by unfold maxLen; omega) (Nat.le_refl _) ?_))
        intro w4 hown4 hgrow4
        have hS4 := made_arr hown4
        have hB4 := below_none hgrow4
        clear hown4 hgrow4
        obtain ⟨gs, hgs⟩ : ∃ gs, gs = w3.heap.size := ⟨_, rfl⟩
        rw [← hgs] at hS4 hB4 ⊢
        have HGS := hide hgs
        clear hgs
        go_wp2_with (first | (at_make; refine wpList_make_full _ rfl _ _ 22 rfl w4.heap.size 24 i24 (.int .u64 0) 1 Try.underlying22 hi24 hz20 hz21 _ _ _ _ n1 rfl rfl (by omega) (by omega) (by rw [hz22]; omega) (by unfold maxLen; omega) (Nat.le_refl _) ?_))
        intro w5 hown5 hgrow5
        have hD5 := made_arr hown5
        have hB5 := below_none hgrow5
        clear hown5 hgrow5
        obtain ⟨gd, hgd⟩ : ∃ gd, gd = w4.heap.size := ⟨_, rfl⟩
        rw [← hgd] at hD5 hB5 ⊢
        have hsd : gs < gd := by rw [hgd]; exact hS4.lt
        have hS5 := hS4.below hB5 hsd
        have hB35 : Below gs w3 w5 := hB4.trans (hB5.mono (by omega))
        have HGD := hide hgd
        clear hgd hB4 hB5 hS4
        have hx0 : 0 < n1 → g0 < gs := fun h => by rw [HGS.out]; exact (hA0 h).lt
        have hx1 : 0 < n1 → g1 < gs := fun h => by rw [HGS.out]; exact (hA1' h).lt
        have hx2 : 0 < n2 → g2 < gs := fun h => by rw [HGS.out]; exact (hA2' h).lt
        go_wp2_with fail
        go_loopw [16] (fun s16 wr => ∃ k : Nat, k ≤ pr (ra r A') n2 ∧ s16 = .int .u64 k ∧ Arr wr gs 4 (pr r n1) (fun t => .bool (seenK n1 r n2 A' k t)) ∧ (∃ f, Arr wr gd 24 n1 f) ∧ Below gs w3 wr) (fun s16 _ => pr (ra r A') n2 - (intOf s16).toNat)
        case atStart => exact ⟨0, Nat.zero_le _, rfl, hS5, ⟨_, hD5⟩, hB35⟩
        case round =>
          obtain ⟨k, hk, rfl, hSk, ⟨f, hDk⟩, hBk⟩ := hrel
          obtain ⟨wo, hwo⟩ : ∃ wo, wo = wr := ⟨_, rfl⟩
          subst hwo
          by_cases hlt : k < pr (ra r A') n2
          · have hexp := zzexpand_any g0 g1 g2 n1 n2 d0 d1 d2 p0 p1 p2 r A' wo k ((pr r n1 : Nat) + 1) g q0 q1 q2 (by omega) (fun i hi => ((hA0 (by omega)).below hBk (hx0 (by omega))).cell hi) (fun i hi => ((hA1' (by omega)).below hBk (hx1 (by omega))).cell hi) (fun i hi => ((hA2' (by omega)).below hBk (hx2 (by omega))).cell hi)
            rw [res_whole] at hexp
            have HE := hide hexp
            clear hexp
            go_wp2_with fail
            refine HE.out.mono ?_
            rintro e w6 ⟨v, rfl, hown6, hB6⟩
            clear HE
            obtain ⟨ao, cap, hv⟩ := owns_shape hown6
            rw [hv] at hown6 ⊢
            clear hv
            obtain ⟨gg, qg, hgg⟩ := row_at hown6
            have hgl := g.got_len k
            have hglb : (got n1 r n2 A' k).length ≤ 65536 := by omega
            have hper : (((got n1 r n2 A' k).length : Int) != (perN n1 r n2 A' : Int)) = false := by rw [hgl]; simp
            have hS6 := hSk.kept hB6
            have hD6 := hDk.kept hB6
            have hdo : gd < wo.heap.size := hDk.lt
            have hB36 : Below gs w3 w6 := hBk.trans (hB6.mono (by omega))
            have xg := ix22 qg cap
            have HGL := hide hgl
            clear hgl hown6 hB6 hSk hDk hBk
            go_wp2_with fail
            go_loopw [18] (fun s18 wr => ∃ j : Nat, j ≤ (got n1 r n2 A' k).length ∧ s18 = .int .i64 j ∧ Arr wr gs 4 (pr r n1) (fun t => .bool (seenJ n1 r n2 A' k j t)) ∧ (∃ f, Arr wr gd 24 n1 f) ∧ VG gs gd w6.heap.size w6 wr) (fun s18 _ => (got n1 r n2 A' k).length - (intOf s18).toNat)
            case atStart => exact ⟨0, Nat.zero_le _, rfl, hS6, ⟨_, hD6⟩, VG.refl _ _ _ _⟩
            case round =>
              obtain ⟨j, hj, rfl, hSj, ⟨fj, hDj⟩, hVj⟩ := hrel
              by_cases hjl : j < (got n1 r n2 A' k).length
              · have hgg' := hgg (by omega)
                have hgo : wo.heap.size ≤ gg := hgg'.1
                have v1 := hVj.cell hgg'.2.lt (by omega) (by omega) (hgg'.2.cell hjl)
                have hmem := got_mem.1 (gt_mem hjl)
                have v2 := hSj.cell hmem.1
                rw [seen_no g hlt hjl] at v2
                have v3 := hSj.free (gt n1 r n2 A' k j)
                have hrs := g.rsum_eq hlt hmem.2
                have ht := hmem.1
                have hV3 : ∀ b, b < gs → w3.heap[b]? = wr.heap[b]? := fun b hb => ((hVj.block b (by have := hB36.size; have := hS6.lt; omega) (by omega) (by omega)).trans (hB36.block b hb)).symm
                have hread := readSub_any p0 p2 g0 g2 gd n1 n2 d0 d2 n1 r A' wr (gt n1 r n2 A' k j) fj g q0 q2 (by omega) (fun i hi => ((hA0 (by omega)).of_block (hV3 g0 (hx0 (by omega))).symm).cell hi) (fun i hi => ((hA2' (by omega)).of_block (hV3 g2 (hx2 (by omega))).symm).cell hi) hDj (fun h => by have := hx0 h; omega) (fun h => by have := hx2 h; omega)
                rw [hrs] at hread
                have HR := hide hread
                have HSJ := hide hSj
                clear hread hrs hmem hV3
                have vt : (gt n1 r n2 A' k j : Int) < (pr r n1 : Int) := by omega
                have v1' : wr.cell? ⟨gg, j, none⟩ = some (.int .u64 (gt n1 r n2 A' k j : Nat)) := v1
                clear v1
                rcases Nat.eq_zero_or_pos j with hj0 | hj0
                · subst hj0
                  have xg0 : ∀ wx, (Instr.indexAt 22 (.slice ao (got n1 r n2 A' k).length cap) (.int .i64 0)).run Try.prog wx = .ok (.pointer (some ⟨gg, 0, none⟩)) wx := fun wx => by simpa using xg 0 wx hjl
                  clear xg
                  go_wp2_with fail
                  refine HR.out.mono ?_
                  rintro e w7 ⟨rfl, hO7, f7, hD7⟩
                  have hE := law4_step HSJ.out hO7 hD7 hVj (by omega)
                  have HE := hide hE
                  have x2 := (HSJ.out.only hO7 (by omega)).cell ht
                  have x3 := (HSJ.out.only hO7 (by omega)).free (gt n1 r n2 A' k 0)
                  clear hE HR HSJ v2 v3 v1' hDj hVj hO7 hD7
                  go_wp2
                  go_roundw
                  case rel => exact ⟨1, by omega, rfl, HE.out.1, ⟨_, HE.out.2.1⟩, HE.out.2.2⟩
                  case measure => simp [intOf]; omega
                · have xgp : ∀ wx, (Instr.indexAt 22 (.slice ao (got n1 r n2 A' k).length cap) (.int .i64 ((j : Int) - 1))).run Try.prog wx = .ok (.pointer (some ⟨gg, j - 1, none⟩)) wx := fun wx => by
                    have h := xg (j - 1) wx (by omega)
                    rwa [show ((j - 1 : Nat) : Int) = (j : Int) - 1 by omega] at h
                  have v4 : wr.cell? ⟨gg, j - 1, none⟩ = some (.int .u64 (gt n1 r n2 A' k (j - 1) : Nat)) := hVj.cell hgg'.2.lt (by omega) (by omega) (hgg'.2.cell (show j - 1 < _ by omega))
                  have v5 : gt n1 r n2 A' k (j - 1) < gt n1 r n2 A' k j := gt_lt (by omega) hjl
                  go_wp2_with fail
                  refine HR.out.mono ?_
                  rintro e w7 ⟨rfl, hO7, f7, hD7⟩
                  have hE := law4_step HSJ.out hO7 hD7 hVj (by omega)
                  have HE := hide hE
                  have x2 := (HSJ.out.only hO7 (by omega)).cell ht
                  have x3 := (HSJ.out.only hO7 (by omega)).free (gt n1 r n2 A' k j)
                  clear hE HR HSJ v2 v3 v1' v4 hDj hVj hO7 hD7
                  go_wp2
                  go_roundw
                  case rel => exact ⟨j + 1, by omega, by go_num, HE.out.1, ⟨_, HE.out.2.1⟩, HE.out.2.2⟩
                  case measure => simp [intOf]; omega
              · have hje : j = (got n1 r n2 A' k).length := by omega
                have hfin : Arr wr gs 4 (pr r n1) (fun t => .bool (seenK n1 r n2 A' (k + 1) t)) := hSj.congr (fun t _ => by rw [hje, seen_all])
                have hBf : Below gs w3 wr := hB36.trans ⟨hVj.os, hVj.tape, hVj.output, hVj.size, fun b hb => hVj.block b (by have := hS6.lt; omega) (by omega) (by omega)⟩
                have HF := hide hfin
                clear hfin hje hSj hVj
                go_wp2
                go_roundw
                case rel => exact ⟨k + 1, by omega, by go_num, HF.out, ⟨_, hDj⟩, hBf⟩
                case measure => simp [intOf]; omega
          · have hfin : Below w.heap.size w wo := hB3.trans (hBk.mono (by rw [HGS.out]; exact hB3.size))
            clear hSk hDk hBk
            go_wp2
            go_ret
            exact ⟨rfl, hfin⟩

end Go.Proofs.Qxb6614073a
