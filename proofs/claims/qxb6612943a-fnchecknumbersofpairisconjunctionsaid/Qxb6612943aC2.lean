import Derived.Test.Qxb6612943aC1
namespace Go.Proofs.Qxb6612943a
open Go.RowKit
open Classical
set_option linter.unusedVariables false
set_option linter.unusedSimpArgs false

set_option maxRecDepth 1000000 in
set_option maxHeartbeats 4000000 in
theorem cont_obj (a : Option Addr) (n c g : Nat) (d : Nat → Int) (i : Nat) (w : World) (hT : Tx w a n c g d) (hi : i < n) (hd : d i = 123)
    (IH : ∀ j, i < j → j ≤ n → ∀ w1, Tx w1 a n c g d → Calls Try.prog 15 #[.slice a n c, .int .i64 j] w1 (VPost n j d w1)) :
    Calls Try.prog 19 #[.slice a n c, .int .i64 i] w (VPost n i d w) := by
  have hn := hT.big
  have x0 := hT.ix
  have e0 := hT.cl i hi
  have t0 : (d i == 123) = true := by simp [hd]
  have HD := Hid.mk hd
  clear hd
  go_enter Try.func19, Try.ntmps19
  go_wp2_with fail
  refine (skipWS_succ a n c g d i w hT hi).mono ?_
  rintro e w ⟨rfl, j0, rfl, hr0⟩
  have hj1 := hr0.1
  have hj2 := hr0.2.1
  have HR := Hid.mk hr0
  clear hr0
  have hgo : (j0 < n ∧ d j0 = 125) ∨ ((j0 < n → d j0 ≠ 125) ∧ (decide (j0 < n) && (d j0 == 125)) = false) := by
    by_cases h1 : j0 < n
    · by_cases h2 : d j0 = 125
      · exact .inl ⟨h1, h2⟩
      · exact .inr ⟨fun _ => h2, by simp [h2]⟩
    · exact .inr ⟨fun h => absurd h h1, by simp [h1]⟩
  rcases hgo with ⟨hjn, hcl⟩ | ⟨hncl, _⟩
  · have e1 := hT.cl j0 hjn
    have t1 : (d j0 == 125) = true := by simp [hcl]
    have HC := Hid.mk hcl
    clear hcl
    go_wp2
    go_ret3
    have := VPost.yes (Dr.refl w) (by omega) (by omega) (Cont.empty (t := 125) hi (.inr HD.out) (by rw [HD.out]; rfl) HR.out hjn HC.out)
    simpa using this
  · have hct := Cont.start (t := 125) hi (.inr HD.out) (by rw [HD.out]; rfl) HR.out hncl
    have HN := Hid.mk hncl
    clear hncl
    go_upto_region 7 with fail
    go_cut [37] from 16 (fun s37 wc => s37 = .bool false ∧ w = wc)
    case first =>
      by_cases hjn : j0 < n
      · have e1 := hT.cl j0 hjn
        have t1 : (d j0 == 125) = false := by have := HN.out hjn; simp [this]
        go_wp2_with fail
        go_meet
        case rel => exact ⟨rfl, rfl⟩
      · go_wp2_with fail
        go_meet
        case rel => exact ⟨rfl, rfl⟩
    case rest =>
    obtain ⟨rfl, rfl⟩ := hcut
    go_wp2_with fail
    go_loopw [9, 10] (fun s9 s10 wr => ∃ (j : Nat) (acc : Int), s9 = .int .i64 acc ∧ s10 = .int .i64 j ∧ i < j ∧ j ≤ n ∧ Dr w wr ∧ Cont d n 125 i j acc) (fun _ s10 _ => n - (intOf s10).toNat)
    case atStart => exact ⟨j0, -1, rfl, rfl, by omega, hj2, Dr.refl _, hct⟩
    case round =>
      obtain ⟨j, acc, rfl, rfl, hij, hjn, hD, hC⟩ := hrel
      have HCt := Hid.mk hC
      clear hC hct
      have hT0 := hT.dr hD
      have x0 := hT0.ix
      by_cases hjl : j < n
      rotate_left
      · go_wp2
        go_ret3
        exact VPost.no hD _ _
      have e1 := hT0.cl j hjl
      by_cases c34 : d j = 34
      rotate_left
      · have t1 : (d j == 34) = false := by simp [c34]
        have t1' : (d j != 34) = true := by simp [c34]
        go_wp2
        go_ret3
        exact VPost.no hD _ _
      have t1 : (d j == 34) = true := by simp [c34]
      have t1' : (d j != 34) = false := by simp [c34]
      have H34 := Hid.mk c34
      clear c34
      go_wp2_with fail
      refine (string_any a n c g d j wr hT0 hjl).mono ?_
      rintro e wr ⟨rfl, e0', ok, rfl, hok⟩
      cases ok with
      | false =>
        go_wp2
        go_ret3
        exact VPost.no hD _ _
      | true =>
      obtain ⟨q, hq⟩ := hok rfl
      have hq1 := hq.le
      have hq2 := hq1.2
      have hq3 := hq1.1
      have HQ := Hid.mk hq
      clear hok hq hq1
      go_wp2_with fail
      refine (skipWS_any a n c g d e0' wr hT0 hq2).mono ?_
      rintro e wr ⟨rfl, cc, rfl, hcc⟩
      have hc1 := hcc.1
      have hc2 := hcc.2.1
      have HCC := Hid.mk hcc
      clear hcc
      by_cases hcn : cc < n
      rotate_left
      · go_wp2
        go_ret3
        exact VPost.no hD _ _
      have e2 := hT0.cl cc hcn
      by_cases c58 : d cc = 58
      rotate_left
      · have t2 : (d cc == 58) = false := by simp [c58]
        have t2' : (d cc != 58) = true := by simp [c58]
        go_wp2
        go_ret3
        exact VPost.no hD _ _
      have t2 : (d cc == 58) = true := by simp [c58]
      have t2' : (d cc != 58) = false := by simp [c58]
      have H58 := Hid.mk c58
      clear c58
      go_wp2_with fail
      refine (skipWS_succ a n c g d cc wr hT0 hcn).mono ?_
      rintro e wr ⟨rfl, v, rfl, hv⟩
      have hv1 := hv.1
      have hv2 := hv.2.1
      have HPre : Hid (Pre d n 125 j v) := .inr ⟨rfl, hjl, H34.out, q, e0', cc, HQ.out, HCC.out, hcn, H58.out, hv⟩
      clear hv
      go_wp2_with fail
      refine (IH v (by omega) (by omega) wr hT0).mono ?_
      rintro e w1 ⟨hD1, e1, ok, b1, rfl, hok⟩
      have hDD := hD.trans hD1
      have hT1 := hT.dr hDD
      cases ok with
      | false =>
        go_wp2
        go_ret3
        exact VPost.no hDD _ _
      | true =>
        obtain ⟨hv1', he1n, hG⟩ := hok rfl
        have HV := Hid.mk hG
        clear hok hG
        by_cases hac : acc < 0
        · go_wp2_with fail
          refine (skipWS_any a n c g d e1 w1 hT1 he1n).mono ?_
          rintro e w1 ⟨rfl, k, rfl, hk⟩
          have hk1 := hk.1
          have hk2 := hk.2.1
          have HK := Hid.mk hk
          clear hk
          by_cases hkn : k < n
          rotate_left
          · go_wp2
            go_ret3
            exact VPost.no hDD _ _
          have e3 := hT1.cl k hkn
          by_cases c44 : d k = 44
          · have t4 : (d k == 44) = true := by simp [c44]
            have HC := Hid.mk c44
            clear c44
            go_wp2_with fail
            refine (skipWS_succ a n c g d k w1 hT1 hkn).mono ?_
            rintro e w1 ⟨rfl, m, rfl, hm⟩
            have hm1 := hm.1
            have hm2 := hm.2.1
            have HM := Hid.mk hm
            clear hm
            go_wp2
            go_roundw
            case rel => exact ⟨m, _, rfl, rfl, by omega, by omega, hDD, by have := HCt.out.item (.inr rfl) HPre.out HV.out HK.out hkn HC.out HM.out; rw [comb_neg hac] at this; exact this⟩
            case measure => simp [intOf]; omega
          · have t4 : (d k == 44) = false := by simp [c44]
            clear c44
            by_cases cE : d k = 125
            · have t5 : (d k == 125) = true := by simp [cE]
              have HC := Hid.mk cE
              clear cE
              go_wp2
              go_ret3
              have := VPost.yes (i := i) hDD (by omega) (by omega) (HCt.out.last (.inr rfl) HPre.out HV.out HK.out hkn HC.out)
              rw [comb_neg hac] at this
              simpa using this
            · have t5 : (d k == 125) = false := by simp [cE]
              clear cE
              go_wp2
              go_ret3
              exact VPost.no hDD _ _
        · go_wp2_with fail
          refine (skipWS_any a n c g d e1 w1 hT1 he1n).mono ?_
          rintro e w1 ⟨rfl, k, rfl, hk⟩
          have hk1 := hk.1
          have hk2 := hk.2.1
          have HK := Hid.mk hk
          clear hk
          by_cases hkn : k < n
          rotate_left
          · go_wp2
            go_ret3
            exact VPost.no hDD _ _
          have e3 := hT1.cl k hkn
          by_cases c44 : d k = 44
          · have t4 : (d k == 44) = true := by simp [c44]
            have HC := Hid.mk c44
            clear c44
            go_wp2_with fail
            refine (skipWS_succ a n c g d k w1 hT1 hkn).mono ?_
            rintro e w1 ⟨rfl, m, rfl, hm⟩
            have hm1 := hm.1
            have hm2 := hm.2.1
            have HM := Hid.mk hm
            clear hm
            go_wp2
            go_roundw
            case rel => exact ⟨m, _, rfl, rfl, by omega, by omega, hDD, by have := HCt.out.item (.inr rfl) HPre.out HV.out HK.out hkn HC.out HM.out; rw [comb_pos (a := acc) (by omega)] at this; exact this⟩
            case measure => simp [intOf]; omega
          · have t4 : (d k == 44) = false := by simp [c44]
            clear c44
            by_cases cE : d k = 125
            · have t5 : (d k == 125) = true := by simp [cE]
              have HC := Hid.mk cE
              clear cE
              go_wp2
              go_ret3
              have := VPost.yes (i := i) hDD (by omega) (by omega) (HCt.out.last (.inr rfl) HPre.out HV.out HK.out hkn HC.out)
              rw [comb_pos (a := acc) (by omega)] at this
              simpa using this
            · have t5 : (d k == 125) = false := by simp [cE]
              clear cE
              go_wp2
              go_ret3
              exact VPost.no hDD _ _

end Go.Proofs.Qxb6612943a
