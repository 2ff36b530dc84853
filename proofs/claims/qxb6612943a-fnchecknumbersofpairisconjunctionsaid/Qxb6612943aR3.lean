import Derived.Test.Qxb6612943aR2
namespace Go.Proofs.Qxb6612943a
open Go.RowKit
set_option linter.unusedVariables false
set_option linter.unusedSimpArgs false

set_option maxRecDepth 1000000 in
set_option maxHeartbeats 4000000 in
theorem seq_obj {f : Nat} (ih : CN f) (w : World) (S g n : Nat) (d : Nat → Int) (p i e : Nat) (b : Int) (B M B0 : Nat) (hS : Sc w S g n d p) (hBt : Bt n d) (hB : Px w B S) (hM : Mx w M B0 S) (hB0 : Px w B0 S) (hr : Run ws d n p i) (hi : i < n) (hd : d i = 123) (j : Nat) (hj : Run ws d n (i + 1) j) (hjn : j < n)
    (hit : (d j = 125 ∧ e = j + 1 ∧ b = -1) ∨ (d j ≠ 125 ∧ G d n f 125 j e b)) :
    Calls Try.prog 32 #[.pointer (some ⟨S, 0, none⟩), .int .u8 123, .int .u8 125, .func (.func 33) #[] #[.pointer (some ⟨B, 0, none⟩), .pointer (some ⟨M, 0, none⟩)]] w (CPost S g n d e b w) := by
  have hn := hBt.2.2
  have t1 : (d i != 123) = false := by simp [hd]
  have HR := Hid.mk (And.intro hr hj)
  clear hd hr hj
  go_enter Try.func32, Try.ntmps32
  go_wp2_with fail
  refine (next_at S g n d p i w hS hBt hi HR.out.1).mono ?_
  rintro en w1 ⟨rfl, hb1, hS1⟩
  have c1 := hS1.c1
  have f1 := hS1.free 1
  have hS2 : Sc (w1.setCell ⟨S, 1, none⟩ (.int .i64 ((i : Int) + 1))) S g n d (i + 1) := hS1.set' (by omega) (by omega)
  have hb2 : But S w (w1.setCell ⟨S, 1, none⟩ (.int .i64 ((i : Int) + 1))) := hb1.set 1 _
  have HN := Hid.mk (next_at S g n d (i + 1) j _ hS2 hBt hjn HR.out.2)
  have HB2 := Hid.mk hb2
  clear hS2 hb2
  go_wp2_with fail
  refine HN.out.mono ?_
  rintro en w2 ⟨rfl, hb3, hS3⟩
  have HB3 := Hid.mk (HB2.out.trans hb3)
  clear HN HB2 hb3 c1 f1 hS1 hb1
  rcases hit with ⟨hc, he, hb⟩ | ⟨hc, hG⟩
  · have t2 : (d j == 125) = true := by simp [hc]
    have c3 := hS3.c1
    have f3 := hS3.free 1
    have HE := Hid.mk (And.intro he hb)
    clear hc he hb
    go_wp2
    go_ret
    exact ⟨by rw [HE.out.2]; rfl, HB3.out.set 1 _, hS3.set' (by rw [HE.out.2, stop_neg (by omega), HE.out.1]; omega) (by rw [HE.out.2, stop_neg (by omega), HE.out.1]; omega)⟩
  · have t2 : (d j == 125) = false := by simp [hc]
    have HG := Hid.mk hG
    clear hc hG
    go_wp2_with fail
    go_loopw [] (fun wr => ∃ p' j' f', f' ≤ f ∧ But S w wr ∧ Sc wr S g n d p' ∧ Run ws d n p' j' ∧ G d n f' 125 j' e b) (fun wr => n - pos wr S)
    case atStart => exact ⟨j, j, f, Nat.le_refl _, HB3.out, hS3, HR.out.2.self, HG.out⟩
    case round =>
      obtain ⟨p', j', f', hff, hbr, hSr, hrr, hGr⟩ := hrel
      clear HG HB3 hS3
      cases f' with
      | zero => exact hGr.elim
      | succ f' =>
      rcases hGr with ⟨h0, _⟩ | ⟨_, v, e1, b1, k, hp, hv, hk, hkn, h⟩
      · exact absurd h0 (by omega)
      have hD : Dl d n e1 := Dl.of_run hk (fun _ => by
        rcases h with ⟨h, _⟩ | ⟨h, _⟩
        · exact .inl h
        · rw [h]; unfold dl; omega)
      have l1 := hrr.1
      have l2 := hp.le
      have l3 := hv.le.1
      have l4 := hk.1
      have HC := Hid.mk (clo33 ih wr S g n d p' j' v e1 b1 B M B0 hSr hBt (hB.but hbr) (hM.but hbr) (hB0.but hbr) hrr hp (hv.mono f (by omega)) hD)
      have HK := Hid.mk hk
      have HH := Hid.mk h
      have hbr' := hbr
      clear hp hv hk h hD
      go_wp2_with fail
      refine HC.out.mono ?_
      rintro en w4 ⟨rfl, hb4, hS4⟩
      have HB4 := Hid.mk (hbr.trans hb4)
      clear hb4 HC
      by_cases hb1 : b1 < 0
      · rw [stop_neg hb1] at hS4
        simp only [hb1, decide_true]
        go_wp2_with fail
        refine (next_at S g n d e1 k w4 hS4 hBt hkn HK.out).mono ?_
        rintro en w5 ⟨rfl, hb5, hS5⟩
        have HB5 := Hid.mk (HB4.out.trans hb5)
        have c5 := hS5.c1
        have f5 := hS5.free 1
        clear hb5 HB4
        rcases HH.out with ⟨h44, m, b2, hm, hg, hbb⟩ | ⟨hcl, he, hbb⟩
        · have t4 : (d k == 44) = true := by simp [h44]
          have HX : Hid (Run ws d n (k + 1) m ∧ G d n f' 125 m e b) := ⟨hm, by rw [hbb, if_pos hb1]; exact hg⟩
          clear h44 hm hg hbb HH
          go_wp2
          go_roundw
          case rel => exact ⟨k + 1, m, f', by omega, HB5.out.set 1 _, hS5.set' (by omega) (by omega), HX.out.1, HX.out.2⟩
          case measure =>
            have z1 := (hS5.set' (x := (k : Int) + 1) (q := k + 1) (by omega) (by omega)).pos
            have z2 := hSr.pos
            rw [z1, z2]
            omega
        · have t4 : (d k == 44) = false := by simp [hcl]
          have t5 : (d k == 125) = true := by simp [hcl]
          have HX := Hid.mk (And.intro he hbb)
          clear hcl he hbb HH
          go_wp2
          go_ret
          exact ⟨by rw [HX.out.2]; simp [hb1], HB5.out.set 1 _, hS5.set' (by rw [HX.out.2, stop_neg hb1, HX.out.1]; omega) (by rw [HX.out.2, stop_neg hb1, HX.out.1]; omega)⟩
      · have hbb : b = b1 := by
          rcases HH.out with ⟨_, m, b2, _, _, hbb⟩ | ⟨_, _, hbb⟩
          · rw [hbb, if_neg hb1]
          · exact hbb
        have HX : Hid (decide (b < 0) = false ∧ stop e1 b1 = stop e b) := ⟨by rw [hbb]; simpa using hb1, by rw [hbb]; exact stop_pos hb1⟩
        rw [HX.out.2] at hS4
        have hf1 : decide (b1 < 0) = false := by simpa using hb1
        rw [hf1]
        clear hbb hf1 hb1 HH
        go_wp2
        go_ret
        exact ⟨by rw [HX.out.1]; rfl, HB4.out, hS4⟩


end Go.Proofs.Qxb6612943a
