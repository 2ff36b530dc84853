import Derived.Test.Qxb6612943aR4
namespace Go.Proofs.Qxb6612943a
open Go.RowKit
set_option linter.unusedVariables false
set_option linter.unusedSimpArgs false

theorem one_block (w : World) (o : Obj) : Below w.heap.size w (w.alloc o) ∧ (w.alloc o).heap[w.heap.size]? = some o := ⟨(Below.refl _ _).alloc (Nat.le_refl _) _, heap_alloc_new w _⟩

set_option maxRecDepth 100000 in
set_option maxHeartbeats 4000000 in
theorem check_any : ∀ f, CN f := by
  intro f
  induction f with
  | zero => intro w S g n d p i e b _ _ _ hG; exact hG.elim
  | succ f ih =>
    intro w S g n d p i e b hS hBt hr hG hD
    have hn := hBt.2.2
    rcases hG with ⟨_, hi, h⟩ | ⟨h0, _⟩
    rotate_left
    · exact absurd h0 (by omega)
    obtain ⟨hb0, k0⟩ := one_block w (.cells #[.pointer (some ⟨S, 0, none⟩)] 26)
    have hlt := hS.lt
    obtain ⟨W, hW⟩ : ∃ W, W = w.alloc (.cells #[.pointer (some ⟨S, 0, none⟩)] 26) := ⟨_, rfl⟩
    obtain ⟨N, hN⟩ : ∃ N, N = w.heap.size := ⟨_, rfl⟩
    rw [← hW, ← hN] at hb0 k0
    have hP : Px W N S := ⟨by omega, cell_of_row _ _ 0 _ _ _ k0⟩
    have hbut : But S w W := Below.but (hN ▸ hb0)
    have hS0 := hS.kept (hN ▸ hb0 : Below w.heap.size w W)
    have HN := Hid.mk (next_at S g n d p i W hS0 hBt hi hr)
    have HW := Hid.mk (And.intro hW hN)
    clear hb0 k0 hW hN hr hS hlt
    have hstart : ∀ wx, But S W wx → Px wx N S := fun wx h => hP.but h
    rcases h with ⟨h34, hQ, hb⟩ | ⟨hc, inb, hNum, hb⟩ | ⟨hc, h1, h2, h3, hb⟩ | ⟨hc, j, hj, hjn, h⟩
    · -- a string
      have t1 : (d i == 123) = false := by simp [h34]
      have t2 : (d i == 91) = false := by simp [h34]
      have t3 : (d i == 45) = false := by simp [h34]
      have t4 : decide (48 ≤ d i) = false := by simp [h34]
      have HX := Hid.mk (And.intro h34 (And.intro hQ hb))
      clear h34 hQ hb
      go_enter Try.func16, Try.ntmps16
      go_wp2_with fail
      rw [← HW.out.2, ← HW.out.1]
      refine HN.out.mono ?_
      rintro en w1 ⟨rfl, hb1, hS1⟩
      have c1 := (hstart w1 hb1).2
      go_wp2_with fail
      refine (skip_str S g n d i e w1 hS1 hBt hi HX.out.1 HX.out.2.1).mono ?_
      rintro en w2 ⟨⟨v, rfl⟩, hb2, hS2⟩
      go_wp2
      go_ret
      exact ⟨by rw [HX.out.2.2]; rfl, hbut.trans (hb1.trans hb2), by rw [HX.out.2.2, stop_neg (by omega)]; exact hS2⟩
    · -- a number
      have t1 : (d i == 123) = false := by unfold dg at hc; simp; omega
      have t2 : (d i == 91) = false := by unfold dg at hc; simp; omega
      have hcc : d i ≠ 0 ∧ d i ≠ 34 ∧ d i ≠ 123 ∧ d i ≠ 91 := by unfold dg at hc; omega
      have hie := hNum.le.1
      have hen := hNum.le.2
      have HX := Hid.mk (And.intro hc (And.intro hcc (And.intro hNum hb)))
      clear hc hNum hb hcc
      go_enter Try.func16, Try.ntmps16
      go_wp2_with fail
      rw [← HW.out.2, ← HW.out.1]
      refine HN.out.mono ?_
      rintro en w1 ⟨rfl, hb1, hS1⟩
      have c1 := (hstart w1 hb1).2
      go_upto_region 6 with fail
      go_cut [22] from 8 (fun s22 wc => s22 = .bool true ∧ w1 = wc)
      case first =>
        by_cases c45 : d i = 45
        · have t3 : (d i == 45) = true := by simp [c45]
          go_wp2_with fail
          go_meet
          case rel => exact ⟨rfl, rfl⟩
        · have t3 : (d i == 45) = false := by simp [c45]
          have hdg : dg (d i) := by rcases HX.out.1 with h | h; exact absurd h c45; exact h
          have d1 := hdg.1
          have d2 := hdg.2
          go_wp2_with fail
          go_meet
          case rel => exact ⟨rfl, rfl⟩
      case rest =>
      obtain ⟨rfl, rfl⟩ := hcut
      go_wp2_with fail
      refine (skip_word S g n d i e w1 hS1 hBt hie HX.out.2.2.1.nodl hD HX.out.2.1).mono ?_
      rintro en w2 ⟨rfl, hb2, hS2⟩
      unfold lit
      go_wp2_with fail
      refine (bounds_any w2 g i (e - i) (n - i) (fun k => d (i + k)) inb HX.out.2.2.1.rel (fun k hk => hS2.cl (i + k) (by omega)) (by omega) (by omega)).mono ?_
      rintro en w3 ⟨rfl, hb3⟩
      have hS3 := hS2.kept hb3
      have HB := Hid.mk (hbut.trans (hb1.trans (hb2.trans (Below.but hb3))))
      clear hb1 hb2 hb3 c1
      cases inb with
      | true =>
        go_wp2
        go_ret
        have hb : b = -1 := by rw [HX.out.2.2.2]; rfl
        exact ⟨by rw [hb]; rfl, HB.out, by rw [hb, stop_neg (by omega)]; exact hS3⟩
      | false =>
        go_wp2
        go_ret
        have hb : b = (e : Int) := by rw [HX.out.2.2.2]; rfl
        exact ⟨by rw [hb]; refine retB ?_; simp, HB.out, by rw [hb]; have : stop e (e : Int) = e := by { unfold stop; split <;> omega }; rw [this]; exact hS3⟩
    · -- a word
      have t1 : (d i == 123) = false := by simp; omega
      have t2 : (d i == 91) = false := by simp; omega
      have t3 : (d i == 45) = false := by simp; omega
      have t4 : (48 : Int) ≤ d i := by omega
      have t5 : decide (d i ≤ 57) = false := by simp; omega
      have hcc : d i ≠ 0 ∧ d i ≠ 34 ∧ d i ≠ 123 ∧ d i ≠ 91 := by omega
      have HX := Hid.mk (And.intro hcc (And.intro h3 hb))
      clear hc h3 hb hcc
      go_enter Try.func16, Try.ntmps16
      go_wp2_with fail
      rw [← HW.out.2, ← HW.out.1]
      refine HN.out.mono ?_
      rintro en w1 ⟨rfl, hb1, hS1⟩
      have c1 := (hstart w1 hb1).2
      go_wp2_with fail
      refine (skip_word S g n d i e w1 hS1 hBt h1 HX.out.2.1 hD HX.out.1).mono ?_
      rintro en w2 ⟨rfl, hb2, hS2⟩
      unfold lit
      go_wp2
      go_ret
      exact ⟨by rw [HX.out.2.2]; rfl, hbut.trans (hb1.trans hb2), by rw [HX.out.2.2, stop_neg (by omega)]; exact hS2⟩
    · rcases hc with hc | hc
      · have t1 : (d i == 123) = false := by simp [hc]
        have t2 : (d i == 91) = true := by simp [hc]
        rw [hc] at h
        have HX := Hid.mk (And.intro hc (And.intro hj h))
        clear hc hj h
        go_enter Try.func16, Try.ntmps16
        go_wp2_with fail
        rw [← HW.out.2, ← HW.out.1]
        refine HN.out.mono ?_
        rintro en w1 ⟨rfl, hb1, hS1⟩
        have c1 := (hstart w1 hb1).2
        have HC := Hid.mk (elems ih w1 S g n d i i e b N hS1 hBt (hstart w1 hb1) (Run.here (by omega) (fun _ => by rw [HX.out.1]; unfold ws; omega)) hi HX.out.1 j HX.out.2.1 hjn HX.out.2.2)
        go_wp2_with fail
        refine HC.out.mono ?_
        rintro en w2 ⟨rfl, hb2, hS2⟩
        go_wp2
        go_ret
        exact ⟨rfl, hbut.trans (hb1.trans hb2), hS2⟩
      · have t1 : (d i == 123) = true := by simp [hc]
        rw [hc] at h
        have HX := Hid.mk (And.intro hc (And.intro hj h))
        clear hc hj h
        go_enter Try.func16, Try.ntmps16
        go_wp2_with fail
        rw [← HW.out.2, ← HW.out.1]
        refine HN.out.mono ?_
        rintro en w1 ⟨rfl, hb1, hS1⟩
        have c1 := (hstart w1 hb1).2
        have HC := Hid.mk (membs ih w1 S g n d i i e b N hS1 hBt (hstart w1 hb1) (Run.here (by omega) (fun _ => by rw [HX.out.1]; unfold ws; omega)) hi HX.out.1 j HX.out.2.1 hjn HX.out.2.2)
        go_wp2_with fail
        refine HC.out.mono ?_
        rintro en w2 ⟨rfl, hb2, hS2⟩
        go_wp2
        go_ret
        exact ⟨rfl, hbut.trans (hb1.trans hb2), hS2⟩

end Go.Proofs.Qxb6612943a
