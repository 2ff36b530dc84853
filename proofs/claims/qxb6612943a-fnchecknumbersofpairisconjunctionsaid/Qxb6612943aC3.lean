import Derived.Test.Qxb6612943aC2
namespace Go.Proofs.Qxb6612943a
open Go.RowKit
open Classical
set_option linter.unusedVariables false
set_option linter.unusedSimpArgs false

set_option maxRecDepth 1000000 in
set_option maxHeartbeats 4000000 in
theorem value_any (a : Option Addr) (n c g : Nat) (d : Nat → Int) : ∀ (m i : Nat), n - i ≤ m → i ≤ n → ∀ w, Tx w a n c g d →
    Calls Try.prog 15 #[.slice a n c, .int .i64 i] w (VPost n i d w) := by
  intro m
  induction m with
  | zero =>
    intro i hm hin w hT
    have hn := hT.big
    obtain rfl : n = i := by omega
    go_enter Try.func15, Try.ntmps15
    go_wp2
    go_ret3
    exact VPost.no (Dr.refl _) _ _
  | succ m ih =>
    intro i hm hin w hT
    have hn := hT.big
    have IH : ∀ j, i < j → j ≤ n → ∀ w1, Tx w1 a n c g d → Calls Try.prog 15 #[.slice a n c, .int .i64 j] w1 (VPost n j d w1) := fun j h1 h2 w1 h3 => ih j (by omega) h2 w1 h3
    clear ih
    by_cases hi : i < n
    rotate_left
    · obtain rfl : n = i := by omega
      go_enter Try.func15, Try.ntmps15
      go_wp2
      go_ret3
      exact VPost.no (Dr.refl _) _ _
    have x0 := hT.ix
    have e0 := hT.cl i hi
    have hlo := hT.lo i
    have hhi := hT.hi i
    by_cases c123 : d i = 123
    · have hc := cont_obj a n c g d i w hT hi c123 IH
      have t1 : (d i == 123) = true := by simp [c123]
      have HC := Hid.mk hc
      clear hc c123 IH
      go_enter Try.func15, Try.ntmps15
      go_wp2_with fail
      refine HC.out.mono ?_
      rintro e w1 ⟨hD1, e1, ok, b1, rfl, hok⟩
      go_wp2
      go_ret3
      exact ⟨hD1, e1, ok, b1, rfl, hok⟩
    have t1 : (d i == 123) = false := by simp [c123]
    clear c123
    by_cases c91 : d i = 91
    · have hc := cont_arr a n c g d i w hT hi c91 IH
      have t2 : (d i == 91) = true := by simp [c91]
      have HC := Hid.mk hc
      clear hc c91 IH
      go_enter Try.func15, Try.ntmps15
      go_wp2_with fail
      refine HC.out.mono ?_
      rintro e w1 ⟨hD1, e1, ok, b1, rfl, hok⟩
      go_wp2
      go_ret3
      exact ⟨hD1, e1, ok, b1, rfl, hok⟩
    have t2 : (d i == 91) = false := by simp [c91]
    clear c91 IH
    by_cases c34 : d i = 34
    · have t3 : (d i == 34) = true := by simp [c34]
      have H34 := Hid.mk c34
      clear c34
      go_enter Try.func15, Try.ntmps15
      go_wp2_with fail
      refine (string_any a n c g d i w hT hi).mono ?_
      rintro e w ⟨rfl, e1, ok, rfl, hok⟩
      go_wp2
      go_ret3
      exact ⟨Dr.refl _, e1, ok, -1, rfl, fun h => by
        obtain ⟨q, hq⟩ := hok h
        have := hq.le
        exact ⟨by omega, this.2, 1, .inl ⟨rfl, hi, .inl ⟨H34.out, ⟨q, hq⟩, rfl⟩⟩⟩⟩
    have t3 : (d i == 34) = false := by simp [c34]
    clear c34
    by_cases cnum : d i = 45 ∨ dg (d i)
    · have HN := Hid.mk cnum
      clear cnum
      have hnum := number_any a n c g d i w hT hi
      have HNu := Hid.mk hnum
      clear hnum
      go_enter Try.func15, Try.ntmps15
      go_upto_region 9 with fail
      go_cut [49] from 13 (fun s49 wc => s49 = .bool true ∧ w = wc)
      case first =>
        by_cases c45 : d i = 45
        · have t4 : (d i == 45) = true := by simp [c45]
          go_wp2_with fail
          go_meet
          case rel => exact ⟨rfl, rfl⟩
        · have t4 : (d i == 45) = false := by simp [c45]
          go_wp2_with fail
          refine (isDigit_any _ _).mono ?_
          rintro e w ⟨rfl, rfl⟩
          have hdg : decide (dg (d i)) = true := by rcases HN.out with h | h; exact absurd h c45; simpa using h
          simp only [hdg]
          go_wp2_with fail
          go_meet
          case rel => exact ⟨rfl, rfl⟩
      case rest =>
      obtain ⟨rfl, rfl⟩ := hcut
      go_wp2_with fail
      refine HNu.out.mono ?_
      rintro e w ⟨rfl, e1, ok, inb, rfl, hok⟩
      have HO := Hid.mk hok
      clear hok
      cases ok with
      | false =>
        go_wp2
        go_ret3
        exact VPost.no (Dr.refl _) _ _
      | true =>
        have HO2 := Hid.mk (HO.out rfl)
        have hle := Num.le HO2.out
        clear HO
        have hle1 := hle.1
        have hle2 := hle.2
        clear hle
        cases inb with
        | true =>
          go_wp2
          go_ret3
          exact VPost.yes (Dr.refl _) hle1 hle2 ⟨1, .inl ⟨rfl, hi, .inr (.inl ⟨HN.out, true, HO2.out, rfl⟩)⟩⟩
        | false =>
          go_wp2
          go_ret3
          exact VPost.yes (Dr.refl _) hle1 hle2 ⟨1, .inl ⟨rfl, hi, .inr (.inl ⟨HN.out, false, HO2.out, rfl⟩)⟩⟩
    have t4 : (d i == 45) = false := by simp; intro h; exact cnum (.inl h)
    have hndg : decide (dg (d i)) = false := by simp; intro h; exact cnum (.inr h)
    have HND := Hid.mk hndg
    clear cnum hndg
    by_cases cw : d i = 116 ∨ d i = 102 ∨ d i = 110
    · rcases cw with c1 | c1 | c1
      · have hw := word_true a n c g d i w hT hi
        have t5 : (d i == 116) = true := by simp [c1]
        have HC : Hid (d i = 116 ∨ d i = 102 ∨ d i = 110) := .inl c1
        have HW := Hid.mk hw
        clear hw c1
        go_enter Try.func15, Try.ntmps15
        go_wp2_with fail
        refine (isDigit_any _ _).mono ?_
        rintro e w ⟨rfl, rfl⟩
        rw [HND.out]
        go_wp2_with fail
        refine HW.out.mono ?_
        rintro e w1 ⟨hD1, e1, ok, rfl, hok⟩
        go_wp2
        go_ret3
        exact ⟨hD1, e1, ok, -1, rfl, fun h => ⟨(hok h).1, (hok h).2.1, 1, .inl ⟨rfl, hi, .inr (.inr (.inl ⟨HC.out, (hok h).1, (hok h).2.1, fun k h1 h2 => ndl ((hok h).2.2 k h1 h2), rfl⟩))⟩⟩⟩
      · have hw := word_false a n c g d i w hT hi
        have t5 : (d i == 116) = false := by simp [c1]
        have t6 : (d i == 102) = true := by simp [c1]
        have HC : Hid (d i = 116 ∨ d i = 102 ∨ d i = 110) := .inr (.inl c1)
        have HW := Hid.mk hw
        clear hw c1
        go_enter Try.func15, Try.ntmps15
        go_wp2_with fail
        refine (isDigit_any _ _).mono ?_
        rintro e w ⟨rfl, rfl⟩
        rw [HND.out]
        go_wp2_with fail
        refine HW.out.mono ?_
        rintro e w1 ⟨hD1, e1, ok, rfl, hok⟩
        go_wp2
        go_ret3
        exact ⟨hD1, e1, ok, -1, rfl, fun h => ⟨(hok h).1, (hok h).2.1, 1, .inl ⟨rfl, hi, .inr (.inr (.inl ⟨HC.out, (hok h).1, (hok h).2.1, fun k h1 h2 => ndl ((hok h).2.2 k h1 h2), rfl⟩))⟩⟩⟩
      · have hw := word_null a n c g d i w hT hi
        have t5 : (d i == 116) = false := by simp [c1]
        have t6 : (d i == 102) = false := by simp [c1]
        have t7 : (d i == 110) = true := by simp [c1]
        have HC : Hid (d i = 116 ∨ d i = 102 ∨ d i = 110) := .inr (.inr c1)
        have HW := Hid.mk hw
        clear hw c1
        go_enter Try.func15, Try.ntmps15
        go_wp2_with fail
        refine (isDigit_any _ _).mono ?_
        rintro e w ⟨rfl, rfl⟩
        rw [HND.out]
        go_wp2_with fail
        refine HW.out.mono ?_
        rintro e w1 ⟨hD1, e1, ok, rfl, hok⟩
        go_wp2
        go_ret3
        exact ⟨hD1, e1, ok, -1, rfl, fun h => ⟨(hok h).1, (hok h).2.1, 1, .inl ⟨rfl, hi, .inr (.inr (.inl ⟨HC.out, (hok h).1, (hok h).2.1, fun k h1 h2 => ndl ((hok h).2.2 k h1 h2), rfl⟩))⟩⟩⟩
    · have t5 : (d i == 116) = false := by simp; intro h; exact cw (.inl h)
      have t6 : (d i == 102) = false := by simp; intro h; exact cw (.inr (.inl h))
      have t7 : (d i == 110) = false := by simp; intro h; exact cw (.inr (.inr h))
      clear cw
      go_enter Try.func15, Try.ntmps15
      go_wp2_with fail
      refine (isDigit_any _ _).mono ?_
      rintro e w ⟨rfl, rfl⟩
      rw [HND.out]
      go_wp2
      go_ret3
      exact VPost.no (Dr.refl _) _ _

end Go.Proofs.Qxb6612943a
