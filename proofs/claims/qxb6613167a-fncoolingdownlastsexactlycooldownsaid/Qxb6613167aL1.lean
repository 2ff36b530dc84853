import Derived.Test.Qxb6613167aW4
namespace Go.Proofs.Qxb6613167a
open Go.RowKit
set_option linter.unusedVariables false
set_option linter.unusedSimpArgs false

theorem cool_at (m a b c : Int) (ha0 : -4611686018427387904 ≤ a) (ha1 : a ≤ 4611686018427387904) (hb0 : -2305843009213693952 ≤ b) (hb1 : b ≤ 2305843009213693952) (v : Bool) (hv : decide (b ≠ 0 ∧ a - b < c) = v) (w : World) :
    Calls Try.prog 7 #[stV m (a % 1000000000) (a / 1000000000) (b % 1000000000) (b / 1000000000), .int .i64 c] w fun e w' => e = .returned (.bool v) ∧ Below w.heap.size w w' := by
  by_cases hb : b = 0
  · subst hb
    have h : v = false := by rw [← hv]; simp
    subst h
    have e1 : (0 : Int) % 1000000000 = 0 := by decide
    have e2 : (0 : Int) / 1000000000 = 0 := by decide
    rw [e1, e2]
    exact zzCool_any _ _ _ _ _ _ _ (cool_zero m _ _ c) w
  · have h : decide (a - b < c) = v := by rw [← hv]; simp [hb]
    have := cool_any m (a % 1000000000) (a / 1000000000) (b % 1000000000) (b / 1000000000) (a - b) c (by omega) (by omega) (by omega) (by omega) (by omega) (by omega) (by omega) (by omega) (by omega) (by omega) (by omega) (by omega)
    rw [h] at this
    exact zzCool_any _ _ _ _ _ _ _ this w

theorem in60_yes (x : Int) (h0 : -1152921504606846976 ≤ x) (h1 : x ≤ 1152921504606846976) (w : World) : Calls Try.prog 6 #[.int .i64 x] w fun e w' => e = .returned (.bool true) ∧ w' = w := by
  go_enter Try.func6, Try.ntmps6
  go_wp2
  go_ret
  exact ⟨rfl, rfl⟩

theorem in60_no (x : Int) (h : x < -1152921504606846976 ∨ 1152921504606846976 < x) (w : World) : Calls Try.prog 6 #[.int .i64 x] w fun e w' => e = .returned (.bool false) ∧ w' = w := by
  rcases h with h | h
  · go_enter Try.func6, Try.ntmps6
    go_wp2
    go_ret
    exact ⟨rfl, rfl⟩
  · have hq : decide (x ≤ 1152921504606846976) = false := by simp; omega
    go_enter Try.func6, Try.ntmps6
    go_wp2
    go_ret
    exact ⟨rfl, rfl⟩

/-- Within ±2^60. -/
def R60 (x : Int) : Bool := decide (-1152921504606846976 ≤ x ∧ x ≤ 1152921504606846976)

theorem in60_any (x : Int) (w : World) : Calls Try.prog 6 #[.int .i64 x] w fun e w' => e = .returned (.bool (R60 x)) ∧ w' = w := by
  by_cases h : -1152921504606846976 ≤ x ∧ x ≤ 1152921504606846976
  · have e : R60 x = true := by unfold R60; simp [h]
    rw [e]
    exact in60_yes x h.1 h.2 w
  · have e : R60 x = false := by unfold R60; simp only [decide_eq_false_iff_not]; exact h
    rw [e]
    exact in60_no x (by omega) w

set_option maxRecDepth 100000 in
set_option maxHeartbeats 1000000 in
theorem law_in (m now last c : Int) (n0 : -1152921504606846976 ≤ now) (n1 : now ≤ 1152921504606846976) (l0 : -1152921504606846976 ≤ last) (l1 : last ≤ 1152921504606846976) (c0 : 1 ≤ c) (c1 : c ≤ 1152921504606846976) (w : World) :
    Calls Try.prog 3 #[.int .i64 m, .int .i64 now, .int .i64 last, .int .i64 c] w fun e w' => e = .returned (.bool true) ∧ Below w.heap.size w w' := by
  obtain ⟨z, hz⟩ : ∃ z, z = (last != 0) := ⟨_, rfl⟩
  have A1 := stateAt_any m (last + c - 1) last (by omega) (by omega) (by omega) (by omega)
  have A2 := cool_at m (last + c - 1) last c (by omega) (by omega) (by omega) (by omega) z (by
    rw [hz]
    by_cases h : last = 0
    · simp [h]
    · have h2 : last + c - 1 - last < c := by omega
      simp [h, h2])
  have B1 := stateAt_any m (last + c) last (by omega) (by omega) (by omega) (by omega)
  have B2 := cool_at m (last + c) last c (by omega) (by omega) (by omega) (by omega) false (by
    have h2 : ¬ (last + c - last < c) := by omega
    simp [h2])
  have C1 := stateAt_any m now 0 (by omega) (by omega) (by omega) (by omega)
  have C2 := cool_at m now 0 c (by omega) (by omega) (by omega) (by omega) false (by simp)
  have HA1 := Hid.mk A1
  have HA2 := Hid.mk A2
  have HB1 := Hid.mk B1
  have HB2 := Hid.mk B2
  have HC1 := Hid.mk C1
  have HC2 := Hid.mk C2
  have HI1 : R60 now = true := by unfold R60; simp only [decide_eq_true_eq]; omega
  have HI2 : R60 last = true := by unfold R60; simp only [decide_eq_true_eq]; omega
  have zz : (z == z) = true := by simp
  have hz' := hz.symm
  have g1 : -9223372036854775808 ≤ last + c := by omega
  have g2 : last + c ≤ 9223372036854775807 := by omega
  have g3 : -9223372036854775808 ≤ last + c - 1 := by omega
  have g4 : last + c - 1 ≤ 9223372036854775807 := by omega
  clear A1 A2 B1 B2 C1 C2 hz
  go_enter Try.func3, Try.ntmps3
  go_wp2_with (first | (go_at_call 6; refine (in60_any _ _).mono ?_; rintro e w1 ⟨rfl, rfl⟩))
  refine (HA1.out _).mono ?_
  rintro e w1 ⟨rfl, hb1⟩
  go_wp2_with fail
  refine (HA2.out _).mono ?_
  rintro e w2 ⟨rfl, hb2⟩
  have k2 := hb1.trans (hb2.mono hb1.size)
  clear hb1 hb2
  go_wp2_with fail
  refine (HB1.out _).mono ?_
  rintro e w3 ⟨rfl, hb3⟩
  have k3 := k2.trans (hb3.mono k2.size)
  clear k2 hb3
  go_wp2_with fail
  refine (HB2.out _).mono ?_
  rintro e w4 ⟨rfl, hb4⟩
  have k4 := k3.trans (hb4.mono k3.size)
  clear k3 hb4
  go_wp2_with fail
  refine (HC1.out _).mono ?_
  rintro e w5 ⟨rfl, hb5⟩
  have k5 := k4.trans (hb5.mono k4.size)
  clear k4 hb5
  go_wp2_with fail
  refine (HC2.out _).mono ?_
  rintro e w6 ⟨rfl, hb6⟩
  have k6 := k5.trans (hb6.mono k5.size)
  clear k5 hb6
  go_wp2
  go_ret
  exact ⟨rfl, k6⟩

set_option maxRecDepth 100000 in
set_option maxHeartbeats 1000000 in
theorem law_out1 (m now last c : Int) (h : now < -1152921504606846976 ∨ 1152921504606846976 < now) (w : World) :
    Calls Try.prog 3 #[.int .i64 m, .int .i64 now, .int .i64 last, .int .i64 c] w fun e w' => e = .returned (.bool true) ∧ Below w.heap.size w w' := by
  have HI1 : R60 now = false := by unfold R60; simp only [decide_eq_false_iff_not]; omega
  clear h
  go_enter Try.func3, Try.ntmps3
  go_wp2_with (first | (go_at_call 6; refine (in60_any _ _).mono ?_; rintro e w1 ⟨rfl, rfl⟩))
  go_ret
  exact ⟨rfl, Below.refl _ _⟩

set_option maxRecDepth 100000 in
set_option maxHeartbeats 1000000 in
theorem law_out2 (m now last c : Int) (n0 : -1152921504606846976 ≤ now) (n1 : now ≤ 1152921504606846976) (h : last < -1152921504606846976 ∨ 1152921504606846976 < last) (w : World) :
    Calls Try.prog 3 #[.int .i64 m, .int .i64 now, .int .i64 last, .int .i64 c] w fun e w' => e = .returned (.bool true) ∧ Below w.heap.size w w' := by
  have HI1 : R60 now = true := by unfold R60; simp only [decide_eq_true_eq]; omega
  have HI2 : R60 last = false := by unfold R60; simp only [decide_eq_false_iff_not]; omega
  clear h n0 n1
  go_enter Try.func3, Try.ntmps3
  go_wp2_with (first | (go_at_call 6; refine (in60_any _ _).mono ?_; rintro e w1 ⟨rfl, rfl⟩))
  go_ret
  exact ⟨rfl, Below.refl _ _⟩

set_option maxRecDepth 100000 in
set_option maxHeartbeats 1000000 in
theorem law_out3 (m now last c : Int) (n0 : -1152921504606846976 ≤ now) (n1 : now ≤ 1152921504606846976) (l0 : -1152921504606846976 ≤ last) (l1 : last ≤ 1152921504606846976) (h : c < 1 ∨ 1152921504606846976 < c) (w : World) :
    Calls Try.prog 3 #[.int .i64 m, .int .i64 now, .int .i64 last, .int .i64 c] w fun e w' => e = .returned (.bool true) ∧ Below w.heap.size w w' := by
  have HI1 : R60 now = true := by unfold R60; simp only [decide_eq_true_eq]; omega
  have HI2 : R60 last = true := by unfold R60; simp only [decide_eq_true_eq]; omega
  clear n0 n1 l0 l1
  rcases h with h | h
  · have hq : decide (c < 1) = true := by simpa using h
    go_enter Try.func3, Try.ntmps3
    go_wp2_with (first | (go_at_call 6; refine (in60_any _ _).mono ?_; rintro e w1 ⟨rfl, rfl⟩))
    go_ret
    exact ⟨rfl, Below.refl _ _⟩
  · have hq : decide (c < 1) = false := by simp; omega
    have hr : decide (1152921504606846976 < c) = true := by simpa using h
    go_enter Try.func3, Try.ntmps3
    go_wp2_with (first | (go_at_call 6; refine (in60_any _ _).mono ?_; rintro e w1 ⟨rfl, rfl⟩))
    go_ret
    exact ⟨rfl, Below.refl _ _⟩

/-- The law, whatever the input. -/
theorem law (m now last c : Int) (w : World) :
    Calls Try.prog 3 #[.int .i64 m, .int .i64 now, .int .i64 last, .int .i64 c] w fun e w' => e = .returned (.bool true) ∧ Below w.heap.size w w' := by
  by_cases h1 : now < -1152921504606846976 ∨ 1152921504606846976 < now
  · exact law_out1 m now last c h1 w
  · by_cases h2 : last < -1152921504606846976 ∨ 1152921504606846976 < last
    · exact law_out2 m now last c (by omega) (by omega) h2 w
    · by_cases h3 : c < 1 ∨ 1152921504606846976 < c
      · exact law_out3 m now last c (by omega) (by omega) (by omega) (by omega) h3 w
      · exact law_in m now last c (by omega) (by omega) (by omega) (by omega) (by omega) (by omega) w

end Go.Proofs.Qxb6613167a
