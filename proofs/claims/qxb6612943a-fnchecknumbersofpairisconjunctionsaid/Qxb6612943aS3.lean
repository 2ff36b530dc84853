import Derived.Test.Qxb6612943aS2
namespace Go.Proofs.Qxb6612943a
open Go.RowKit
open Classical
set_option linter.unusedVariables false
set_option linter.unusedSimpArgs false

/-! skip -/
theorem next_here (S g n : Nat) (d : Nat → Int) (p : Nat) (w : World) (hS : Sc w S g n d p) (hB : Bt n d) (hp : p < n) (hw : ¬ ws (d p)) :
    Calls Try.prog 24 #[.pointer (some ⟨S, 0, none⟩)] w fun e w' => e = .returned (.int .u8 (d p)) ∧ But S w w' ∧ Sc w' S g n d p := by
  refine (next_any S g n d p w hS hB).mono ?_
  rintro e w' ⟨r, hr, rfl, h1, h2⟩
  obtain rfl := hr.eq (Run.here (by omega) (fun _ => hw))
  exact ⟨by simp [cur, hp], h1, h2⟩

theorem next_at (S g n : Nat) (d : Nat → Int) (p i : Nat) (w : World) (hS : Sc w S g n d p) (hB : Bt n d) (hi : i < n) (hr : Run ws d n p i) :
    Calls Try.prog 24 #[.pointer (some ⟨S, 0, none⟩)] w fun e w' => e = .returned (.int .u8 (d i)) ∧ But S w w' ∧ Sc w' S g n d i := by
  refine (next_any S g n d p w hS hB).mono ?_
  rintro e w' ⟨r, hr', rfl, h1, h2⟩
  obtain rfl := hr'.eq hr
  exact ⟨by simp [cur, hi], h1, h2⟩

set_option maxRecDepth 100000 in
set_option maxHeartbeats 1000000 in
theorem skip_str (S g n : Nat) (d : Nat → Int) (p e1 : Nat) (w : World) (hS : Sc w S g n d p) (hB : Bt n d) (hp : p < n) (h34 : d p = 34) (hQ : ∃ f, Q d n f (p + 1) e1) :
    Calls Try.prog 29 #[.pointer (some ⟨S, 0, none⟩)] w (SPost S g n d e1 w) := by
  have hn := hB.2.2
  have hw : ¬ ws (d p) := by rw [h34]; unfold ws; omega
  have t1 : (d p == 0) = false := by simp [h34]
  have t2 : (d p == 34) = true := by simp [h34]
  have hq : p + 1 < e1 ∧ e1 ≤ n := by obtain ⟨f, hf⟩ := hQ; exact hf.le
  have hq1 := hq.1
  have hq2 := hq.2
  have HW := Hid.mk (And.intro hw hQ)
  clear h34 hw hq hQ
  go_enter Try.func29, Try.ntmps29
  go_wp2_with fail
  refine (next_here S g n d p w hS hB hp HW.out.1).mono ?_
  rintro e w1 ⟨rfl, hB1, hS1⟩
  have c1 := hS1.c1
  go_wp2_with fail
  refine (str_any S g n d p e1 w1 hS1 hB HW.out.2).mono ?_
  rintro e w2 ⟨⟨v, rfl⟩, hB2, hS2⟩
  have k0 := hS2.c0
  have k1 := hS2.c1
  have HB := Hid.mk (hB1.trans hB2)
  clear c1 hB1 hB2
  go_wp2_with fail
  go_quiet (fail)
  go_wp2
  go_ret2
  exact ⟨⟨_, rfl⟩, HB.out.drewN _, hS2.drewN _⟩

/-- The slice of the text from p to e. -/
def lit (g n p e : Nat) : Value := .slice (some ⟨g, p, none⟩) (e - p) (n - p)

set_option maxRecDepth 100000 in
set_option maxHeartbeats 1000000 in
theorem skip_word (S g n : Nat) (d : Nat → Int) (p e1 : Nat) (w : World) (hS : Sc w S g n d p) (hB : Bt n d) (hp : p < e1) (hN : ∀ k, p ≤ k → k < e1 → ¬ dl (d k)) (hD : Dl d n e1) (hc : d p ≠ 0 ∧ d p ≠ 34 ∧ d p ≠ 123 ∧ d p ≠ 91) :
    Calls Try.prog 29 #[.pointer (some ⟨S, 0, none⟩)] w fun e w' => e = .returned (.tuple #[lit g n p e1, .bool true]) ∧ But S w w' ∧ Sc w' S g n d e1 := by
  have hn := hB.2.2
  have hen := hD.1
  have hw : ¬ ws (d p) := fun h => hN p (Nat.le_refl _) hp (.inr (.inr (.inr (.inr h))))
  have t1 : (d p == 0) = false := by simp [hc.1]
  have t2 : (d p == 34) = false := by simp [hc.2.1]
  have t3 : (d p == 123) = false := by simp [hc.2.2.1]
  have t4 : (d p == 91) = false := by simp [hc.2.2.2]
  have HW := Hid.mk hw
  have HN := Hid.mk hN
  have HD := Hid.mk hD
  have x0 := ix_head g n n
  clear hw hN hD hc
  go_enter Try.func29, Try.ntmps29
  go_wp2_with fail
  refine (next_here S g n d p w hS hB (by omega) HW.out).mono ?_
  rintro e w1 ⟨rfl, hB1, hS1⟩
  have c1 := hS1.c1
  go_wp2_with fail
  clear c1
  go_loopw [] (fun wr => ∃ k, p ≤ k ∧ k ≤ e1 ∧ But S w wr ∧ Sc wr S g n d k) (fun wr => n - pos wr S)
  case atStart => exact ⟨p, Nat.le_refl _, by omega, hB1, hS1⟩
  case round =>
    obtain ⟨k, hk, hke, hBt, hSk⟩ := hrel
    have c0 := hSk.c0
    have c1 := hSk.c1
    have hfr := hSk.free 1
    by_cases hlt : k < e1
    · have hkn : (k : Int) < n := by omega
      have e0 := hSk.cl k (by omega)
      have hnd : decide (dl (d k)) = false := by simpa using HN.out k hk hlt
      have hcall := fun w => isDelim_any (d k) w
      rw [hnd] at hcall
      go_wp2_with fail
      go_quiet (first | (go_at_call 35; refine Calls.quiet_of_same (hcall _)))
      go_wp2
      go_roundw
      case rel => exact ⟨k + 1, by omega, by omega, (hBt.drewN _).set 1 _, (hSk.drewN _).set' (q := k + 1) (by omega) (by omega)⟩
      case measure => exact pos_lt ((hSk.drewN _).set' (q := k + 1) (by omega) (by omega)) hSk (by omega)
    · obtain rfl : k = e1 := by omega
      by_cases hkn' : k < n
      · have hkn : (k : Int) < n := by omega
        have e0 := hSk.cl k (by omega)
        have hnd : decide (dl (d k)) = true := by simpa using HD.out.2 hkn'
        have hcall := fun w => isDelim_any (d k) w
        rw [hnd] at hcall
        go_wp2_with fail
        go_quiet (first | (go_at_call 35; refine Calls.quiet_of_same (hcall _)))
        go_wp2_with fail
        go_quiet (fail)
        go_wp2
        go_ret2
        exact ⟨by simp [lit], (hBt.drewN _).drewN _, (hSk.drewN _).drewN _⟩
      · have hkn : decide ((k : Int) < n) = false := by simp; omega
        go_wp2_with fail
        go_quiet (fail)
        go_wp2_with fail
        go_quiet (fail)
        go_wp2
        go_ret2
        exact ⟨by simp [lit], (hBt.drewN _).drewN _, (hSk.drewN _).drewN _⟩

end Go.Proofs.Qxb6612943a
