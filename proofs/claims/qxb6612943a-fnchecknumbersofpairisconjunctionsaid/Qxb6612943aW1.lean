import Derived.Test.Qxb6612943aRows
import Derived.Test.Qxb6612943aArr
import Derived.Test.Qxb6612943aPlain
namespace Go.Proofs.Qxb6612943a
open Go.RowKit
open Classical
set_option linter.unusedVariables false
set_option linter.unusedSimpArgs false

/-- The text: its slice, and the bytes behind it. -/
structure Tx (w : World) (a : Option Addr) (n c g : Nat) (d : Nat → Int) : Prop where
  ix : ∀ (i : Nat) (w' : World), i < n → (Instr.indexAt 22 (.slice a n c) (.int .i64 (i : Int))).run Try.prog w' = .ok (.pointer (some ⟨g, i, none⟩)) w'
  cl : ∀ i, i < n → w.cell? ⟨g, i, none⟩ = some (.int .u8 (d i))
  lo : ∀ i, 0 ≤ d i
  hi : ∀ i, d i ≤ 255
  big : n ≤ 1048579

theorem retB {x y : Bool} (h : x = true ↔ y = true) : Ending.returned (.bool x) = Ending.returned (.bool y) := by rw [Bool.eq_iff_iff.2 h]

theorem retD {x : Bool} {p : Prop} [Decidable p] (h : x = true ↔ p) : Ending.returned (.bool x) = Ending.returned (.bool (decide p)) := by rw [Bool.eq_iff_iff.2 (h.trans decide_eq_true_iff.symm)]

theorem isWS_any (c : Int) (w : World) : Calls Try.prog 18 #[.int .u8 c] w fun e w' => e = .returned (.bool (decide (ws c))) ∧ w' = w := by
  go_enter Try.func18, Try.ntmps18
  go_wp2
  all_goals (go_ret; refine ⟨retD ?_, rfl⟩; unfold ws; simp_all; try omega)

theorem isDigit_any (c : Int) (w : World) : Calls Try.prog 21 #[.int .u8 c] w fun e w' => e = .returned (.bool (decide (dg c))) ∧ w' = w := by
  go_enter Try.func21, Try.ntmps21
  go_wp2
  all_goals (go_ret; refine ⟨retD ?_, rfl⟩; unfold dg; simp_all; try omega)

theorem isDelim_any (c : Int) (w : World) : Calls Try.prog 35 #[.int .u8 c] w fun e w' => e = .returned (.bool (decide (dl c))) ∧ w' = w := by
  go_enter Try.func35, Try.ntmps35
  go_wp2
  all_goals (go_ret; refine ⟨retD ?_, rfl⟩; unfold dl ws; simp_all; try omega)

def hx (c : Int) : Prop := dg c ∨ (97 ≤ c ∧ c ≤ 102) ∨ (65 ≤ c ∧ c ≤ 70)

theorem isHex_any (c : Int) (w : World) : Calls Try.prog 31 #[.int .u8 c] w fun e w' => e = .returned (.bool (decide (hx c))) ∧ w' = w := by
  go_enter Try.func31, Try.ntmps31
  go_wp2_with fail
  refine (isDigit_any _ _).mono ?_
  rintro e w' ⟨rfl, rfl⟩
  by_cases h : dg c
  all_goals
    simp only [h, decide_true, decide_false]
    go_wp2
    all_goals (go_ret; refine ⟨retD ?_, rfl⟩; unfold hx; simp_all; try omega)

theorem bytes6 (a0 : Option Addr) (n0 c0 : Nat) (p : Int) (w : World) (h0 : n0 ≤ maxLen) :
    Calls Try.prog 6 #[.slice a0 n0 c0, .int .i64 p] w fun e w' => ∃ b, e = .returned (.bool b) ∧ w' = w := by
  unfold maxLen at h0
  go_enter Try.func6, Try.ntmps6
  go_wp2
  all_goals (go_ret; exact ⟨_, rfl, rfl⟩)

theorem bytes12 (a0 a1 : Option Addr) (n0 c0 n1 c1 : Nat) (w : World) (h0 : n0 ≤ maxLen) (h1 : n1 ≤ maxLen) :
    Calls Try.prog 12 #[.slice a0 n0 c0, .slice a1 n1 c1] w fun e w' => ∃ b, e = .returned (.bool b) ∧ w' = w := by
  unfold maxLen at h0 h1
  go_enter Try.func12, Try.ntmps12
  go_wp2
  all_goals (go_ret; exact ⟨_, rfl, rfl⟩)

theorem sameStop_any (got : Bool) (at_ en bad : Int) (w : World) :
    Calls Try.prog 11 #[.bool got, .int .i64 at_, .int .i64 en, .int .i64 bad] w fun e w' => e = .returned (.bool (if 0 ≤ bad then (!got && decide (at_ = bad)) else (got && decide (at_ = en)))) ∧ w' = w := by
  go_enter Try.func11, Try.ntmps11
  cases got
  all_goals
    go_wp2
    all_goals (go_ret; refine ⟨retB ?_, rfl⟩; simp [*]; try omega)

theorem skipWS_any (a : Option Addr) (n c g : Nat) (d : Nat → Int) (i : Nat) (w : World) (hT : Tx w a n c g d) (hi : i ≤ n) :
    Calls Try.prog 14 #[.slice a n c, .int .i64 i] w fun e w' => w' = w ∧ ∃ r : Nat, e = .returned (.int .i64 r) ∧ Run ws d n i r := by
  have hn := hT.big
  have x0 := hT.ix
  go_enter Try.func14, Try.ntmps14
  go_wp2_with fail
  go_loop [1] (fun i' => ∃ k : Nat, i ≤ k ∧ k ≤ n ∧ i' = .int .i64 k ∧ ∀ m, i ≤ m → m < k → ws (d m)) (fun i' => n - (intOf i').toNat)
  case atStart => exact ⟨i, Nat.le_refl _, hi, rfl, fun m h1 h2 => by omega⟩
  case round =>
    obtain ⟨k, hk, hkn, rfl, hP⟩ := hrel
    by_cases hlt : k < n
    · have e0 := hT.cl k hlt
      go_wp2_with fail
      refine (isWS_any _ _).mono ?_
      rintro e w' ⟨rfl, rfl⟩
      by_cases h : ws (d k)
      · simp only [h, decide_true]
        go_wp2
        go_round
        case rel => exact ⟨k + 1, by omega, by omega, by go_num, fun m h1 h2 => by
          by_cases e : m = k
          · subst e; exact h
          · exact hP m h1 (by omega)⟩
        case measure => simp [intOf]; omega
      · simp only [h, decide_false]
        go_wp2
        go_ret
        exact ⟨rfl, k, rfl, hk, hkn, hP, fun _ => h⟩
    · obtain rfl : n = k := by omega
      go_wp2
      go_ret
      exact ⟨rfl, n, rfl, hk, hkn, hP, fun h => absurd h hlt⟩

end Go.Proofs.Qxb6612943a
