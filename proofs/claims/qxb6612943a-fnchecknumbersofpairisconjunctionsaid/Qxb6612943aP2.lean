import Derived.Test.Qxb6612943aPlain
/-! A number of the grammar as splitNumber sees it: its own bytes alone, from 0 to m. -/
namespace Go.Proofs.Qxb6612943a
set_option linter.unusedVariables false
set_option linter.unusedSimpArgs false

/-- The count of the digits ahead of the exponent. -/
def cnt (d : Nat → Int) (n s a b : Nat) : Int := ((a : Int) - s) + (if d a = 46 ∧ a < n then (b : Int) - (a + 1) else 0)

def NumR (d : Nat → Int) (m : Nat) (inb : Bool) : Prop :=
  ∃ s a b : Nat, s = (if d 0 = 45 then 1 else 0) ∧ s ≤ a ∧ a ≤ b ∧ b ≤ m ∧ 0 < m ∧ Run dg d m s a ∧
    ((a < m ∧ d a = 46 ∧ Run dg d m (a + 1) b) ∨ ((a < m → d a ≠ 46) ∧ b = a)) ∧
    ((b < m ∧ (d b = 101 ∨ d b = 69) ∧ xs d m b ≤ m ∧ Run dg d m (xs d m b) m ∧ inb = decide (cnt d m s a b ≤ 1000 ∧ ev d (xs d m b) (m - xs d m b) ≤ 1000)) ∨
     (b = m ∧ inb = decide (cnt d m s a b ≤ 1000)))

theorem ev_shift (d : Nat → Int) (i x : Nat) : ∀ k, ev (fun k => d (i + k)) x k = ev d (i + x) k
  | 0 => rfl
  | k + 1 => by simp only [ev, ev_shift d i x k, Nat.add_assoc]

theorem Run.rel {d : Nat → Int} {n i e j r : Nat} (h : Run dg d n j r) (hi : i ≤ j) (hr : r ≤ e) (he : e ≤ n) : Run dg (fun k => d (i + k)) (e - i) (j - i) (r - i) := by
  obtain ⟨h1, h2, h3, h4⟩ := h
  refine ⟨by omega, by omega, fun k k1 k2 => h3 (i + k) (by omega) (by omega), fun hlt => ?_⟩
  dsimp only
  rw [show i + (r - i) = r by omega]
  exact h4 (by omega)

theorem Num.rel {d : Nat → Int} {n i e : Nat} {inb : Bool} (h : Num d n i e inb) : NumR (fun k => d (i + k)) (e - i) inb := by
  obtain ⟨s, a, b, hs, h1, h2, h3, h4, h5, h6, h7, h8, h9⟩ := h
  have his : i ≤ s := by rw [hs]; split <;> omega
  have h46 : (d a = 46 ∧ a < n) ↔ (d (i + (a - i)) = 46 ∧ a - i < e - i) := by
    rw [show i + (a - i) = a by omega]
    constructor
    · rintro ⟨k1, k2⟩
      rcases h8 with ⟨_, _, _, k3⟩ | ⟨k3, _⟩
      · exact ⟨k1, by omega⟩
      · exact absurd k1 (k3 k2)
    · rintro ⟨k1, k2⟩
      exact ⟨k1, by omega⟩
  have hcnt : cnt (fun k => d (i + k)) (e - i) (s - i) (a - i) (b - i) = ((a : Int) - s) + (if d a = 46 ∧ a < n then (b : Int) - (a + 1) else 0) := by
    unfold cnt
    by_cases hh : d a = 46 ∧ a < n
    · have hab : a < b := by
        rcases h8 with ⟨_, _, _, k3⟩ | ⟨k3, _⟩
        · omega
        · exact absurd hh.1 (k3 hh.2)
      rw [if_pos hh, if_pos (h46.1 hh)]
      omega
    · rw [if_neg hh, if_neg (fun k => hh (h46.2 k))]
      omega
  have hA : a < e → ¬ dg (d a) := by
    intro hae
    rcases h8 with ⟨k1, _⟩ | ⟨k1, rfl⟩
    · rw [k1]; unfold dg; omega
    · rcases h9 with ⟨_, k2 | k2, _⟩ | ⟨_, k2, _⟩
      · rw [k2]; unfold dg; omega
      · rw [k2]; unfold dg; omega
      · omega
  refine ⟨s - i, a - i, b - i, ?_, by omega, by omega, by omega, by omega, ?_, ?_, ?_⟩
  · simp only [Nat.add_zero]
    rw [hs]
    split <;> omega
  · refine ⟨by omega, by omega, fun k k1 k2 => h5 (i + k) (by omega) (by omega), fun hlt => ?_⟩
    dsimp only
    rw [show i + (a - i) = a by omega]
    exact hA (by omega)
  · rcases h8 with ⟨k1, k2, k3, k4⟩ | ⟨k1, k2⟩
    · refine .inl ⟨by omega, by dsimp only; rw [show i + (a - i) = a by omega]; exact k1, ?_⟩
      rw [show a - i + 1 = (a + 1) - i by omega]
      exact k3.rel (by omega) h3 h4
    · refine .inr ⟨fun hlt => ?_, by omega⟩
      dsimp only
      rw [show i + (a - i) = a by omega]
      exact k1 (by omega)
  · rcases h9 with ⟨k1, k2, k3, k4, k5⟩ | ⟨k1, k2, k3⟩
    · have hx : xs (fun k => d (i + k)) (e - i) (b - i) = xs d n b - i := by
        unfold xs at k4 ⊢
        have e1 : i + (b - i + 1) = b + 1 := by omega
        simp only [e1]
        by_cases hh : b + 1 < n ∧ (d (b + 1) = 43 ∨ d (b + 1) = 45)
        · rw [if_pos hh] at k4 ⊢
          rw [if_pos ⟨by omega, hh.2⟩]
          omega
        · rw [if_neg hh] at k4 ⊢
          rw [if_neg (fun k => hh ⟨by omega, k.2⟩)]
          omega
      have hbx : b < xs d n b := by unfold xs; split <;> omega
      refine .inl ⟨by omega, by dsimp only; rw [show i + (b - i) = b by omega]; exact k2, by rw [hx]; omega, ?_, ?_⟩
      · rw [hx]
        exact k3.rel (by omega) (Nat.le_refl _) h4
      · rw [hcnt, hx, ev_shift, show i + (xs d n b - i) = xs d n b by omega, show e - i - (xs d n b - i) = e - xs d n b by omega]
        exact k5
    · exact .inr ⟨by omega, by rw [hcnt]; exact k3⟩

/-- The exponent as splitNumber counts it: k digits read. -/
def EX (d : Nat → Int) (x k : Nat) (v : Int) : Prop := 0 ≤ v ∧ v ≤ 1099511627776 ∧ 0 ≤ ev d x k ∧ (ev d x k < 1099511627776 → v = ev d x k) ∧ (1099511627776 ≤ ev d x k → v = 1099511627776)
theorem EX.zero (d : Nat → Int) (x : Nat) : EX d x 0 0 := by simp [EX, ev]
theorem EX.succ {d : Nat → Int} {x k : Nat} {v : Int} (h : EX d x k v) (hd : dg (d (x + k))) : EX d x (k + 1) (if 1099511627776 < v * 10 + (d (x + k) - 48) then 1099511627776 else v * 10 + (d (x + k) - 48)) := by
  unfold EX at h ⊢
  unfold dg at hd
  simp only [ev]
  split <;> omega
theorem EX.end {d : Nat → Int} {x k : Nat} {v : Int} (h : EX d x k v) : ev d x k ≤ 1000 ↔ v ≤ 1000 := by
  unfold EX at h
  omega

end Go.Proofs.Qxb6612943a
