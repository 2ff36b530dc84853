import Derived.Test.Qxb6612943aZZ
import Derived.Test.Qxb6612943aP3
namespace Go.Proofs.Qxb6612943a
open Go.RowKit
set_option linter.unusedVariables false
set_option linter.unusedSimpArgs false

/-- The pair's bytes. -/
def pr (da db : Nat → Int) (na nb : Nat) (k : Nat) : Int := if k = 0 then 91 else if k < 1 + na then da (k - 1) else if k = 1 + na then 44 else if k < na + 2 + nb then db (k - (na + 2)) else 93

theorem pr_lo {da db : Nat → Int} {na nb : Nat} (h : ∀ i, 0 ≤ da i) (h' : ∀ i, 0 ≤ db i) (k : Nat) : 0 ≤ pr da db na nb k := by
  unfold pr; split; omega; split; exact h _; split; omega; split; exact h' _; omega
theorem pr_hi {da db : Nat → Int} {na nb : Nat} (h : ∀ i, da i ≤ 255) (h' : ∀ i, db i ≤ 255) (k : Nat) : pr da db na nb k ≤ 255 := by
  unfold pr; split; omega; split; exact h _; split; omega; split; exact h' _; omega
theorem pr_0 (da db : Nat → Int) (na nb : Nat) : pr da db na nb 0 = 91 := rfl
theorem pr_c (da db : Nat → Int) (na nb : Nat) : pr da db na nb (1 + na) = 44 := by
  unfold pr; rw [if_neg (by omega), if_neg (by omega), if_pos rfl]
theorem pr_e (da db : Nat → Int) (na nb : Nat) : pr da db na nb (na + 2 + nb) = 93 := by
  unfold pr; rw [if_neg (by omega), if_neg (by omega), if_neg (by omega), if_neg (by omega)]
theorem pr_a (da db : Nat → Int) (na nb : Nat) {k : Nat} (hk : k < na) : pr da db na nb (1 + k) = da k := by
  unfold pr; rw [if_neg (by omega), if_pos (by omega), show 1 + k - 1 = k by omega]
theorem pr_b (da db : Nat → Int) (na nb : Nat) {k : Nat} (hk : k < nb) : pr da db na nb (na + 2 + k) = db k := by
  unfold pr; rw [if_neg (by omega), if_neg (by omega), if_neg (by omega), if_pos (by omega), show na + 2 + k - (na + 2) = k by omega]
theorem pr_inA (da db : Nat → Int) (na nb : Nat) : In da na (pr da db na nb) (na + nb + 3) 1 := ⟨fun k hk => pr_a da db na nb hk, by omega, .inl (pr_c da db na nb)⟩
theorem pr_inB (da db : Nat → Int) (na nb : Nat) : In db nb (pr da db na nb) (na + nb + 3) (na + 2) := ⟨fun k hk => pr_b da db na nb hk, by omega, .inr (pr_e da db na nb)⟩

/-- The cells of a text. -/
def Lc (d : Nat → Int) (n : Nat) : List Value := (List.range n).map (fun i => Value.int .u8 (d i))
theorem Lc_len (d : Nat → Int) (n : Nat) : (Lc d n).length = n := by simp [Lc]
theorem Lc_get (d : Nat → Int) {n i : Nat} (h : i < n) : (Lc d n)[i]? = some (.int .u8 (d i)) := by simp [Lc, h]
theorem Lc_one (d : Nat → Int) (n : Nat) : ∀ u ∈ Lc d n, u.oneCell' = true := by
  intro u hu
  obtain ⟨_, _, rfl⟩ := List.mem_map.1 hu
  rfl
theorem pr_list (da db : Nat → Int) (na nb : Nat) {i : Nat} (h : i < na + nb + 3) : ([] ++ [Value.int .u8 91] ++ Lc da na ++ [.int .u8 44] ++ Lc db nb ++ [.int .u8 93])[i]? = some (.int .u8 (pr da db na nb i)) := by
  simp only [List.nil_append, List.getElem?_append, List.length_append, Lc_len, List.length_cons, List.length_nil]
  by_cases h1 : i = 0
  · subst h1
    rw [if_pos (by omega), if_pos (by omega), if_pos (by omega), if_pos (by omega)]; rfl
  by_cases h2 : i < 1 + na
  · rw [if_pos (by omega), if_pos (by omega), if_pos (by omega), if_neg (by omega), Lc_get da (by omega)]
    have := pr_a da db na nb (k := i - 1) (by omega)
    rw [show 1 + (i - 1) = i by omega] at this
    rw [this]
  by_cases h3 : i = 1 + na
  · subst h3
    rw [if_pos (by omega), if_pos (by omega), if_neg (by omega), pr_c, show 1 + na - (0 + 1 + na) = 0 by omega]; rfl
  by_cases h4 : i < na + 2 + nb
  · rw [if_pos (by omega), if_neg (by omega), Lc_get db (by omega)]
    have := pr_b da db na nb (k := i - (na + 2)) (by omega)
    rw [show na + 2 + (i - (na + 2)) = i by omega] at this
    rw [this, show i - (0 + 1 + na + (0 + 1)) = i - (na + 2) by omega]
  · obtain rfl : i = na + 2 + nb := by omega
    rw [if_neg (by omega), pr_e, show na + 2 + nb - (0 + 1 + na + (0 + 1) + nb) = 0 by omega]; rfl

/-- The pair's last word. -/
def bp (na : Nat) (ba bb : Int) : Int := if sb 1 ba < 0 then sb (na + 2) bb else sb 1 ba
theorem bp_a {na : Nat} {ba bb : Int} (h : ¬ ba < 0) : bp na ba bb = ba + 1 := by
  unfold bp; rw [if_neg (fun k => h ((sb_lt 1 ba).1 k)), sb_pos 1 h]; rfl
theorem bp_b {na : Nat} {ba bb : Int} (h : ba < 0) (h' : ¬ bb < 0) : bp na ba bb = bb + (na + 2) := by
  unfold bp; rw [if_pos ((sb_lt 1 ba).2 h), sb_pos _ h']; omega
theorem bp_n {na : Nat} {ba bb : Int} (h : ba < 0) (h' : bb < 0) : bp na ba bb = bb := by
  unfold bp; rw [if_pos ((sb_lt 1 ba).2 h), sb_neg _ h']


end Go.Proofs.Qxb6612943a
