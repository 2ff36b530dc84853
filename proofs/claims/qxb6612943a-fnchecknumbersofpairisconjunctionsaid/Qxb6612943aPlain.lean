import Derived.WalkKit
/-! THE PLAIN LAW's WORDS: runs, strings, numbers and the grammar, over the text's bytes d 0, d 1, .., d (n - 1). No Go in sight. -/
namespace Go.Proofs.Qxb6612943a
set_option linter.unusedVariables false
set_option linter.unusedSimpArgs false

def ws (c : Int) : Prop := c = 32 ∨ c = 9 ∨ c = 10 ∨ c = 13
def dg (c : Int) : Prop := 48 ≤ c ∧ c ≤ 57
def dl (c : Int) : Prop := c = 44 ∨ c = 58 ∨ c = 125 ∨ c = 93 ∨ ws c

/-- r is the end of the run of P that begins at j. -/
def Run (P : Int → Prop) (d : Nat → Int) (n j r : Nat) : Prop := j ≤ r ∧ r ≤ n ∧ (∀ k, j ≤ k → k < r → P (d k)) ∧ (r < n → ¬ P (d r))

theorem Run.eq {P : Int → Prop} {d : Nat → Int} {n j r r' : Nat} (h : Run P d n j r) (h' : Run P d n j r') : r = r' := by
  obtain ⟨a1, a2, a3, a4⟩ := h
  obtain ⟨b1, b2, b3, b4⟩ := h'
  rcases Nat.lt_trichotomy r r' with l | l | l
  · exact absurd (b3 r a1 l) (a4 (by omega))
  · exact l
  · exact absurd (a3 r' b1 l) (b4 (by omega))
theorem Run.self {P : Int → Prop} {d : Nat → Int} {n j r : Nat} (h : Run P d n j r) : Run P d n r r := ⟨Nat.le_refl _, h.2.1, fun k h1 h2 => by omega, h.2.2.2⟩
theorem Run.here {P : Int → Prop} {d : Nat → Int} {n j : Nat} (hj : j ≤ n) (h : j < n → ¬ P (d j)) : Run P d n j j := ⟨Nat.le_refl _, hj, fun k h1 h2 => by omega, h⟩

/-- The string that the scanner reads from j on (behind the quote) ends at e. -/
def Q (d : Nat → Int) (n : Nat) : Nat → Nat → Nat → Prop
  | 0, _, _ => False
  | f + 1, j, e => j < n ∧ ((d j = 34 ∧ e = j + 1) ∨ (d j = 92 ∧ Q d n f (j + 2) e) ∨ (d j ≠ 34 ∧ d j ≠ 92 ∧ Q d n f (j + 1) e))

theorem Q.le {d : Nat → Int} {n : Nat} : ∀ {f j e : Nat}, Q d n f j e → j < e ∧ e ≤ n
  | 0, _, _, h => h.elim
  | f + 1, j, e, ⟨h1, h⟩ => by
    rcases h with ⟨_, rfl⟩ | ⟨_, h⟩ | ⟨_, _, h⟩
    · omega
    · have := h.le; omega
    · have := h.le; omega

/-- The number that the digits d x, .. , d (x + k - 1) write. -/
def ev (d : Nat → Int) (x : Nat) : Nat → Int
  | 0 => 0
  | k + 1 => ev d x k * 10 + (d (x + k) - 48)

/-- Where the exponent's digits begin, the letter standing at b. -/
def xs (d : Nat → Int) (n b : Nat) : Nat := if b + 1 < n ∧ (d (b + 1) = 43 ∨ d (b + 1) = 45) then b + 2 else b + 1

/-- A number of the grammar from i to e, and whether it is within bounds. Its digits begin at s; those ahead of the point end at a; those behind it at b. -/
def Num (d : Nat → Int) (n i e : Nat) (inb : Bool) : Prop :=
  ∃ s a b : Nat, s = (if d i = 45 then i + 1 else i) ∧ s < a ∧ a ≤ b ∧ b ≤ e ∧ e ≤ n ∧ (∀ k, s ≤ k → k < a → dg (d k)) ∧ (d s ≠ 48 → Run dg d n s a) ∧ (d s = 48 → a = s + 1) ∧
    ((d a = 46 ∧ a < n ∧ Run dg d n (a + 1) b ∧ a + 1 < b) ∨ ((a < n → d a ≠ 46) ∧ b = a)) ∧
    ((b < n ∧ (d b = 101 ∨ d b = 69) ∧ Run dg d n (xs d n b) e ∧ xs d n b < e ∧ inb = decide (((a : Int) - s) + (if d a = 46 ∧ a < n then (b : Int) - (a + 1) else 0) ≤ 1000 ∧ ev d (xs d n b) (e - xs d n b) ≤ 1000)) ∨
     ((b < n → d b ≠ 101 ∧ d b ≠ 69) ∧ e = b ∧ inb = decide (((a : Int) - s) + (if d a = 46 ∧ a < n then (b : Int) - (a + 1) else 0) ≤ 1000)))

/-- What stands ahead of an item's value: nothing in an array (t = 93); the name and the colon in an object (t = 125). -/
def Pre (d : Nat → Int) (n : Nat) (t : Int) (j v : Nat) : Prop :=
  (t = 93 ∧ v = j) ∨ (t = 125 ∧ j < n ∧ d j = 34 ∧ ∃ q e0 c, Q d n q (j + 1) e0 ∧ Run ws d n e0 c ∧ c < n ∧ d c = 58 ∧ Run ws d n (c + 1) v)

/-- THE GRAMMAR. Tag 0: a value from i to e whose first number out of bounds ends at b (-1: none). Tag 93, 125: the items of an array, an object, from i (an item's first byte) to e (behind the bracket). -/
def G (d : Nat → Int) (n : Nat) : Nat → Int → Nat → Nat → Int → Prop
  | 0, _, _, _, _ => False
  | f + 1, t, i, e, b =>
    (t = 0 ∧ i < n ∧
      ((d i = 34 ∧ (∃ q, Q d n q (i + 1) e) ∧ b = -1) ∨
       ((d i = 45 ∨ dg (d i)) ∧ ∃ inb, Num d n i e inb ∧ b = if inb = true then -1 else (e : Int)) ∨
       ((d i = 116 ∨ d i = 102 ∨ d i = 110) ∧ i < e ∧ e ≤ n ∧ (∀ k, i ≤ k → k < e → ¬ dl (d k)) ∧ b = -1) ∨
       ((d i = 91 ∨ d i = 123) ∧ ∃ j, Run ws d n (i + 1) j ∧ j < n ∧ ((d j = d i + 2 ∧ e = j + 1 ∧ b = -1) ∨ (d j ≠ d i + 2 ∧ G d n f (d i + 2) j e b))))) ∨
    ((t = 93 ∨ t = 125) ∧ ∃ v e1 b1 k, Pre d n t i v ∧ G d n f 0 v e1 b1 ∧ Run ws d n e1 k ∧ k < n ∧
      ((d k = 44 ∧ ∃ m b2, Run ws d n (k + 1) m ∧ G d n f t m e b2 ∧ b = if b1 < 0 then b2 else b1) ∨
       (d k = t ∧ e = k + 1 ∧ b = b1)))

theorem G.mono {d : Nat → Int} {n : Nat} : ∀ {f : Nat} (F : Nat) {t : Int} {i e : Nat} {b : Int}, f ≤ F → G d n f t i e b → G d n F t i e b
  | 0, _, _, _, _, _, _, h => h.elim
  | f + 1, 0, _, _, _, _, hF, _ => by omega
  | f + 1, F + 1, t, i, e, b, hF, h => by
    rcases h with ⟨ht, hi, h⟩ | ⟨ht, v, e1, b1, k, hp, hv, hk, hkn, h⟩
    · refine .inl ⟨ht, hi, ?_⟩
      rcases h with h | h | h | ⟨hc, j, hj, hjn, h⟩
      · exact .inl h
      · exact .inr (.inl h)
      · exact .inr (.inr (.inl h))
      · refine .inr (.inr (.inr ⟨hc, j, hj, hjn, ?_⟩))
        rcases h with h | ⟨h1, h2⟩
        · exact .inl h
        · exact .inr ⟨h1, h2.mono F (by omega)⟩
    · refine .inr ⟨ht, v, e1, b1, k, hp, hv.mono F (by omega), hk, hkn, ?_⟩
      rcases h with ⟨h1, m, b2, h2, h3, h4⟩ | h
      · exact .inl ⟨h1, m, b2, h2, h3.mono F (by omega), h4⟩
      · exact .inr h

/-- Where the value ends, a delimiter stands, or the text is over. -/
def Dl (d : Nat → Int) (n e : Nat) : Prop := e ≤ n ∧ (e < n → dl (d e))

theorem Dl.of_run {d : Nat → Int} {n e k : Nat} (h : Run ws d n e k) (hk : k < n → dl (d k)) : Dl d n e := by
  obtain ⟨h1, h2, h3, h4⟩ := h
  refine ⟨by omega, fun he => ?_⟩
  by_cases hek : e = k
  · subst hek; exact hk he
  · have := h3 e (Nat.le_refl _) (by omega)
    exact .inr (.inr (.inr (.inr this)))

end Go.Proofs.Qxb6612943a
