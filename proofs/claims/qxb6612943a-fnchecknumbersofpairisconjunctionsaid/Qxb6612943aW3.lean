import Derived.Test.Qxb6612943aW2
namespace Go.Proofs.Qxb6612943a
open Go.RowKit
open Classical
set_option linter.unusedVariables false
set_option linter.unusedSimpArgs false

/-! jsonNumber -/
def NmPost (n i : Nat) (d : Nat → Int) (w : World) (e : Ending) (w' : World) : Prop :=
  w' = w ∧ ∃ (e1 : Nat) (ok inb : Bool), e = .returned (.tuple #[.int .i64 e1, .bool ok, .bool inb]) ∧ (ok = true → Num d n i e1 inb)
theorem NmPost.no {n i : Nat} {d : Nat → Int} {w : World} (j : Nat) (x : Bool) : NmPost n i d w (.returned (.tuple #[.int .i64 j, .bool false, .bool x])) w := ⟨rfl, j, false, x, rfl, fun h => by cases h⟩

def st (d : Nat → Int) (i : Nat) : Nat := if d i = 45 then i + 1 else i

/-- Behind the digits ahead of the point. -/
def NA (d : Nat → Int) (n i s a : Nat) : Prop := s = (if d i = 45 then i + 1 else i) ∧ s < a ∧ a ≤ n ∧ (∀ k, s ≤ k → k < a → dg (d k)) ∧ (d s ≠ 48 → Run dg d n s a) ∧ (d s = 48 → a = s + 1)
/-- Behind the fraction; c: the count of digits. -/
def NB (d : Nat → Int) (n i b : Nat) (c : Int) : Prop := ∃ s a, NA d n i s a ∧ a ≤ b ∧ b ≤ n ∧ c = ((a : Int) - s) + (if d a = 46 ∧ a < n then (b : Int) - (a + 1) else 0) ∧
  ((d a = 46 ∧ a < n ∧ Run dg d n (a + 1) b ∧ a + 1 < b) ∨ ((a < n → d a ≠ 46) ∧ b = a))

theorem NB.plain {d : Nat → Int} {n i b : Nat} {c : Int} (h : NB d n i b c) (hb : b < n → d b ≠ 101 ∧ d b ≠ 69) : Num d n i b (decide (c ≤ 1000)) := by
  obtain ⟨s, a, ⟨h1, h2, h3, h4, h5, h6⟩, h7, h8, rfl, h9⟩ := h
  exact ⟨s, a, b, h1, h2, h7, Nat.le_refl _, h8, h4, h5, h6, h9, .inr ⟨hb, rfl, rfl⟩⟩

theorem NB.exp {d : Nat → Int} {n i b e : Nat} {c : Int} (h : NB d n i b c) (hb : b < n) (hx : d b = 101 ∨ d b = 69) (hr : Run dg d n (xs d n b) e) (hl : xs d n b < e) (inb : Bool) (hi : inb = decide (c ≤ 1000 ∧ ev d (xs d n b) (e - xs d n b) ≤ 1000)) : Num d n i e inb := by
  obtain ⟨s, a, ⟨h1, h2, h3, h4, h5, h6⟩, h7, h8, rfl, h9⟩ := h
  refine ⟨s, a, b, h1, h2, h7, ?_, hr.2.1, h4, h5, h6, h9, .inl ⟨hb, hx, hr, hl, hi⟩⟩
  have : b ≤ xs d n b := by unfold xs; split <;> omega
  omega

/-- The state of the exponent's loop: k digits read. -/
def SV (d : Nat → Int) (x k : Nat) (sig val : Int) : Prop :=
  0 ≤ sig ∧ sig ≤ k ∧ 0 ≤ val ∧ val ≤ 9999 ∧ 0 ≤ ev d x k ∧ (sig ≤ 4 → val = ev d x k) ∧ (sig = 0 → ev d x k = 0) ∧ (sig = 0 → val ≤ 0) ∧ (sig = 1 → val ≤ 9 ∧ 1 ≤ ev d x k) ∧ (sig = 2 → val ≤ 99 ∧ 10 ≤ ev d x k) ∧ (sig = 3 → val ≤ 999 ∧ 100 ≤ ev d x k) ∧ (sig = 4 → 1000 ≤ ev d x k) ∧ (4 < sig → 10000 ≤ ev d x k)

theorem SV.zero (d : Nat → Int) (x : Nat) : SV d x 0 0 0 := by simp [SV, ev]
theorem SV.same {d : Nat → Int} {x k : Nat} {val : Int} (h : SV d x k 0 val) (hd : d (x + k) = 48) : SV d x (k + 1) 0 val := by
  unfold SV at h ⊢
  simp only [ev, hd]
  omega
theorem SV.more {d : Nat → Int} {x k : Nat} {sig val : Int} (h : SV d x k sig val) (hd : dg (d (x + k))) (hs : 0 < sig ∨ d (x + k) ≠ 48) (h4 : sig + 1 ≤ 4) : SV d x (k + 1) (sig + 1) (val * 10 + (d (x + k) - 48)) := by
  unfold SV at h ⊢
  unfold dg at hd
  simp only [ev]
  omega
theorem SV.over {d : Nat → Int} {x k : Nat} {sig val : Int} (h : SV d x k sig val) (hd : dg (d (x + k))) (h4 : 4 < sig + 1) : SV d x (k + 1) (sig + 1) val := by
  unfold SV at h ⊢
  unfold dg at hd
  simp only [ev]
  omega
theorem SV.end {d : Nat → Int} {x k : Nat} {sig val : Int} (h : SV d x k sig val) : (4 < sig ∨ 1000 < val) ↔ ¬ ev d x k ≤ 1000 := by
  unfold SV at h
  omega

end Go.Proofs.Qxb6612943a
