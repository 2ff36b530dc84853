import Derived.Test.Qxb6612943aPlain
/-! A text inside a longer one: what the grammar says of it, moved by the offset. -/
namespace Go.Proofs.Qxb6612943a
set_option linter.unusedVariables false
set_option linter.unusedSimpArgs false

/-- The text d, of n bytes, lies in D (N bytes) from o on, and a comma or a bracket stands behind it. -/
structure In (d : Nat → Int) (n : Nat) (D : Nat → Int) (N o : Nat) : Prop where
  at_ : ∀ k, k < n → D (o + k) = d k
  le : o + n < N
  tm : D (o + n) = 44 ∨ D (o + n) = 93

theorem Run.sh {P : Int → Prop} {d D : Nat → Int} {n N o j r : Nat} (h : Run P d n j r) (hI : In d n D N o) (hP : ¬ P (D (o + n))) : Run P D N (o + j) (o + r) := by
  obtain ⟨h1, h2, h3, h4⟩ := h
  have hl := hI.le
  refine ⟨by omega, by omega, fun k k1 k2 => ?_, fun _ => ?_⟩
  · have := hI.at_ (k - o) (by omega)
    rw [show o + (k - o) = k by omega] at this
    rw [this]
    exact h3 _ (by omega) (by omega)
  · by_cases hr : r < n
    · rw [hI.at_ r hr]; exact h4 hr
    · obtain rfl : r = n := by omega
      exact hP
theorem In.ws {d D : Nat → Int} {n N o : Nat} (hI : In d n D N o) : ¬ ws (D (o + n)) := by
  unfold Qxb6612943a.ws
  rcases hI.tm with h | h <;> rw [h] <;> omega
theorem In.dg {d D : Nat → Int} {n N o : Nat} (hI : In d n D N o) : ¬ dg (D (o + n)) := by
  unfold Qxb6612943a.dg
  rcases hI.tm with h | h <;> rw [h] <;> omega

theorem Q.sh {d D : Nat → Int} {n N o : Nat} (hI : In d n D N o) : ∀ {f j e : Nat}, Q d n f j e → Q D N f (o + j) (o + e)
  | 0, _, _, h => h.elim
  | f + 1, j, e, ⟨h1, h⟩ => by
    have hl := hI.le
    have hj := hI.at_ j h1
    refine ⟨by omega, ?_⟩
    rw [hj]
    rcases h with ⟨h2, rfl⟩ | ⟨h2, h⟩ | ⟨h2, h3, h⟩
    · exact .inl ⟨h2, by omega⟩
    · exact .inr (.inl ⟨h2, Q.sh hI h⟩)
    · exact .inr (.inr ⟨h2, h3, Q.sh hI h⟩)

theorem ev_sh {d D : Nat → Int} {n N o : Nat} (hI : In d n D N o) (x : Nat) : ∀ k, x + k ≤ n → ev D (o + x) k = ev d x k
  | 0, _ => rfl
  | k + 1, h => by
    simp only [ev]
    rw [ev_sh hI x k (by omega), Nat.add_assoc, hI.at_ (x + k) (by omega)]

theorem In.at46 {d D : Nat → Int} {n N o a : Nat} (hI : In d n D N o) (ha : a ≤ n) : (D (o + a) = 46 ∧ o + a < N) ↔ (d a = 46 ∧ a < n) := by
  have hl := hI.le
  by_cases h : a < n
  · rw [hI.at_ a h]
    constructor
    · rintro ⟨k, _⟩; exact ⟨k, h⟩
    · rintro ⟨k, _⟩; exact ⟨k, by omega⟩
  · obtain rfl : a = n := by omega
    constructor
    · rintro ⟨k, _⟩
      rcases hI.tm with h | h <;> rw [h] at k <;> omega
    · rintro ⟨_, k⟩; omega

theorem Num.sh {d D : Nat → Int} {n N o i e : Nat} {inb : Bool} (hI : In d n D N o) (h : Num d n i e inb) : Num D N (o + i) (o + e) inb := by
  obtain ⟨s, a, b, hs, h1, h2, h3, h4, h5, h6, h7, h8, h9⟩ := h
  have hl := hI.le
  have his : i ≤ s := by rw [hs]; split <;> omega
  have hcnt : ((o + a : Nat) : Int) - (o + s : Nat) + (if D (o + a) = 46 ∧ o + a < N then ((o + b : Nat) : Int) - ((o + a : Nat) + 1) else 0) = ((a : Int) - s) + (if d a = 46 ∧ a < n then (b : Int) - (a + 1) else 0) := by
    by_cases hh : d a = 46 ∧ a < n
    · rw [if_pos hh, if_pos ((hI.at46 (by omega)).2 hh)]; omega
    · rw [if_neg hh, if_neg (fun k => hh ((hI.at46 (by omega)).1 k))]; omega
  refine ⟨o + s, o + a, o + b, ?_, by omega, by omega, by omega, by omega, ?_, ?_, ?_, ?_, ?_⟩
  · rw [hI.at_ i (by omega), hs]; split <;> omega
  · intro k k1 k2
    have := hI.at_ (k - o) (by omega)
    rw [show o + (k - o) = k by omega] at this
    rw [this]
    exact h5 _ (by omega) (by omega)
  · rw [hI.at_ s (by omega)]
    exact fun h => (h6 h).sh hI hI.dg
  · rw [hI.at_ s (by omega)]
    exact fun h => by have := h7 h; omega
  · rcases h8 with ⟨k1, k2, k3, k4⟩ | ⟨k1, k2⟩
    · refine .inl ⟨((hI.at46 (by omega)).2 ⟨k1, k2⟩).1, by omega, ?_, by omega⟩
      have := k3.sh hI hI.dg
      exact this
    · exact .inr ⟨fun hlt hh => by
        have := (hI.at46 (by omega)).1 ⟨hh, hlt⟩
        exact k1 this.2 this.1, by omega⟩
  · rw [hcnt]
    rcases h9 with ⟨k1, k2, k3, k4, k5⟩ | ⟨k1, k2, k3⟩
    · have hx : xs D N (o + b) = o + xs d n b := by
        unfold xs
        by_cases hb1 : b + 1 < n
        · have e1 : D (o + b + 1) = d (b + 1) := hI.at_ (b + 1) hb1
          by_cases hc : d (b + 1) = 43 ∨ d (b + 1) = 45
          · rw [if_pos ⟨by omega, by rw [e1]; exact hc⟩, if_pos ⟨hb1, hc⟩]; omega
          · rw [if_neg (by rw [e1]; exact fun k => hc k.2), if_neg (fun k => hc k.2)]; omega
        · have e1 : D (o + b + 1) = D (o + n) := by rw [show o + b + 1 = o + n by omega]
          rw [if_neg (by rw [e1]; rcases hI.tm with h | h <;> rw [h] <;> omega), if_neg (fun k => hb1 k.1)]; omega
      refine .inl ⟨by omega, by rw [hI.at_ b k1]; exact k2, by rw [hx]; exact k3.sh hI hI.dg, by omega, ?_⟩
      rw [hx, ev_sh hI _ _ (by omega), show o + e - (o + xs d n b) = e - xs d n b by omega]
      exact k5
    · refine .inr ⟨fun hlt => ?_, by omega, k3⟩
      by_cases hb : b < n
      · rw [hI.at_ b hb]; exact k1 hb
      · obtain rfl : b = n := by omega
        rcases hI.tm with h | h <;> rw [h] <;> omega

theorem Pre.sh {d D : Nat → Int} {n N o j v : Nat} {t : Int} (hI : In d n D N o) (h : Pre d n t j v) : Pre D N t (o + j) (o + v) := by
  have hl := hI.le
  rcases h with ⟨h1, rfl⟩ | ⟨h1, h2, h3, q, e0, c, h4, h5, h6, h7, h8⟩
  · exact .inl ⟨h1, rfl⟩
  · refine .inr ⟨h1, by omega, by rw [hI.at_ j h2]; exact h3, q, o + e0, o + c, Q.sh hI h4, h5.sh hI hI.ws, by omega, by rw [hI.at_ c h6]; exact h7, h8.sh hI hI.ws⟩

/-- A place moved by o; -1 stays. -/
def sb (o : Nat) (b : Int) : Int := if b < 0 then b else b + o
theorem sb_neg (o : Nat) {b : Int} (h : b < 0) : sb o b = b := by simp [sb, h]
theorem sb_pos (o : Nat) {b : Int} (h : ¬ b < 0) : sb o b = b + o := by simp [sb, h]
theorem sb_lt (o : Nat) (b : Int) : sb o b < 0 ↔ b < 0 := by unfold sb; split <;> omega
theorem sb_if (o : Nat) (b1 b2 : Int) : sb o (if b1 < 0 then b2 else b1) = if sb o b1 < 0 then sb o b2 else sb o b1 := by
  by_cases h : b1 < 0
  · rw [if_pos h, if_pos ((sb_lt o b1).2 h)]
  · rw [if_neg h, if_neg (fun k => h ((sb_lt o b1).1 k))]

theorem G.sh {d D : Nat → Int} {n N o : Nat} (hI : In d n D N o) : ∀ {f : Nat} {t : Int} {i e : Nat} {b : Int}, G d n f t i e b → G D N f t (o + i) (o + e) (sb o b)
  | 0, _, _, _, _, h => h.elim
  | f + 1, t, i, e, b, h => by
    have hl := hI.le
    rcases h with ⟨ht, hi, h⟩ | ⟨ht, v, e1, b1, k, hp, hv, hk, hkn, h⟩
    · refine .inl ⟨ht, by omega, ?_⟩
      rw [hI.at_ i hi]
      rcases h with ⟨h1, ⟨q, hq⟩, hb⟩ | ⟨h1, inb, hN, hb⟩ | ⟨h1, h2, h3, h4, hb⟩ | ⟨hc, j, hj, hjn, h⟩
      · exact .inl ⟨h1, ⟨q, Q.sh hI hq⟩, by rw [hb, sb_neg _ (by omega)]⟩
      · refine .inr (.inl ⟨h1, inb, hN.sh hI, ?_⟩)
        rw [hb]
        cases inb
        · rw [if_neg (by simp), if_neg (by simp), sb_pos _ (by omega)]; omega
        · rw [if_pos rfl, if_pos rfl, sb_neg _ (by omega)]
      · refine .inr (.inr (.inl ⟨h1, by omega, by omega, fun k k1 k2 => ?_, by rw [hb, sb_neg _ (by omega)]⟩))
        have := hI.at_ (k - o) (by omega)
        rw [show o + (k - o) = k by omega] at this
        rw [this]
        exact h4 _ (by omega) (by omega)
      · refine .inr (.inr (.inr ⟨hc, o + j, hj.sh hI hI.ws, by omega, ?_⟩))
        rw [hI.at_ j hjn]
        rcases h with ⟨h1, rfl, hb⟩ | ⟨h1, hg⟩
        · exact .inl ⟨h1, rfl, by rw [hb, sb_neg _ (by omega)]⟩
        · exact .inr ⟨h1, G.sh hI hg⟩
    · refine .inr ⟨ht, o + v, o + e1, sb o b1, o + k, hp.sh hI, G.sh hI hv, hk.sh hI hI.ws, by omega, ?_⟩
      rw [hI.at_ k hkn]
      rcases h with ⟨h1, m, b2, hm, hg, hb⟩ | ⟨h1, rfl, hb⟩
      · exact .inl ⟨h1, o + m, sb o b2, hm.sh hI hI.ws, G.sh hI hg, by rw [hb, sb_if]⟩
      · exact .inr ⟨h1, rfl, by rw [hb]⟩

/-- A value's first byte closes no array. -/
theorem G.first {d : Nat → Int} {n f i e : Nat} {b : Int} (h : G d n f 0 i e b) : d i ≠ 93 := by
  cases f with
  | zero => exact h.elim
  | succ f =>
    rcases h with ⟨_, _, h⟩ | ⟨h, _⟩
    · rcases h with ⟨h, _⟩ | ⟨h, _⟩ | ⟨h, _⟩ | ⟨h, _⟩
      · omega
      · unfold dg at h; omega
      · omega
      · omega
    · omega

/-- THE PAIR [a,b]. -/
theorem G.pair {da db D : Nat → Int} {na nb ia ea ib eb fa fb : Nat} {ba bb : Int} (hA : In da na D (na + nb + 3) 1) (hB : In db nb D (na + nb + 3) (na + 2)) (h0 : D 0 = 91) (h1 : D (1 + na) = 44) (h2 : D (na + 2 + nb) = 93)
    (ra : Run ws da na 0 ia) (ga : G da na fa 0 ia ea ba) (ra' : Run ws da na ea na) (rb : Run ws db nb 0 ib) (gb : G db nb fb 0 ib eb bb) (rb' : Run ws db nb eb nb) (lia : ia < na) (lib : ib < nb) :
    G D (na + nb + 3) (fa + fb + 3) 0 0 (na + nb + 3) (if sb 1 ba < 0 then sb (na + 2) bb else sb 1 ba) := by
  have ga' := (ga.sh hA).mono (fa + fb + 1) (by omega)
  have gb' := (gb.sh hB).mono (fa + fb) (by omega)
  refine .inl ⟨rfl, by omega, .inr (.inr (.inr ⟨.inl h0, 1 + ia, ra.sh hA hA.ws, by omega, .inr ⟨?_, ?_⟩⟩))⟩
  · rw [h0, hA.at_ ia lia]; exact ga.first
  · rw [h0]
    refine .inr ⟨.inl rfl, 1 + ia, 1 + ea, sb 1 ba, 1 + na, .inl ⟨rfl, rfl⟩, ga', ra'.sh hA hA.ws, by omega, .inl ⟨h1, na + 2 + ib, sb (na + 2) bb, ?_, ?_, rfl⟩⟩
    · have := rb.sh hB hB.ws
      rw [show 1 + na + 1 = na + 2 + 0 by omega]
      exact this
    · refine .inr ⟨.inl rfl, na + 2 + ib, na + 2 + eb, sb (na + 2) bb, na + 2 + nb, .inl ⟨rfl, rfl⟩, gb', rb'.sh hB hB.ws, by omega, .inr ⟨h2, by omega, rfl⟩⟩

end Go.Proofs.Qxb6612943a
