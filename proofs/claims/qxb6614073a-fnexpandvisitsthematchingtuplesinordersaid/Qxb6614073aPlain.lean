/-!
PLAIN ARITHMETIC OF MIXED RADICES: no Go in sight.
-/
namespace Go.Proofs.Qxb6614073a
set_option linter.unusedSimpArgs false

/-- The place value of digit k: the product of the radices below it. -/
def pr (r : Nat → Nat) : Nat → Nat
  | 0 => 1
  | k + 1 => pr r k * r k

def ra (r A : Nat → Nat) : Nat → Nat := fun j => r (A j)

structure Good (n : Nat) (r : Nat → Nat) (m : Nat) (A : Nat → Nat) : Prop where
  n4 : n ≤ 4096
  m4 : m ≤ 4096
  r1 : ∀ j, j < n → 1 ≤ r j
  r2 : ∀ j, j < n → r j ≤ 65536
  p : ∀ j, j ≤ n → pr r j ≤ 65536
  an : ∀ j, j < m → A j < n
  asc : ∀ j, j + 1 < m → A j < A (j + 1)

theorem pr_pos {r : Nat → Nat} : ∀ k, (∀ j, j < k → 1 ≤ r j) → 1 ≤ pr r k
  | 0, _ => Nat.le_refl _
  | k + 1, h => Nat.mul_pos (pr_pos k (fun j hj => h j (by omega))) (h k (by omega))

theorem pr_le {r : Nat → Nat} {n : Nat} (h : ∀ j, j < n → 1 ≤ r j) : ∀ d i, i + d ≤ n → pr r i ≤ pr r (i + d)
  | 0, i, _ => Nat.le_refl _
  | d + 1, i, hd => Nat.le_trans (pr_le h d i (by omega)) (Nat.le_mul_of_pos_right _ (h (i + d) (by omega)))

theorem Good.pos {n m : Nat} {r A : Nat → Nat} (g : Good n r m A) {k : Nat} (hk : k ≤ n) : 1 ≤ pr r k := pr_pos k (fun j hj => g.r1 j (by omega))

theorem Good.mono {n m : Nat} {r A : Nat → Nat} (g : Good n r m A) {i k : Nat} (hi : i ≤ k) (hk : k ≤ n) : pr r i ≤ pr r k := by
  have := pr_le g.r1 (k - i) i (by omega)
  rwa [show i + (k - i) = k from by omega] at this

def ub (A : Nat → Nat) : Nat → Nat
  | 0 => 0
  | j + 1 => A j + 1

theorem Good.ub_n {n m : Nat} {r A : Nat → Nat} (g : Good n r m A) : ∀ j, j ≤ m → ub A j ≤ n
  | 0, _ => Nat.zero_le _
  | j + 1, h => g.an j (by omega)

theorem Good.ub_A {n m : Nat} {r A : Nat → Nat} (g : Good n r m A) : ∀ j, j < m → ub A j ≤ A j
  | 0, _ => Nat.zero_le _
  | j + 1, h => g.asc j h

theorem Good.lt {n m : Nat} {r A : Nat → Nat} (g : Good n r m A) {i : Nat} : ∀ j, i < j → j < m → A i < A j
  | 0, h, _ => by omega
  | j + 1, h, hm => by
    have h1 := g.asc j hm
    by_cases e : i = j
    · rw [e]; exact h1
    · exact Nat.lt_trans (g.lt j (by omega) (by omega)) h1

theorem Good.psub {n m : Nat} {r A : Nat → Nat} (g : Good n r m A) : ∀ j, j ≤ m → pr (ra r A) j ≤ pr r (ub A j)
  | 0, _ => Nat.le_refl _
  | j + 1, h => by
    have h1 := g.psub j (by omega)
    have h2 := g.mono (g.ub_A j (by omega)) (by have := g.an j (by omega); omega)
    exact Nat.mul_le_mul_right _ (Nat.le_trans h1 h2)

theorem Good.psub_le {n m : Nat} {r A : Nat → Nat} (g : Good n r m A) {j : Nat} (h : j ≤ m) : pr (ra r A) j ≤ 65536 :=
  Nat.le_trans (g.psub j h) (g.p _ (g.ub_n j h))

theorem Good.psub_pos {n m : Nat} {r A : Nat → Nat} (g : Good n r m A) {j : Nat} (h : j ≤ m) : 1 ≤ pr (ra r A) j :=
  pr_pos j (fun i hi => g.r1 _ (g.an i (by omega)))

/-- The j-th digit of the sub-tuple sub. -/
def sdig (r A : Nat → Nat) (sub j : Nat) : Nat := sub / pr (ra r A) j % r (A j)

theorem Good.sdig_lt {n m : Nat} {r A : Nat → Nat} (g : Good n r m A) (sub : Nat) {j : Nat} (h : j < m) : sdig r A sub j < r (A j) :=
  Nat.mod_lt _ (g.r1 _ (g.an j h))

theorem sub_step (r A : Nat → Nat) (sub j : Nat) : sub / pr (ra r A) j / r (A j) = sub / pr (ra r A) (j + 1) := by
  rw [Nat.div_div_eq_div_mul]; rfl

/-- What is left of sub behind j digits. -/
def sq (r A : Nat → Nat) (sub j : Nat) : Nat := sub / pr (ra r A) j

theorem sq_zero (r A : Nat → Nat) (sub : Nat) : sq r A sub 0 = sub := Nat.div_one _
theorem sq_le (r A : Nat → Nat) (sub j : Nat) : sq r A sub j ≤ sub := Nat.div_le_self _ _
theorem sq_mod (r A : Nat → Nat) (sub j : Nat) : (sq r A sub j : Int) % (r (A j) : Int) = (sdig r A sub j : Nat) := by simp [sq, sdig]
theorem sq_div (r A : Nat → Nat) (sub j : Nat) : (sq r A sub j : Int) / (r (A j) : Int) = (sq r A sub (j + 1) : Nat) := by
  have h := sub_step r A sub j
  have e : sq r A sub j / r (A j) = sq r A sub (j + 1) := h
  rw [← e]; simp

/-- The tuple that holds sub's digits at the first j attributes, and 0 elsewhere. -/
def rp (r A : Nat → Nat) (sub : Nat) : Nat → Nat
  | 0 => 0
  | j + 1 => rp r A sub j + sdig r A sub j * pr r (A j)

theorem Good.rp_lt {n m : Nat} {r A : Nat → Nat} (g : Good n r m A) (sub : Nat) : ∀ j, j ≤ m → rp r A sub j < pr r (ub A j)
  | 0, _ => Nat.zero_lt_one
  | j + 1, h => by
    have h1 := g.rp_lt sub j (by omega)
    have h2 := g.mono (g.ub_A j (by omega)) (by have := g.an j (by omega); omega)
    have h3 := g.sdig_lt sub (j := j) (by omega)
    show rp r A sub j + sdig r A sub j * pr r (A j) < pr r (A j) * r (A j)
    have h4 : (sdig r A sub j + 1) * pr r (A j) ≤ r (A j) * pr r (A j) := Nat.mul_le_mul_right _ h3
    rw [Nat.add_mul, Nat.one_mul] at h4
    rw [Nat.mul_comm (pr r (A j))]
    omega

/-- The digit of t at place a. -/
def dg (r : Nat → Nat) (t a : Nat) : Nat := t / pr r a % r a

theorem t_step (r : Nat → Nat) (t a : Nat) : t / pr r a / r a = t / pr r (a + 1) := by
  rw [Nat.div_div_eq_div_mul]; rfl

/-- What is left of t behind a digits. -/
def tq (r : Nat → Nat) (t a : Nat) : Nat := t / pr r a
theorem tq_zero (r : Nat → Nat) (t : Nat) : tq r t 0 = t := Nat.div_one _
theorem tq_le (r : Nat → Nat) (t a : Nat) : tq r t a ≤ t := Nat.div_le_self _ _
theorem tq_mod (r : Nat → Nat) (t a : Nat) : (tq r t a : Int) % (r a : Int) = (dg r t a : Nat) := by simp [tq, dg]
theorem tq_div (r : Nat → Nat) (t a : Nat) : (tq r t a : Int) / (r a : Int) = (tq r t (a + 1) : Nat) := by
  have e : tq r t a / r a = tq r t (a + 1) := t_step r t a
  rw [← e]; simp
theorem tq_div0 (r : Nat → Nat) (t a : Nat) : (t : Int) / (pr r a : Int) = (tq r t a : Nat) := by simp [tq]

/-- What stands at the fixed places; which places are fixed. -/
def wantF (r A : Nat → Nat) (sub : Nat) : Nat → Nat → Nat
  | 0 => fun _ => 0
  | k + 1 => fun a => if a = A k then sdig r A sub k else wantF r A sub k a
def fixF (A : Nat → Nat) : Nat → Nat → Bool
  | 0 => fun _ => false
  | k + 1 => fun a => if a = A k then true else fixF A k a

/-- Do t's first k digits match? -/
def mt (r : Nat → Nat) (fx : Nat → Bool) (wd : Nat → Nat) (t : Nat) : Nat → Bool
  | 0 => true
  | k + 1 => mt r fx wd t k && (!fx k || dg r t k == wd k)

theorem mt_iff (r : Nat → Nat) (fx : Nat → Bool) (wd : Nat → Nat) (t : Nat) : ∀ k, mt r fx wd t k = true ↔ ∀ a, a < k → fx a = true → dg r t a = wd a
  | 0 => by simp [mt]
  | k + 1 => by
    simp only [mt, Bool.and_eq_true, mt_iff r fx wd t k, Bool.or_eq_true, Bool.not_eq_true', beq_iff_eq]
    constructor
    · rintro ⟨h1, h2⟩ a ha hf
      by_cases e : a = k
      · subst e
        rcases h2 with h2 | h2
        · rw [hf] at h2; cases h2
        · exact h2
      · exact h1 a (by omega) hf
    · intro h
      refine ⟨fun a ha => h a (by omega), ?_⟩
      cases e : fx k with
      | false => exact .inl rfl
      | true => exact .inr (h k (by omega) e)

theorem mt_false {r : Nat → Nat} {fx : Nat → Bool} {wd : Nat → Nat} {t k n : Nat} (hk : k < n) (hf : fx k = true) (hd : dg r t k ≠ wd k) : mt r fx wd t n = false := by
  rw [Bool.eq_false_iff]
  intro h
  exact hd ((mt_iff r fx wd t n).1 h k hk hf)

/-- The sub-tuple that t holds at the first j attributes. -/
def rsum (r A : Nat → Nat) (t : Nat) : Nat → Nat
  | 0 => 0
  | j + 1 => rsum r A t j + dg r t (A j) * pr (ra r A) j

theorem Good.rsum_lt {n m : Nat} {r A : Nat → Nat} (g : Good n r m A) (t : Nat) : ∀ j, j ≤ m → rsum r A t j < pr (ra r A) j
  | 0, _ => Nat.zero_lt_one
  | j + 1, h => by
    have h1 := g.rsum_lt t j (by omega)
    have h3 : dg r t (A j) < r (A j) := Nat.mod_lt _ (g.r1 _ (g.an j (by omega)))
    show rsum r A t j + dg r t (A j) * pr (ra r A) j < pr (ra r A) j * r (A j)
    have h4 : (dg r t (A j) + 1) * pr (ra r A) j ≤ r (A j) * pr (ra r A) j := Nat.mul_le_mul_right _ h3
    rw [Nat.add_mul, Nat.one_mul] at h4
    rw [Nat.mul_comm (pr (ra r A) j)]
    omega

end Go.Proofs.Qxb6614073a
