import Derived.Test.Qxb6614073aPlain
/-!
THE ODOMETER: from one matching tuple to the next. No Go in sight.
-/
namespace Go.Proofs.Qxb6614073a
set_option linter.unusedSimpArgs false
set_option linter.unusedVariables false

/-- The space: n radices, each at least 1. -/
def Rad (n : Nat) (r : Nat → Nat) : Prop := ∀ j, j < n → 1 ≤ r j

theorem pr_dvd (r : Nat → Nat) : ∀ d i, ∃ q, pr r (i + d) = pr r i * q
  | 0, i => ⟨1, by simp⟩
  | d + 1, i => by
    obtain ⟨q, hq⟩ := pr_dvd r d i
    exact ⟨q * r (i + d), by show pr r (i + d) * r (i + d) = _; rw [hq, Nat.mul_assoc]⟩

theorem pr_dvd' (r : Nat → Nat) {i k : Nat} (h : i ≤ k) : ∃ q, pr r k = pr r i * q := by
  obtain ⟨q, hq⟩ := pr_dvd r (k - i) i
  rw [show i + (k - i) = k from by omega] at hq
  exact ⟨q, hq⟩

theorem Rad.pos {n : Nat} {r : Nat → Nat} (g : Rad n r) {k : Nat} (hk : k ≤ n) : 1 ≤ pr r k := pr_pos k (fun j hj => g j (by omega))

/-- t's low part below place k grows digit by digit. -/
theorem mod_succ (r : Nat → Nat) (t k : Nat) : t % pr r (k + 1) = t % pr r k + dg r t k * pr r k := by
  show t % (pr r k * r k) = _
  rw [Nat.mod_mul, Nat.mul_comm]; rfl

theorem div_succ (r : Nat → Nat) (t k : Nat) : t / pr r k = t / pr r (k + 1) * r k + dg r t k := by
  have h := Nat.div_add_mod (t / pr r k) (r k)
  rw [t_step] at h
  rw [Nat.mul_comm]
  exact h.symm

/-- Digits of x + q * (the place value of a), x below that place. -/
theorem dg_below {r : Nat → Nat} {n a b x q : Nat} (g : Rad n r) (ha : a ≤ n) (hb : b < a) : dg r (x + q * pr r a) b = dg r x b := by
  obtain ⟨p, hp⟩ := pr_dvd' r (show b + 1 ≤ a from hb)
  have e : x + q * pr r a = x + pr r b * (r b * (p * q)) := by
    rw [hp]; show x + q * (pr r b * r b * p) = _
    rw [Nat.mul_comm q, Nat.mul_assoc, Nat.mul_assoc]
  unfold dg
  rw [e, Nat.add_mul_div_left _ _ (g.pos (by omega)), Nat.add_mul_mod_self_left]

theorem div_at {r : Nat → Nat} {n a x q : Nat} (g : Rad n r) (ha : a ≤ n) (hx : x < pr r a) : (x + q * pr r a) / pr r a = q := by
  rw [Nat.add_mul_div_right _ _ (g.pos ha), Nat.div_eq_of_lt hx, Nat.zero_add]

theorem div_above {r : Nat → Nat} {n a b : Nat} (t : Nat) (hab : a ≤ b) : ∃ q, ∀ u, u / pr r b = u / pr r a / q := by
  obtain ⟨q, hq⟩ := pr_dvd' r hab
  exact ⟨q, fun u => by rw [hq, Nat.div_div_eq_div_mul]⟩

/-- What stands at place a in the least matching tuple. -/
def e0 (fx : Nat → Bool) (wd : Nat → Nat) (a : Nat) : Nat := if fx a = true then wd a else 0

/-- The least, the greatest low part that matches below place k. -/
def lo (r : Nat → Nat) (fx : Nat → Bool) (wd : Nat → Nat) : Nat → Nat
  | 0 => 0
  | k + 1 => lo r fx wd k + e0 fx wd k * pr r k
def hi (r : Nat → Nat) (fx : Nat → Bool) (wd : Nat → Nat) : Nat → Nat
  | 0 => 0
  | k + 1 => hi r fx wd k + (if fx k = true then wd k else r k - 1) * pr r k

def WdOk (n : Nat) (r : Nat → Nat) (fx : Nat → Bool) (wd : Nat → Nat) : Prop := ∀ a, a < n → fx a = true → wd a < r a

/-- t matches at every place below n. -/
def Mt (n : Nat) (r : Nat → Nat) (fx : Nat → Bool) (wd : Nat → Nat) (t : Nat) : Prop := ∀ a, a < n → fx a = true → dg r t a = wd a

theorem e0_lt {n : Nat} {r : Nat → Nat} {fx : Nat → Bool} {wd : Nat → Nat} (g : Rad n r) (hw : WdOk n r fx wd) {a : Nat} (ha : a < n) : e0 fx wd a < r a := by
  unfold e0
  split
  · exact hw a ha (by assumption)
  · exact g a ha

theorem mul_lt_pr {r : Nat → Nat} {k x d : Nat} (hx : x < pr r k) (hd : d < r k) : x + d * pr r k < pr r (k + 1) := by
  have h4 : (d + 1) * pr r k ≤ r k * pr r k := Nat.mul_le_mul_right _ hd
  rw [Nat.add_mul, Nat.one_mul] at h4
  show _ < pr r k * r k
  rw [Nat.mul_comm (pr r k)]
  omega

theorem lo_lt {n : Nat} {r : Nat → Nat} {fx : Nat → Bool} {wd : Nat → Nat} (g : Rad n r) (hw : WdOk n r fx wd) : ∀ k, k ≤ n → lo r fx wd k < pr r k
  | 0, _ => Nat.zero_lt_one
  | k + 1, h => mul_lt_pr (lo_lt g hw k (by omega)) (e0_lt g hw (by omega))

theorem dg_lo {n : Nat} {r : Nat → Nat} {fx : Nat → Bool} {wd : Nat → Nat} (g : Rad n r) (hw : WdOk n r fx wd) {b : Nat} : ∀ k, k ≤ n → b < k → dg r (lo r fx wd k) b = e0 fx wd b
  | 0, _, h => by omega
  | k + 1, hk, h => by
    show dg r (lo r fx wd k + e0 fx wd k * pr r k) b = _
    by_cases e : b = k
    · subst e
      unfold dg
      rw [div_at g (by omega) (lo_lt g hw b (by omega))]
      exact Nat.mod_eq_of_lt (e0_lt g hw (by omega))
    · rw [dg_below g (by omega) (by omega)]
      exact dg_lo g hw k (by omega) (by omega)

theorem lo_le {n : Nat} {r : Nat → Nat} {fx : Nat → Bool} {wd : Nat → Nat} {u : Nat} (hu : Mt n r fx wd u) : ∀ k, k ≤ n → lo r fx wd k ≤ u % pr r k
  | 0, _ => Nat.zero_le _
  | k + 1, h => by
    rw [mod_succ]
    have h1 := lo_le hu k (by omega)
    have h2 : e0 fx wd k ≤ dg r u k := by
      unfold e0
      split
      · rw [hu k (by omega) (by assumption)]; exact Nat.le_refl _
      · exact Nat.zero_le _
    exact Nat.add_le_add h1 (Nat.mul_le_mul_right _ h2)

theorem le_hi {n : Nat} {r : Nat → Nat} {fx : Nat → Bool} {wd : Nat → Nat} {u : Nat} (g : Rad n r) (hu : Mt n r fx wd u) : ∀ k, k ≤ n → u % pr r k ≤ hi r fx wd k
  | 0, _ => by simp [pr, hi, Nat.mod_one]
  | k + 1, h => by
    rw [mod_succ]
    have h1 := le_hi g hu k (by omega)
    have h2 : dg r u k ≤ (if fx k = true then wd k else r k - 1) := by
      split
      · rw [hu k (by omega) (by assumption)]; exact Nat.le_refl _
      · have : dg r u k < r k := Nat.mod_lt _ (g k (by omega))
        omega
    exact Nat.add_le_add h1 (Nat.mul_le_mul_right _ h2)

/-- A matching tuple whose free digits below k are all greatest. -/
theorem eq_hi {n : Nat} {r : Nat → Nat} {fx : Nat → Bool} {wd : Nat → Nat} {t : Nat} (hu : Mt n r fx wd t) : ∀ k, k ≤ n → (∀ b, b < k → fx b = false → dg r t b + 1 = r b) → t % pr r k = hi r fx wd k
  | 0, _, _ => by simp [pr, hi, Nat.mod_one]
  | k + 1, h, hm => by
    rw [mod_succ, eq_hi hu k (by omega) (fun b hb => hm b (by omega))]
    show _ = hi r fx wd k + (if fx k = true then wd k else r k - 1) * pr r k
    congr 2
    split
    · exact hu k (by omega) (by assumption)
    · have := hm k (by omega) (by cases e : fx k <;> simp_all)
      omega

/-- t with everything below place k set to the least that matches. -/
def tz (r : Nat → Nat) (fx : Nat → Bool) (wd : Nat → Nat) (t k : Nat) : Nat := lo r fx wd k + t / pr r k * pr r k

theorem tz_zero (r : Nat → Nat) (fx : Nat → Bool) (wd : Nat → Nat) (t : Nat) : tz r fx wd t 0 = t := by simp [tz, lo, pr]

theorem tz_fix {n : Nat} {r : Nat → Nat} {fx : Nat → Bool} {wd : Nat → Nat} {t k : Nat} (hu : Mt n r fx wd t) (hk : k < n) (hf : fx k = true) : tz r fx wd t (k + 1) = tz r fx wd t k := by
  unfold tz
  rw [div_succ r t k, hu k hk hf]
  show lo r fx wd k + e0 fx wd k * pr r k + t / pr r (k + 1) * (pr r k * r k) = _
  rw [e0, if_pos hf, Nat.add_mul, Nat.mul_assoc, Nat.mul_comm (r k)]
  omega

theorem tz_free {r : Nat → Nat} {fx : Nat → Bool} {wd : Nat → Nat} {t k : Nat} (hf : fx k = false) : tz r fx wd t (k + 1) + dg r t k * pr r k = tz r fx wd t k := by
  unfold tz
  rw [div_succ r t k]
  show lo r fx wd k + e0 fx wd k * pr r k + t / pr r (k + 1) * (pr r k * r k) + _ = _
  rw [e0, if_neg (by simp [hf]), Nat.add_mul, Nat.mul_assoc, Nat.mul_comm (r k)]
  omega

theorem tz_skip {n : Nat} {r : Nat → Nat} {fx : Nat → Bool} {wd : Nat → Nat} {t : Nat} (hu : Mt n r fx wd t) {k : Nat} : ∀ d, k + d ≤ n → (∀ b, k ≤ b → b < k + d → fx b = true) → tz r fx wd t (k + d) = tz r fx wd t k
  | 0, _, _ => rfl
  | d + 1, h, hf => by
    show tz r fx wd t (k + d + 1) = _
    rw [tz_fix hu (by omega) (hf (k + d) (by omega) (by omega))]
    exact tz_skip hu d (by omega) (fun b h1 h2 => hf b h1 (by omega))

theorem tz_le {n : Nat} {r : Nat → Nat} {fx : Nat → Bool} {wd : Nat → Nat} {t : Nat} (hu : Mt n r fx wd t) (k : Nat) (hk : k ≤ n) : tz r fx wd t k ≤ t := by
  have h1 := lo_le hu k hk
  have h2 := Nat.div_add_mod t (pr r k)
  unfold tz
  rw [Nat.mul_comm]
  omega

/-! The free places -/
def fl (fx : Nat → Bool) (k : Nat) : List Nat := (List.range k).filter (fun a => !fx a)
theorem fl_succ_free {fx : Nat → Bool} {k : Nat} (h : fx k = false) : fl fx (k + 1) = fl fx k ++ [k] := by simp [fl, List.range_succ, h]
theorem fl_succ_fix {fx : Nat → Bool} {k : Nat} (h : fx k = true) : fl fx (k + 1) = fl fx k := by simp [fl, List.range_succ, h]
theorem fl_len (fx : Nat → Bool) (k : Nat) : (fl fx k).length ≤ k := by
  have := List.length_filter_le (fun a => !fx a) (List.range k)
  simpa [fl] using this
theorem fl_mem (fx : Nat → Bool) (k a : Nat) : a ∈ fl fx k ↔ a < k ∧ fx a = false := by simp [fl]

/-- The i-th free place; behind the last: n. -/
def ps (fx : Nat → Bool) (n i : Nat) : Nat := (fl fx n).getD i n

theorem fl_take (fx : Nat → Bool) : ∀ n i, i ≤ (fl fx n).length → (fl fx n).take i = fl fx (ps fx n i)
  | 0, i, h => by
    have : i = 0 := by simpa [fl] using h
    subst this; simp [fl, ps]
  | n + 1, i, h => by
    cases hf : fx n with
    | true =>
      rw [fl_succ_fix hf] at h ⊢
      have e := fl_take fx n i h
      by_cases hi : i < (fl fx n).length
      · have : ps fx (n + 1) i = ps fx n i := by simp [ps, fl_succ_fix hf, hi]
        rw [this]; exact e
      · have e1 : ps fx (n + 1) i = n + 1 := by simp [ps, fl_succ_fix hf, List.getElem?_eq_none (show (fl fx n).length ≤ i by omega)]
        rw [e1, fl_succ_fix hf, List.take_of_length_le (by omega)]
    | false =>
      rw [fl_succ_free hf] at h ⊢
      by_cases hi : i < (fl fx n).length
      · have e := fl_take fx n i (by omega)
        have : ps fx (n + 1) i = ps fx n i := by simp [ps, fl_succ_free hf, hi, List.getElem?_append_left]
        rw [this, List.take_append_of_le_length (by omega)]; exact e
      · by_cases hi2 : i = (fl fx n).length
        · have : ps fx (n + 1) i = n := by simp [ps, fl_succ_free hf, hi2]
          rw [this, List.take_append_of_le_length (by omega), List.take_of_length_le (by omega)]
        · have hi3 : i = (fl fx n).length + 1 := by simp at h; omega
          have e1 : ps fx (n + 1) i = n + 1 := by
            unfold ps
            rw [fl_succ_free hf, List.getD_eq_getElem?_getD, List.getElem?_eq_none (by simp; omega)]; rfl
          rw [e1, fl_succ_free hf, List.take_of_length_le (by simp; omega)]

theorem ps_end (fx : Nat → Bool) (n : Nat) : ps fx n (fl fx n).length = n := by simp [ps]

theorem ps_get {fx : Nat → Bool} {n i : Nat} (h : i < (fl fx n).length) : (fl fx n)[i]? = some (ps fx n i) := by
  simp [ps, h]

theorem ps_mem {fx : Nat → Bool} {n i : Nat} (h : i < (fl fx n).length) : ps fx n i < n ∧ fx (ps fx n i) = false := by
  have h1 : ps fx n i ∈ fl fx n := List.mem_of_getElem? (ps_get h)
  exact (fl_mem fx n _).1 h1

theorem ps_le {fx : Nat → Bool} {n i : Nat} (h : i ≤ (fl fx n).length) : ps fx n i ≤ n := by
  by_cases e : i < (fl fx n).length
  · exact Nat.le_of_lt (ps_mem e).1
  · rw [show i = (fl fx n).length by omega, ps_end]; exact Nat.le_refl _

/-- What is free below the (i+1)-st free place: what is free below the i-th, and that one. -/
theorem fl_ps_succ {fx : Nat → Bool} {n i : Nat} (h : i < (fl fx n).length) : fl fx (ps fx n (i + 1)) = fl fx (ps fx n i) ++ [ps fx n i] := by
  rw [← fl_take fx n (i + 1) (by omega), ← fl_take fx n i (by omega), List.take_add_one, ps_get h]; rfl

theorem free_below_succ {fx : Nat → Bool} {n i b : Nat} (h : i < (fl fx n).length) (hb : b < ps fx n (i + 1)) (hf : fx b = false) : b < ps fx n i ∨ b = ps fx n i := by
  have h1 : b ∈ fl fx (ps fx n (i + 1)) := (fl_mem fx _ b).2 ⟨hb, hf⟩
  rw [fl_ps_succ h, List.mem_append, fl_mem] at h1
  rcases h1 with h1 | h1
  · exact .inl h1.1
  · exact .inr (by simpa using h1)

theorem ps_lt_succ {fx : Nat → Bool} {n i : Nat} (h : i < (fl fx n).length) : ps fx n i < ps fx n (i + 1) := by
  have h1 : ps fx n i ∈ fl fx (ps fx n (i + 1)) := by rw [fl_ps_succ h]; simp
  exact ((fl_mem fx _ _).1 h1).1

theorem ps_lt {fx : Nat → Bool} {n i : Nat} : ∀ j, i < j → j ≤ (fl fx n).length → ps fx n i < ps fx n j
  | 0, h, _ => by omega
  | j + 1, h, hl => by
    have h1 := ps_lt_succ (fx := fx) (n := n) (i := j) (by omega)
    by_cases e : i = j
    · rw [e]; exact h1
    · exact Nat.lt_trans (ps_lt j (by omega) (by omega)) h1

theorem no_free_below_first {fx : Nat → Bool} {n b : Nat} (hb : b < ps fx n 0) : fx b = true := by
  cases hf : fx b with
  | true => rfl
  | false =>
    have h1 : b ∈ fl fx (ps fx n 0) := (fl_mem fx _ b).2 ⟨hb, hf⟩
    rw [← fl_take fx n 0 (Nat.zero_le _)] at h1
    simp at h1

theorem free_below {fx : Nat → Bool} {n b : Nat} : ∀ i, i ≤ (fl fx n).length → b < ps fx n i → fx b = false → ∃ j, j < i ∧ b = ps fx n j
  | 0, _, hb, hf => by rw [no_free_below_first hb] at hf; cases hf
  | i + 1, hi, hb, hf => by
    rcases free_below_succ (by omega) hb hf with h | h
    · obtain ⟨j, hj, e⟩ := free_below i (by omega) h hf
      exact ⟨j, by omega, e⟩
    · exact ⟨i, by omega, h⟩

section
variable {n : Nat} {r : Nat → Nat} {fx : Nat → Bool} {wd : Nat → Nat} {t : Nat}

/-- (a) -/
theorem tz_first (hu : Mt n r fx wd t) : tz r fx wd t (ps fx n 0) = t := by
  have h := tz_skip hu (k := 0) (ps fx n 0) (by have := ps_le (fx := fx) (n := n) (Nat.zero_le _); omega) (fun b _ hb => no_free_below_first (n := n) (by omega))
  rw [Nat.zero_add] at h
  rw [h, tz_zero]

/-- (b) -/
theorem tz_next (hu : Mt n r fx wd t) {i : Nat} (hi : i < (fl fx n).length) : tz r fx wd t (ps fx n (i + 1)) + dg r t (ps fx n i) * pr r (ps fx n i) = tz r fx wd t (ps fx n i) := by
  have h1 := ps_lt_succ (fx := fx) (n := n) hi
  have h2 := ps_le (fx := fx) (n := n) (i := i + 1) (by omega)
  have h3 := tz_skip hu (k := ps fx n i + 1) (ps fx n (i + 1) - (ps fx n i + 1)) (by omega) (fun b hb1 hb2 => by
    cases hf : fx b with
    | true => rfl
    | false =>
      rcases free_below_succ hi (show b < ps fx n (i + 1) by omega) hf with h | h <;> omega)
  rw [show ps fx n i + 1 + (ps fx n (i + 1) - (ps fx n i + 1)) = ps fx n (i + 1) by omega] at h3
  rw [h3]
  exact tz_free (ps_mem hi).2

/-- The matching tuples below k, in order. -/
def ML (n : Nat) (r : Nat → Nat) (fx : Nat → Bool) (wd : Nat → Nat) (k : Nat) : List Nat := (List.range k).filter (fun t => mt r fx wd t n)

theorem ML_zero : ML n r fx wd 0 = [] := rfl
theorem mt_Mt : mt r fx wd t n = true ↔ Mt n r fx wd t := mt_iff r fx wd t n
theorem ML_succ_yes (h : Mt n r fx wd t) : ML n r fx wd (t + 1) = ML n r fx wd t ++ [t] := by
  simp [ML, List.range_succ, mt_Mt.2 h]
theorem ML_succ_no (h : ¬ Mt n r fx wd t) : ML n r fx wd (t + 1) = ML n r fx wd t := by
  have : mt r fx wd t n = false := by rw [Bool.eq_false_iff]; exact fun e => h (mt_Mt.1 e)
  simp [ML, List.range_succ, this]
theorem ML_skip : ∀ d, (∀ u, t ≤ u → u < t + d → ¬ Mt n r fx wd u) → ML n r fx wd (t + d) = ML n r fx wd t
  | 0, _ => rfl
  | d + 1, h => by
    show ML n r fx wd (t + d + 1) = _
    rw [ML_succ_no (h (t + d) (by omega) (by omega))]
    exact ML_skip d (fun u h1 h2 => h u h1 (by omega))
theorem ML_len : ∀ k, (ML n r fx wd k).length ≤ k := fun k => by
  have := List.length_filter_le (fun t => mt r fx wd t n) (List.range k)
  simpa [ML] using this

/-- (c) The next matching tuple. -/
theorem next_ok (g : Rad n r) (hw : WdOk n r fx wd) (hu : Mt n r fx wd t) (ht : t < pr r n) {i : Nat} (hi : i < (fl fx n).length)
    (hmax : ∀ j, j < i → dg r t (ps fx n j) + 1 = r (ps fx n j)) (hlt : dg r t (ps fx n i) + 1 < r (ps fx n i)) :
    Mt n r fx wd (tz r fx wd t (ps fx n i) + pr r (ps fx n i)) ∧ t < tz r fx wd t (ps fx n i) + pr r (ps fx n i) ∧ tz r fx wd t (ps fx n i) + pr r (ps fx n i) < pr r n ∧
    ML n r fx wd (tz r fx wd t (ps fx n i) + pr r (ps fx n i)) = ML n r fx wd (t + 1) ∧
    ∀ j, j < (fl fx n).length → dg r (tz r fx wd t (ps fx n i) + pr r (ps fx n i)) (ps fx n j) = if j < i then 0 else if j = i then dg r t (ps fx n i) + 1 else dg r t (ps fx n j) := by
  obtain ⟨ha, hfa⟩ := ps_mem (fx := fx) hi
  have hfree : ∀ b, b < ps fx n i → fx b = false → dg r t b + 1 = r b := by
    intro b hb hf
    obtain ⟨j, hj, rfl⟩ := free_below i (by omega) hb hf
    exact hmax j hj
  have hlow := eq_hi hu (ps fx n i) (by omega) hfree
  generalize hA : ps fx n i = a at *
  have hP := g.pos (k := a) (by omega)
  have hlo := lo_lt g hw a (by omega)
  have hE : tz r fx wd t a + pr r a = lo r fx wd a + (t / pr r a + 1) * pr r a := by
    unfold tz; rw [Nat.add_mul, Nat.one_mul]; omega
  rw [hE]
  -- the digits of the new tuple
  have dlow : ∀ b, b < a → dg r (lo r fx wd a + (t / pr r a + 1) * pr r a) b = e0 fx wd b := fun b hb => by
    rw [dg_below g (by omega) hb, dg_lo g hw a (by omega) hb]
  have hdiv : (lo r fx wd a + (t / pr r a + 1) * pr r a) / pr r a = t / pr r a + 1 := div_at g (by omega) hlo
  have hq := div_succ r t a
  have dat : dg r (lo r fx wd a + (t / pr r a + 1) * pr r a) a = dg r t a + 1 := by
    have : (t / pr r a + 1) % r a = dg r t a + 1 := by
      rw [hq, Nat.add_assoc, Nat.mul_comm, Nat.mul_add_mod]
      exact Nat.mod_eq_of_lt hlt
    unfold dg at this ⊢
    rw [hdiv]; exact this
  have hdiv1 : (lo r fx wd a + (t / pr r a + 1) * pr r a) / pr r (a + 1) = t / pr r (a + 1) := by
    rw [← t_step, hdiv, hq, Nat.add_assoc, Nat.mul_comm, Nat.mul_add_div (by omega), Nat.div_eq_of_lt hlt, Nat.add_zero]
  have dabove : ∀ b, a < b → dg r (lo r fx wd a + (t / pr r a + 1) * pr r a) b = dg r t b := fun b hb => by
    obtain ⟨q, hq'⟩ := div_above (r := r) (n := n) t (show a + 1 ≤ b from hb)
    unfold dg
    rw [hq', hq' t, hdiv1]
  refine ⟨?_, ?_, ?_, ?_, ?_⟩
  · intro b hb hf
    rcases Nat.lt_trichotomy b a with h | h | h
    · rw [dlow b h, e0, if_pos hf]
    · subst h; rw [hfa] at hf; cases hf
    · rw [dabove b h]; exact hu b hb hf
  · have h1 := Nat.div_add_mod t (pr r a)
    have h2 := Nat.mod_lt t hP
    rw [Nat.add_mul, Nat.one_mul, Nat.mul_comm (t / pr r a)]
    omega
  · have h1 : (lo r fx wd a + (t / pr r a + 1) * pr r a) / pr r (a + 1) = t / pr r (a + 1) := hdiv1
    obtain ⟨q, hq'⟩ := div_above (r := r) (n := n) t (show a + 1 ≤ n from ha)
    have h2 : (lo r fx wd a + (t / pr r a + 1) * pr r a) / pr r n = 0 := by rw [hq', h1, ← hq', Nat.div_eq_of_lt ht]
    have hPn := g.pos (k := n) (Nat.le_refl _)
    rcases (Nat.div_eq_zero_iff).1 h2 with h | h
    · omega
    · exact h
  · have h1 := Nat.div_add_mod t (pr r a)
    have h2 := Nat.mod_lt t hP
    have hge : t + 1 ≤ lo r fx wd a + (t / pr r a + 1) * pr r a := by
      rw [Nat.add_mul, Nat.one_mul, Nat.mul_comm (t / pr r a)]
      omega
    have hs := ML_skip (n := n) (r := r) (fx := fx) (wd := wd) (t := t + 1) (lo r fx wd a + (t / pr r a + 1) * pr r a - (t + 1)) (by
      intro u hu1 hu2 hm
      have g1 := lo_le hm a (by omega)
      have g2 := le_hi g hm a (by omega)
      have g3 := Nat.div_add_mod u (pr r a)
      have g4 : t / pr r a ≤ u / pr r a := Nat.div_le_div_right (by omega)
      by_cases e : u / pr r a = t / pr r a
      · rw [e] at g3; omega
      · have g5 : (t / pr r a + 1) * pr r a ≤ u / pr r a * pr r a := Nat.mul_le_mul_right _ (by omega)
        rw [Nat.mul_comm (u / pr r a)] at g5
        omega)
    rw [show t + 1 + (lo r fx wd a + (t / pr r a + 1) * pr r a - (t + 1)) = lo r fx wd a + (t / pr r a + 1) * pr r a by omega] at hs
    exact hs
  · intro j hj
    by_cases h1 : j < i
    · rw [if_pos h1]
      have := ps_lt (fx := fx) (n := n) (i := j) i h1 (by omega)
      rw [dlow _ (by omega), e0, if_neg (by rw [(ps_mem hj).2]; simp)]
    · rw [if_neg h1]
      by_cases h2 : j = i
      · rw [if_pos h2, h2, hA]; exact dat
      · rw [if_neg h2]
        have := ps_lt (fx := fx) (n := n) (i := i) j (by omega) (by omega)
        exact dabove _ (by omega)

/-- (d) No further one. -/
theorem last_ok (g : Rad n r) (hw : WdOk n r fx wd) (hu : Mt n r fx wd t) (ht : t < pr r n) (hmax : ∀ j, j < (fl fx n).length → dg r t (ps fx n j) + 1 = r (ps fx n j)) :
    ML n r fx wd (pr r n) = ML n r fx wd (t + 1) := by
  have hfree : ∀ b, b < n → fx b = false → dg r t b + 1 = r b := by
    intro b hb hf
    obtain ⟨j, hj, rfl⟩ := free_below (fx := fx) (n := n) _ (Nat.le_refl _) (by rw [ps_end]; exact hb) hf
    exact hmax j hj
  have hlow := eq_hi hu n (Nat.le_refl _) hfree
  rw [Nat.mod_eq_of_lt ht] at hlow
  have hs := ML_skip (n := n) (r := r) (fx := fx) (wd := wd) (t := t + 1) (pr r n - (t + 1)) (by
    intro u hu1 hu2 hm
    have g2 := le_hi g hm n (Nat.le_refl _)
    rw [Nat.mod_eq_of_lt (by omega)] at g2
    omega)
  rw [show t + 1 + (pr r n - (t + 1)) = pr r n by omega] at hs
  exact hs

/-- The least one. -/
theorem first_ok (g : Rad n r) (hw : WdOk n r fx wd) : Mt n r fx wd (lo r fx wd n) ∧ lo r fx wd n < pr r n ∧ ML n r fx wd (lo r fx wd n) = [] ∧ ∀ j, j < (fl fx n).length → dg r (lo r fx wd n) (ps fx n j) = 0 := by
  refine ⟨fun a ha hf => ?_, lo_lt g hw n (Nat.le_refl _), ?_, fun j hj => ?_⟩
  · rw [dg_lo g hw n (Nat.le_refl _) ha, e0, if_pos hf]
  · have hs := ML_skip (n := n) (r := r) (fx := fx) (wd := wd) (t := 0) (lo r fx wd n) (by
      intro u _ hu2 hm
      have g1 := lo_le hm n (Nat.le_refl _)
      have g2 := lo_lt g hw n (Nat.le_refl _)
      rw [Nat.mod_eq_of_lt (by omega)] at g1
      omega)
    rw [Nat.zero_add] at hs
    exact hs
  · obtain ⟨h1, h2⟩ := ps_mem (fx := fx) hj
    rw [dg_lo g hw n (Nat.le_refl _) h1, e0, if_neg (by rw [h2]; simp)]
end

end Go.Proofs.Qxb6614073a
