import Derived.Test.Qxb6614073aPlain2
/-!
SUB-TUPLES: which places are fixed and at what; how many tuples match; which sub-tuple a tuple holds. No Go in sight.
-/
namespace Go.Proofs.Qxb6614073a
set_option linter.unusedSimpArgs false
set_option linter.unusedVariables false

theorem Good.rad {n m : Nat} {r A : Nat → Nat} (g : Good n r m A) : Rad n r := g.r1

theorem fix_iff (A : Nat → Nat) (a : Nat) : ∀ m, fixF A m a = true ↔ ∃ j, j < m ∧ A j = a
  | 0 => by simp [fixF]
  | m + 1 => by
    show (if a = A m then true else fixF A m a) = true ↔ _
    constructor
    · intro h
      by_cases e : a = A m
      · exact ⟨m, by omega, e.symm⟩
      · rw [if_neg e] at h
        obtain ⟨j, hj, e'⟩ := (fix_iff A a m).1 h
        exact ⟨j, by omega, e'⟩
    · rintro ⟨j, hj, e⟩
      by_cases e2 : a = A m
      · rw [if_pos e2]
      · rw [if_neg e2]
        refine (fix_iff A a m).2 ⟨j, ?_, e⟩
        by_cases e3 : j = m
        · subst e3; exact absurd e.symm e2
        · omega

theorem Good.want_at {n m : Nat} {r A : Nat → Nat} (g : Good n r m A) (sub : Nat) {j : Nat} : ∀ k, j < k → k ≤ m → wantF r A sub k (A j) = sdig r A sub j
  | 0, h, _ => by omega
  | k + 1, h, hk => by
    show (if A j = A k then sdig r A sub k else wantF r A sub k (A j)) = _
    by_cases e : j = k
    · subst e; rw [if_pos rfl]
    · have := g.lt (i := j) k (by omega) (by omega)
      rw [if_neg (by omega)]
      exact g.want_at sub k (by omega) (by omega)

theorem Good.wdok {n m : Nat} {r A : Nat → Nat} (g : Good n r m A) (sub : Nat) : WdOk n r (fixF A m) (wantF r A sub m) := by
  intro a ha hf
  obtain ⟨j, hj, rfl⟩ := (fix_iff A a m).1 hf
  rw [g.want_at sub m hj (Nat.le_refl _)]
  exact g.sdig_lt sub hj

theorem eq_of_dg {r : Nat → Nat} {x y : Nat} : ∀ k, (∀ b, b < k → dg r x b = dg r y b) → x % pr r k = y % pr r k
  | 0, _ => by simp [pr, Nat.mod_one]
  | k + 1, h => by rw [mod_succ, mod_succ, eq_of_dg k (fun b hb => h b (by omega)), h k (by omega)]

theorem Good.dg_rp {n m : Nat} {r A : Nat → Nat} (g : Good n r m A) (sub : Nat) {b : Nat} (hb : b < n) : ∀ j, j ≤ m → dg r (rp r A sub j) b = e0 (fixF A j) (wantF r A sub j) b
  | 0, _ => by simp [rp, dg, e0, fixF]
  | j + 1, h => by
    have ih := g.dg_rp sub hb j (by omega)
    have hA := g.an j (by omega)
    have hlt := g.rp_lt sub j (by omega)
    have hle := g.mono (g.ub_A j (by omega)) (by omega)
    show dg r (rp r A sub j + sdig r A sub j * pr r (A j)) b = _
    rcases Nat.lt_trichotomy b (A j) with e | e | e
    · rw [dg_below g.rad (by omega) e, ih]
      simp [e0, fixF, wantF, show ¬ b = A j by omega]
    · subst e
      have hd : dg r (rp r A sub j + sdig r A sub j * pr r (A j)) (A j) = sdig r A sub j := by
        unfold dg
        rw [div_at g.rad (by omega) (by omega)]
        exact Nat.mod_eq_of_lt (g.sdig_lt sub (by omega))
      rw [hd]
      simp [e0, fixF, wantF]
    · have h1 : rp r A sub j + sdig r A sub j * pr r (A j) < pr r (A j + 1) := mul_lt_pr (by omega) (g.sdig_lt sub (by omega))
      have h2 := g.mono (show A j + 1 ≤ b from e) (by omega)
      have h3 : dg r (rp r A sub j + sdig r A sub j * pr r (A j)) b = 0 := by
        unfold dg
        rw [Nat.div_eq_of_lt (by omega), Nat.zero_mod]
      rw [h3]
      have h4 : fixF A (j + 1) b = false := by
        rw [Bool.eq_false_iff]
        intro hf
        obtain ⟨i, hi, rfl⟩ := (fix_iff A b (j + 1)).1 hf
        by_cases e2 : i = j
        · subst e2; omega
        · have := g.lt (i := i) j (by omega) (by omega); omega
      rw [e0, if_neg (by rw [h4]; simp)]

theorem Good.rp_lo {n m : Nat} {r A : Nat → Nat} (g : Good n r m A) (sub : Nat) : rp r A sub m = lo r (fixF A m) (wantF r A sub m) n := by
  have h1 := g.rp_lt sub m (Nat.le_refl _)
  have h2 := g.mono (g.ub_n m (Nat.le_refl _)) (Nat.le_refl n)
  have h3 := lo_lt g.rad (g.wdok sub) n (Nat.le_refl _)
  have h := eq_of_dg (r := r) (x := rp r A sub m) (y := lo r (fixF A m) (wantF r A sub m) n) n (fun b hb => by
    rw [g.dg_rp sub hb m (Nat.le_refl _), dg_lo g.rad (g.wdok sub) n (Nat.le_refl _) hb])
  rwa [Nat.mod_eq_of_lt (by omega), Nat.mod_eq_of_lt h3] at h

/-- A tuple that matches sub holds sub. -/
theorem Good.rsum_sub {n m : Nat} {r A : Nat → Nat} (g : Good n r m A) {sub t : Nat} (ht : Mt n r (fixF A m) (wantF r A sub m) t) : ∀ j, j ≤ m → rsum r A t j = sub % pr (ra r A) j
  | 0, _ => by simp [rsum, pr, Nat.mod_one]
  | j + 1, h => by
    have hd : dg r t (A j) = sdig r A sub j := by
      rw [ht (A j) (g.an j (by omega)) ((fix_iff A _ m).2 ⟨j, by omega, rfl⟩), g.want_at sub m (by omega) (Nat.le_refl _)]
    show rsum r A t j + dg r t (A j) * pr (ra r A) j = _
    rw [mod_succ (ra r A) sub j, g.rsum_sub ht j (by omega), hd]
    rfl

theorem Good.rsum_eq {n m : Nat} {r A : Nat → Nat} (g : Good n r m A) {sub t : Nat} (hs : sub < pr (ra r A) m) (ht : Mt n r (fixF A m) (wantF r A sub m) t) : rsum r A t m = sub := by
  rw [g.rsum_sub ht m (Nat.le_refl _), Nat.mod_eq_of_lt hs]

/-! How many tuples match -/
section
variable {n : Nat} {r : Nat → Nat} {fx : Nat → Bool} {wd : Nat → Nat}

def cnt (r : Nat → Nat) (fx : Nat → Bool) (wd : Nat → Nat) (k : Nat) : Nat := ((List.range (pr r k)).filter (fun t => mt r fx wd t k)).length

theorem mt_add (g : Rad n r) {k : Nat} (hk : k ≤ n) (c x : Nat) : ∀ j, j ≤ k → mt r fx wd (x + c * pr r k) j = mt r fx wd x j
  | 0, _ => rfl
  | j + 1, h => by
    show (mt r fx wd (x + c * pr r k) j && _) = (mt r fx wd x j && _)
    rw [mt_add g hk c x j (by omega), dg_below g hk (by omega)]

theorem cnt_blocks (g : Rad n r) {k : Nat} (hk : k < n) : ∀ c, c ≤ r k → ((List.range (pr r k * c)).filter (fun t => mt r fx wd t (k + 1))).length = ((List.range c).filter (fun d => !fx k || d == wd k)).length * cnt r fx wd k
  | 0, _ => by simp
  | c + 1, h => by
    rw [Nat.mul_succ, List.range_add, List.filter_append, List.length_append, cnt_blocks g hk c (by omega), List.range_succ, List.filter_append, List.length_append, Nat.add_mul]
    congr 1
    have hf : ∀ x, x ∈ List.range (pr r k) → mt r fx wd (pr r k * c + x) (k + 1) = (mt r fx wd x k && (!fx k || c == wd k)) := by
      intro x hx
      have hx' : x < pr r k := by simpa using hx
      have e : pr r k * c + x = x + c * pr r k := by rw [Nat.mul_comm]; omega
      rw [e]
      show (mt r fx wd (x + c * pr r k) k && _) = _
      rw [mt_add g (by omega) c x k (Nat.le_refl _)]
      have hd : dg r (x + c * pr r k) k = c := by
        unfold dg
        rw [div_at g (by omega) hx']
        exact Nat.mod_eq_of_lt (by omega)
      rw [hd]
    rw [List.filter_map, List.length_map]
    have e2 : List.filter ((fun t => mt r fx wd t (k + 1)) ∘ fun x => pr r k * c + x) (List.range (pr r k)) = List.filter (fun x => mt r fx wd x k && (!fx k || c == wd k)) (List.range (pr r k)) :=
      List.filter_congr (fun x hx => hf x hx)
    rw [e2]
    cases hc : (!fx k || c == wd k) with
    | true => simp [hc, cnt]
    | false => simp [hc]

theorem count_one (w : Nat) : ∀ c, ((List.range c).filter (fun d => d == w)).length = if w < c then 1 else 0
  | 0 => by simp
  | c + 1 => by
    rw [List.range_succ, List.filter_append, List.length_append, count_one w c]
    by_cases e : c = w
    · subst e; simp
    · have : (c == w) = false := by simp [e]
      simp [List.filter_cons, this]
      by_cases h : w < c
      · rw [if_pos h, if_pos (by omega)]
      · rw [if_neg h, if_neg (by omega)]

theorem cnt_succ (g : Rad n r) (hw : WdOk n r fx wd) {k : Nat} (hk : k < n) : cnt r fx wd (k + 1) = (if fx k = true then 1 else r k) * cnt r fx wd k := by
  have h := cnt_blocks (fx := fx) (wd := wd) g hk (r k) (Nat.le_refl _)
  show ((List.range (pr r k * r k)).filter (fun t => mt r fx wd t (k + 1))).length = _
  rw [h]
  congr 1
  cases hf : fx k with
  | true =>
    have := hw k hk hf
    simp [count_one, this]
  | false =>
    have e : List.filter (fun d => true) (List.range (r k)) = List.range (r k) := List.filter_eq_self.2 (by simp)
    simp [e]

def pfx (r : Nat → Nat) (fx : Nat → Bool) : Nat → Nat
  | 0 => 1
  | k + 1 => pfx r fx k * (if fx k = true then r k else 1)

theorem cnt_pfx (g : Rad n r) (hw : WdOk n r fx wd) : ∀ k, k ≤ n → cnt r fx wd k * pfx r fx k = pr r k
  | 0, _ => by simp [cnt, pr, pfx, mt]
  | k + 1, h => by
    rw [cnt_succ g hw (by omega)]
    show (if fx k = true then 1 else r k) * cnt r fx wd k * (pfx r fx k * (if fx k = true then r k else 1)) = pr r k * r k
    rw [← cnt_pfx g hw k (by omega)]
    split
    · rw [Nat.one_mul, Nat.mul_assoc]
    · rw [Nat.mul_one, Nat.mul_assoc, Nat.mul_comm]
end

theorem pfx_congr {r : Nat → Nat} {fx fx' : Nat → Bool} : ∀ k, (∀ a, a < k → fx a = fx' a) → pfx r fx k = pfx r fx' k
  | 0, _ => rfl
  | k + 1, h => by
    show pfx r fx k * _ = pfx r fx' k * _
    rw [pfx_congr k (fun a ha => h a (by omega)), h k (by omega)]

theorem pfx_one {r : Nat → Nat} {fx fx' : Nat → Bool} {c : Nat} (h0 : fx c = false) (h1 : fx' c = true) (h : ∀ a, a ≠ c → fx' a = fx a) : ∀ k, c < k → pfx r fx' k = pfx r fx k * r c
  | 0, hc => by omega
  | k + 1, hc => by
    show pfx r fx' k * (if fx' k = true then r k else 1) = pfx r fx k * (if fx k = true then r k else 1) * r c
    by_cases e : c = k
    · subst e
      rw [h1, h0, pfx_congr c (fun a ha => h a (by omega))]
      simp
    · rw [pfx_one h0 h1 h k (by omega), h k (by omega), Nat.mul_right_comm]

theorem pfx_none (r : Nat → Nat) : ∀ k, pfx r (fun _ => false) k = 1
  | 0 => rfl
  | k + 1 => by show pfx r (fun _ => false) k * _ = 1; rw [pfx_none r k]; simp

theorem Good.pfx_sub {n m : Nat} {r A : Nat → Nat} (g : Good n r m A) : ∀ j, j ≤ m → pfx r (fixF A j) n = pr (ra r A) j
  | 0, _ => by rw [show fixF A 0 = fun _ => false from rfl, pfx_none]; rfl
  | j + 1, h => by
    have h0 : fixF A j (A j) = false := by
      rw [Bool.eq_false_iff]
      intro hf
      obtain ⟨i, hi, e⟩ := (fix_iff A (A j) j).1 hf
      have := g.lt (i := i) j hi (by omega)
      omega
    rw [pfx_one (fx := fixF A j) (fx' := fixF A (j + 1)) (c := A j) h0 (by simp [fixF]) (fun a ha => by simp [fixF, ha]) n (g.an j (by omega)), g.pfx_sub j (by omega)]
    rfl

/-- Each sub-tuple is held by size / subSize tuples. -/
theorem Good.count {n m : Nat} {r A : Nat → Nat} (g : Good n r m A) (sub : Nat) : (ML n r (fixF A m) (wantF r A sub m) (pr r n)).length = pr r n / pr (ra r A) m := by
  have h := cnt_pfx g.rad (g.wdok sub) n (Nat.le_refl _)
  rw [g.pfx_sub m (Nat.le_refl _)] at h
  exact (Nat.div_eq_of_eq_mul_left (g.psub_pos (Nat.le_refl _)) h.symm).symm

def perN (n : Nat) (r : Nat → Nat) (m : Nat) (A : Nat → Nat) : Nat := pr r n / pr (ra r A) m
theorem perN_div (n : Nat) (r : Nat → Nat) (m : Nat) (A : Nat → Nat) : (pr r n : Int) / (pr (ra r A) m : Int) = (perN n r m A : Nat) := by simp [perN]

/-- The tuples that hold sub. -/
def got (n : Nat) (r : Nat → Nat) (m : Nat) (A : Nat → Nat) (sub : Nat) : List Nat := ML n r (fixF A m) (wantF r A sub m) (pr r n)

theorem Good.got_len {n m : Nat} {r A : Nat → Nat} (g : Good n r m A) (sub : Nat) : (got n r m A sub).length = perN n r m A := g.count sub

theorem got_mem {n m sub t : Nat} {r A : Nat → Nat} : t ∈ got n r m A sub ↔ t < pr r n ∧ Mt n r (fixF A m) (wantF r A sub m) t := by
  simp [got, ML, mt_Mt]

theorem got_asc (n : Nat) (r : Nat → Nat) (m : Nat) (A : Nat → Nat) (sub : Nat) : (got n r m A sub).Pairwise (· < ·) :=
  List.Pairwise.filter _ List.pairwise_lt_range

/-- The j-th of them. -/
def gt (n : Nat) (r : Nat → Nat) (m : Nat) (A : Nat → Nat) (sub j : Nat) : Nat := (got n r m A sub).getD j 0

theorem gt_get {n m sub j : Nat} {r A : Nat → Nat} (h : j < (got n r m A sub).length) : (got n r m A sub)[j]? = some (gt n r m A sub j) := by simp [gt, h]
theorem gt_mem {n m sub j : Nat} {r A : Nat → Nat} (h : j < (got n r m A sub).length) : gt n r m A sub j ∈ got n r m A sub := List.mem_of_getElem? (gt_get h)
theorem gt_lt {n m sub i j : Nat} {r A : Nat → Nat} (hi : i < j) (h : j < (got n r m A sub).length) : gt n r m A sub i < gt n r m A sub j := by
  have h1 := List.pairwise_iff_getElem.1 (got_asc n r m A sub) i j (by omega) h hi
  have e1 : gt n r m A sub i = (got n r m A sub)[i] := by simp [gt, show i < (got n r m A sub).length by omega]
  have e2 : gt n r m A sub j = (got n r m A sub)[j] := by simp [gt, h]
  rw [e1, e2]; exact h1

/-- Which tuples the first k sub-tuples hold; .. and the first j tuples of the next. -/
def seenK (n : Nat) (r : Nat → Nat) (m : Nat) (A : Nat → Nat) : Nat → Nat → Bool
  | 0 => fun _ => false
  | k + 1 => fun t => seenK n r m A k t || (got n r m A k).contains t
def seenJ (n : Nat) (r : Nat → Nat) (m : Nat) (A : Nat → Nat) (k : Nat) : Nat → Nat → Bool
  | 0 => seenK n r m A k
  | j + 1 => fun t => if t = gt n r m A k j then true else seenJ n r m A k j t

theorem seenK_rsum {n m : Nat} {r A : Nat → Nat} (g : Good n r m A) {t : Nat} : ∀ k, k ≤ pr (ra r A) m → seenK n r m A k t = true → rsum r A t m < k
  | 0, _, h => by simp [seenK] at h
  | k + 1, hk, h => by
    simp only [seenK, Bool.or_eq_true, List.contains_iff_mem] at h
    rcases h with h | h
    · have := seenK_rsum g k (by omega) h; omega
    · rw [g.rsum_eq (by omega) (got_mem.1 h).2]; omega

theorem seenJ_iff {n m k t : Nat} {r A : Nat → Nat} : ∀ j, j ≤ (got n r m A k).length → (seenJ n r m A k j t = true ↔ seenK n r m A k t = true ∨ ∃ i, i < j ∧ t = gt n r m A k i)
  | 0, _ => by simp [seenJ]
  | j + 1, h => by
    have ih := seenJ_iff (n := n) (m := m) (k := k) (r := r) (A := A) (t := t) j (by omega)
    show (if t = gt n r m A k j then true else seenJ n r m A k j t) = true ↔ _
    by_cases e : t = gt n r m A k j
    · rw [if_pos e]
      exact ⟨fun _ => .inr ⟨j, by omega, e⟩, fun _ => rfl⟩
    · rw [if_neg e, ih]
      constructor
      · rintro (h1 | ⟨i, hi, h1⟩)
        · exact .inl h1
        · exact .inr ⟨i, by omega, h1⟩
      · rintro (h1 | ⟨i, hi, h1⟩)
        · exact .inl h1
        · refine .inr ⟨i, ?_, h1⟩
          by_cases e2 : i = j
          · subst e2; exact absurd h1 e
          · omega

theorem seen_no {n m : Nat} {r A : Nat → Nat} (g : Good n r m A) {k j : Nat} (hk : k < pr (ra r A) m) (hj : j < (got n r m A k).length) : seenJ n r m A k j (gt n r m A k j) = false := by
  rw [Bool.eq_false_iff]
  intro h
  rcases (seenJ_iff (n := n) (m := m) (k := k) (r := r) (A := A) j (Nat.le_of_lt hj)).1 h with h1 | ⟨i, hi, h1⟩
  · have := seenK_rsum g k (by omega) h1
    rw [g.rsum_eq hk (got_mem.1 (gt_mem hj)).2] at this
    omega
  · have := gt_lt hi hj
    omega

theorem seen_all {n m k t : Nat} {r A : Nat → Nat} : seenJ n r m A k (got n r m A k).length t = seenK n r m A (k + 1) t := by
  rw [Bool.eq_iff_iff, seenJ_iff _ (Nat.le_refl _)]
  simp only [seenK, Bool.or_eq_true, List.contains_iff_mem]
  constructor
  · rintro (h | ⟨i, hi, rfl⟩)
    · exact .inl h
    · exact .inr (gt_mem hi)
  · rintro (h | h)
    · exact .inl h
    · obtain ⟨i, hi, e⟩ := List.getElem_of_mem h
      exact .inr ⟨i, hi, by simp [gt, hi, e]⟩

/-! What expand visits -/
def mx (lim : Int) : Nat := max 1 lim.toNat
def res (n : Nat) (r : Nat → Nat) (fx : Nat → Bool) (wd : Nat → Nat) (lim : Int) : List Nat := (ML n r fx wd (pr r n)).take (mx lim)

theorem res_whole {n m : Nat} {r A : Nat → Nat} (sub : Nat) : res n r (fixF A m) (wantF r A sub m) ((pr r n : Nat) + 1) = got n r m A sub := by
  unfold res got
  have := ML_len (n := n) (r := r) (fx := fixF A m) (wd := wantF r A sub m) (pr r n)
  exact List.take_of_length_le (by simp only [mx]; omega)

theorem ML_prefix {n : Nat} {r : Nat → Nat} {fx : Nat → Bool} {wd : Nat → Nat} {k p : Nat} (h : k ≤ p) : ML n r fx wd k = (ML n r fx wd p).take (ML n r fx wd k).length := by
  have e : ML n r fx wd p = ML n r fx wd k ++ (List.map (fun x => k + x) (List.range (p - k))).filter (fun t => mt r fx wd t n) := by
    unfold ML
    rw [← List.filter_append, ← List.range_add, show k + (p - k) = p by omega]
  rw [e]
  exact (List.take_left).symm

theorem res_stop {n : Nat} {r : Nat → Nat} {fx : Nat → Bool} {wd : Nat → Nat} {t : Nat} {lim : Int} (hm : Mt n r fx wd t) (ht : t < pr r n) (h1 : (ML n r fx wd t).length < mx lim) (h2 : ¬ ((ML n r fx wd t).length : Int) + 1 < lim) :
    ML n r fx wd t ++ [t] = res n r fx wd lim := by
  rw [← ML_succ_yes hm, ML_prefix (k := t + 1) (p := pr r n) ht, ML_succ_yes hm, List.length_append]
  unfold res
  congr 1
  simp only [mx, List.length_cons, List.length_nil] at h1 ⊢
  omega

theorem res_end {n : Nat} {r : Nat → Nat} {fx : Nat → Bool} {wd : Nat → Nat} {t : Nat} {lim : Int} (hm : Mt n r fx wd t) (hl : ML n r fx wd (pr r n) = ML n r fx wd (t + 1)) (h1 : (ML n r fx wd t).length < mx lim) :
    ML n r fx wd t ++ [t] = res n r fx wd lim := by
  unfold res
  rw [hl, ML_succ_yes hm, List.take_of_length_le (by simp; omega)]

theorem res_go {n : Nat} {r : Nat → Nat} {fx : Nat → Bool} {wd : Nat → Nat} {t : Nat} {lim : Int} (h2 : ((ML n r fx wd t).length : Int) + 1 < lim) : (ML n r fx wd t).length + 1 < mx lim := by
  simp only [mx]; omega

end Go.Proofs.Qxb6614073a
