import Derived.Test.Qxb6614073aW1
namespace Go.Proofs.Qxb6614073a
open Go.RowKit
set_option linter.unusedVariables false
set_option linter.unusedSimpArgs false

theorem mul_bd {a b c d : Nat} (h1 : a ≤ c) (h2 : b ≤ d) : 0 ≤ (a : Int) * (b : Int) ∧ (a : Int) * (b : Int) ≤ ((c * d : Nat) : Int) := by
  have h : a * b ≤ c * d := Nat.mul_le_mul h1 h2
  have e : (a : Int) * (b : Int) = ((a * b : Nat) : Int) := by simp
  rw [e]
  omega

/-! zzSubSize -/
set_option maxHeartbeats 400000 in
theorem subSize_any (a0 a2 : Option Addr) (b0 b2 n m c0 c2 : Nat) (r A : Nat → Nat) (w : World) (g : Good n r m A) (k0 : At a0 b0 n) (k2 : At a2 b2 m)
    (hr : ∀ i, i < n → w.cell? ⟨b0, i, none⟩ = some (.int .u64 (r i))) (ha : ∀ i, i < m → w.cell? ⟨b2, i, none⟩ = some (.int .i64 (A i))) :
    Calls Try.prog 8 #[.slice a0 n c0, .slice a2 m c2] w fun e w' => e = .returned (.int .u64 (pr (ra r A) m : Nat)) ∧ w' = w := by
  have hn := g.n4
  have hm := g.m4
  rcases k0 with rfl | ⟨rfl, hz⟩ <;> rcases k2 with rfl | ⟨rfl, hz2⟩
  all_goals
    go_enter Try.func8, Try.ntmps8
    go_wp2
    go_loop [5, 6] (fun p i => ∃ k : Nat, k ≤ m ∧ i = .int .i64 k ∧ p = .int .u64 (pr (ra r A) k : Nat)) (fun _ i => m - (intOf i).toNat)
    case atStart => exact ⟨0, Nat.zero_le _, rfl, rfl⟩
    case round =>
      obtain ⟨k, hk, rfl, rfl⟩ := hrel
      by_cases hlt : k < m
      · first | (exfalso; have := hz2.out; omega) | (exfalso; have := hz.out; have := g.an k hlt; omega) | skip
        all_goals
          have e1 := ha k hlt
          have hA := g.an k hlt
          have e2 := hr (A k) hA
          have hb := mul_bd (g.psub_le hk) (g.r2 (A k) hA)
          obtain ⟨hb1, hb2⟩ := hb
          go_wp2
          go_round
          case rel => exact ⟨k + 1, by omega, by go_num, by simp [pr, ra]⟩
          case measure => simp [intOf]; omega
      · have hkm : k = m := by omega
        subst hkm
        go_wp2
        go_ret
        exact ⟨rfl, rfl⟩

/-! digit -/
/-- The tuple space behind a pointer: a struct of 8 cells in block S: the radices in field 2, the place values in field 3. -/
structure Sp (w : World) (S : Nat) (a0 a1 : Option Addr) (n c0 c1 : Nat) : Prop where
  rad : w.cell? ⟨S, 2, none⟩ = some (.slice a0 n c0)
  str : w.cell? ⟨S, 3, none⟩ = some (.slice a1 n c1)

set_option maxHeartbeats 400000 in
theorem digit_any (S b0 b1 n m c0 c1 : Nat) (r A : Nat → Nat) (w : World) (t a : Nat) (g : Good n r m A) (hs : Sp w S (some ⟨b0, 0, none⟩) (some ⟨b1, 0, none⟩) n c0 c1) (ht : t ≤ 1000000) (han : a < n)
    (hr : ∀ i, i < n → w.cell? ⟨b0, i, none⟩ = some (.int .u64 (r i))) (hst : ∀ i, i < n → w.cell? ⟨b1, i, none⟩ = some (.int .u64 (pr r i : Nat))) :
    Calls Try.prog 18 #[.pointer (some ⟨S, 0, none⟩), .int .u64 t, .int .i64 a] w fun e w' => e = .returned (.int .u64 (dg r t a : Nat)) ∧ ∃ q, w' = w.drewN q := by
  have hn := g.n4
  have e1 := hs.rad
  have e2 := hs.str
  have e3 := hr a han
  have e4 := hst a han
  have p1 := g.pos (k := a) (by omega)
  have p2 := g.r1 a han
  have p3 := g.p a (by omega)
  have p4 := g.r2 a han
  have d0 := tq_div0 r t a
  have d1 := tq_mod r t a
  have d2 := tq_le r t a
  clear hr hst hs
  go_enter Try.func18, Try.ntmps18
  go_wp2
  go_quiet (fail)
  go_wp2
  go_ret
  exact ⟨rfl, _, rfl⟩

theorem Good.rp_bd {n m : Nat} {r A : Nat → Nat} (g : Good n r m A) (sub : Nat) {j : Nat} (h : j ≤ m) : rp r A sub j ≤ 65536 :=
  Nat.le_of_lt (Nat.lt_of_lt_of_le (g.rp_lt sub j h) (g.p _ (g.ub_n j h)))

theorem Good.rp_dg {n m : Nat} {r A : Nat → Nat} (g : Good n r m A) (sub : Nat) {j : Nat} (h : j < m) : dg r (rp r A sub j) (A j) = 0 := by
  have h1 := g.rp_lt sub j (by omega)
  have h2 := g.mono (g.ub_A j h) (by have := g.an j h; omega)
  unfold dg
  rw [Nat.div_eq_of_lt (by omega), Nat.zero_mod]

theorem Sp.dr {w w' : World} {S : Nat} {a0 a1 : Option Addr} {n c0 c1 : Nat} (h : Sp w S a0 a1 n c0 c1) (hd : Dr w w') : Sp w' S a0 a1 n c0 c1 := ⟨hd.cell h.rad, hd.cell h.str⟩

set_option maxHeartbeats 400000 in
theorem replace_any (S b0 b1 b2 n m c0 c1 c2 : Nat) (a0 a1 a2 : Option Addr) (r A : Nat → Nat) (w : World) (sub : Nat) (g : Good n r m A) (hs : Sp w S a0 a1 n c0 c1) (k0 : At a0 b0 n) (k1 : At a1 b1 n) (k2 : At a2 b2 m) (hsub : sub ≤ 1000000)
    (hr : ∀ i, i < n → w.cell? ⟨b0, i, none⟩ = some (.int .u64 (r i))) (hst : ∀ i, i < n → w.cell? ⟨b1, i, none⟩ = some (.int .u64 (pr r i : Nat))) (ha : ∀ i, i < m → w.cell? ⟨b2, i, none⟩ = some (.int .i64 (A i))) :
    Calls Try.prog 17 #[.pointer (some ⟨S, 0, none⟩), .int .u64 0, .slice a2 m c2, .int .u64 sub] w fun e w' => e = .returned (.int .u64 (rp r A sub m : Nat)) ∧ Dr w w' := by
  have hn := g.n4
  have hm := g.m4
  rcases k2 with rfl | ⟨rfl, hz⟩
  all_goals
    go_enter Try.func17, Try.ntmps17
    go_wp2
    go_loopw [1, 3, 14] (fun t s i wr => ∃ k : Nat, k ≤ m ∧ i = .int .i64 k ∧ t = .int .u64 (rp r A sub k : Nat) ∧ s = .int .u64 (sq r A sub k : Nat) ∧ Dr w wr) (fun _ _ i _ => m - (intOf i).toNat)
    case atStart => exact ⟨0, Nat.zero_le _, rfl, rfl, by rw [sq_zero], Dr.refl _⟩
    case round =>
      obtain ⟨k, hk, rfl, rfl, rfl, hD⟩ := hrel
      by_cases hlt : k < m
      · first | (exfalso; have := hz.out; omega) | skip
        all_goals
          have e0 := hD.cell (ha k hlt)
          have hA := g.an k hlt
          obtain rfl := k0.pos (by omega)
          obtain rfl := k1.pos (by omega)
          have hs' := hs.dr hD
          have e1 := hs'.rad
          have e2 := hs'.str
          have e3 := hD.cell (hr (A k) hA)
          have e4 := hD.cell (hst (A k) hA)
          have p1 := g.pos (k := A k) (by omega)
          have p2 := g.r1 (A k) hA
          have p3 := g.p (A k) (by omega)
          have p4 := g.r2 (A k) hA
          have p5 := g.rp_bd sub hk
          have d0 := sq_mod r A sub k
          have d1 := sq_div r A sub k
          have d2 := sq_le r A sub k
          have d2' := sq_le r A sub (k + 1)
          have d3 := g.rp_dg sub hlt
          have d4 := g.sdig_lt sub hlt
          have hb := mul_bd (show sdig r A sub k ≤ 65536 by omega) p3
          obtain ⟨hb1, hb2⟩ := hb
          have hdig := fun q => digit_any S b0 b1 n m c0 c1 r A (wr.drewN q) (rp r A sub k) (A k) g (hs'.dr ⟨q, rfl⟩) (by omega) hA (fun i hi => hD.cell (hr i hi)) (fun i hi => hD.cell (hst i hi))
          have hdig' := hdig
          have HD : Hid (∀ q, Calls Try.prog 18 #[.pointer (some ⟨S, 0, none⟩), .int .u64 (rp r A sub k), .int .i64 (A k)] (wr.drewN q) fun e w' => e = .returned (.int .u64 (dg r (rp r A sub k) (A k) : Nat)) ∧ ∃ m, w' = (wr.drewN q).drewN m) := hdig
          clear hdig hdig' hr hst ha
          go_wp2
          go_quiet ((go_at_call 18; exact Calls.quiet_of (HD.out _)))
          go_wp2
          go_roundw
          case rel => exact ⟨k + 1, by omega, by go_num, by simp [rp], rfl, hD.drewN _⟩
          case measure => simp [intOf]; omega
      · have hkm : k = m := by omega
        subst hkm
        go_wp2
        go_ret
        exact ⟨rfl, hD⟩

/-! zzReadSub -/
set_option maxHeartbeats 400000 in
theorem readSub_any (a0 a2 : Option Addr) (b0 b2 D n m c0 c2 c3 : Nat) (r A : Nat → Nat) (w : World) (t : Nat) (f0 : Nat → Value) (g : Good n r m A) (k0 : At a0 b0 n) (k2 : At a2 b2 m) (ht : t ≤ 1000000)
    (hr : ∀ i, i < n → w.cell? ⟨b0, i, none⟩ = some (.int .u64 (r i))) (ha : ∀ i, i < m → w.cell? ⟨b2, i, none⟩ = some (.int .i64 (A i))) (hd : Arr w D 24 n f0) (h0 : 0 < n → b0 ≠ D) (h2 : 0 < m → b2 ≠ D) :
    Calls Try.prog 14 #[.slice a0 n c0, .slice a2 m c2, .slice (some ⟨D, 0, none⟩) n c3, .int .u64 t] w fun e w' => e = .returned (.int .u64 (rsum r A t m : Nat)) ∧ Only D w w' ∧ ∃ f, Arr w' D 24 n f := by
  have hn := g.n4
  have hm := g.m4
  rcases k0 with rfl | ⟨rfl, hz⟩ <;> rcases k2 with rfl | ⟨rfl, hz2⟩
  all_goals
    go_enter Try.func14, Try.ntmps14
    go_wp2
    go_loopw [9, 10] (fun x i wr => ∃ k : Nat, k ≤ n ∧ i = .int .i64 k ∧ x = .int .u64 (tq r t k : Nat) ∧ Only D w wr ∧ ∃ f, Arr wr D 24 n f ∧ ∀ a, a < k → f a = .int .u64 (dg r t a : Nat)) (fun _ i _ => n - (intOf i).toNat)
    case atStart => exact ⟨0, Nat.zero_le _, rfl, by rw [tq_zero], Only.refl _ _, f0, hd, fun a ha => by omega⟩
    case round =>
      obtain ⟨k, hk, rfl, rfl, hO, f, hf, hfa⟩ := hrel
      by_cases hlt : k < n
      · first | (exfalso; have := hz.out; omega) | skip
        all_goals
          have e0 : wr.cell? ⟨b0, k, none⟩ = some (.int .u64 (r k)) := (World.cell?_of_block (hO.block b0 (h0 (by omega)))).trans (hr k hlt)
          have e1 := hf.cell hlt
          have e2 := hf.free k
          have e3 : ∀ v, (wr.setCell ⟨D, k, none⟩ v).cell? ⟨b0, k, none⟩ = some (.int .u64 (r k)) := fun v => (World.cell?_setCell_other _ _ _ _ (by intro e; injection e with e; exact h0 (by omega) e.symm)).trans e0
          have p2 := g.r1 k hlt
          have p4 := g.r2 k hlt
          have d0 := tq_mod r t k
          have d1 := tq_div r t k
          have d2 := tq_le r t k
          have d2' := tq_le r t (k + 1)
          have hO' : ∀ v, Only D w (wr.setCell ⟨D, k, none⟩ v) := fun v => hO.setCell k v
          have hf' := hf.setCell k (.int .u64 (dg r t k : Nat))
          have hf2 : ∀ a, a < k + 1 → (if a = k then Value.int .u64 (dg r t k : Nat) else f a) = .int .u64 (dg r t a : Nat) := by
            intro a ha'
            by_cases e : a = k
            · rw [if_pos e, e]
            · rw [if_neg e]; exact hfa a (by omega)
          have HF : Hid (Arr (wr.setCell ⟨D, k, none⟩ (.int .u64 (dg r t k : Nat))) D 24 n (fun j => if j = k then Value.int .u64 (dg r t k : Nat) else f j) ∧ (∀ v, Only D w (wr.setCell ⟨D, k, none⟩ v)) ∧ ∀ a, a < k + 1 → (if a = k then Value.int .u64 (dg r t k : Nat) else f a) = .int .u64 (dg r t a : Nat)) := ⟨hf', hO', hf2⟩
          clear hf' hO' hf2 hfa hr ha
          go_wp2
          go_roundw
          case rel => exact ⟨k + 1, by omega, by go_num, rfl, HF.out.2.1 _, _, HF.out.1, HF.out.2.2⟩
          case measure => simp [intOf]; omega
      · have hfa' : ∀ a, a < n → f a = .int .u64 (dg r t a : Nat) := fun a ha => hfa a (by omega)
        have hA' := hf.congr hfa'
        clear hfa hfa' hf
        go_wp2
        go_loop [11, 12, 13] (fun v p i => ∃ j : Nat, j ≤ m ∧ i = .int .i64 j ∧ v = .int .u64 (rsum r A t j : Nat) ∧ p = .int .u64 (pr (ra r A) j : Nat)) (fun _ _ i => m - (intOf i).toNat)
        case atStart => exact ⟨0, Nat.zero_le _, rfl, rfl, rfl⟩
        case round =>
          obtain ⟨j, hj, rfl, rfl, rfl⟩ := hrel
          by_cases hjl : j < m
          · first | (exfalso; have := hz2.out; omega) | (exfalso; have := hz.out; have := g.an j hjl; omega) | skip
            all_goals
              have hA := g.an j hjl
              have e0 : wr.cell? ⟨b2, j, none⟩ = some (.int .i64 (A j)) := (World.cell?_of_block (hO.block b2 (h2 (by omega)))).trans (ha j hjl)
              have e1 : wr.cell? ⟨b0, A j, none⟩ = some (.int .u64 (r (A j))) := (World.cell?_of_block (hO.block b0 (h0 (by omega)))).trans (hr (A j) hA)
              have e2 := hA'.cell hA
              have p1 := g.psub_le (j := j) (by omega)
              have p2 : dg r t (A j) ≤ 65536 := Nat.le_of_lt (Nat.lt_of_lt_of_le (Nat.mod_lt _ (g.r1 _ hA)) (g.r2 _ hA))
              have p3 := g.r2 _ hA
              have p4 := g.rsum_lt t j (by omega)
              obtain ⟨hb1, hb2⟩ := mul_bd p2 p1
              obtain ⟨hb3, hb4⟩ := mul_bd p1 p3
              clear hr ha
              go_wp2
              go_round
              case rel => exact ⟨j + 1, by omega, by go_num, by simp [rsum], by simp [pr, ra]⟩
              case measure => simp [intOf]; omega
          · have hjm : j = m := by omega
            subst hjm
            go_wp2
            go_ret
            exact ⟨rfl, hO, _, hA'⟩

end Go.Proofs.Qxb6614073a
