import Derived.Test.Qxb6613167aW3
namespace Go.Proofs.Qxb6613167a
open Go.RowKit
set_option linter.unusedVariables false
set_option linter.unusedSimpArgs false

/-- The state that ZZstateAt lays. -/
def stV (m n1 s1 n2 s2 : Int) : Value := .agg #[.int .u64 n1, .int .i64 s1, .pointer none, .int .i64 m, .slice none 0 0, .int .u64 n2, .int .i64 s2, .pointer none]

/-- The store of the eight cells. -/
def st8 (w : World) (x : Nat) (v0 v1 v2 v3 v4 v5 v6 v7 : Value) : World := (((((((w.setCell ⟨x, 0, none⟩ v0).setCell ⟨x, 1, none⟩ v1).setCell ⟨x, 2, none⟩ v2).setCell ⟨x, 3, none⟩ v3).setCell ⟨x, 4, none⟩ v4).setCell ⟨x, 5, none⟩ v5).setCell ⟨x, 6, none⟩ v6).setCell ⟨x, 7, none⟩ v7

theorem st_step (w : World) (x i : Nat) {a b : Array Value} (v : Value) (h : w.heap[x]? = some (.cells a 30 (0, 0))) (e : a.setIfInBounds i v = b) : (w.setCell ⟨x, i, none⟩ v).heap[x]? = some (.cells b 30 (0, 0)) := by
  rw [← e]
  exact heap_setCell_same w x i a 30 v h

theorem st8_row {w w0 : World} {x : Nat} (v0 v1 v2 v3 v4 v5 v6 v7 : Value) {o0 o1 o2 o3 o4 o5 o6 o7 : Value} (h : w.heap[x]? = some (.cells #[o0, o1, o2, o3, o4, o5, o6, o7] 30 (0, 0))) (hB : Below w0.heap.size w0 w) (hx : w0.heap.size ≤ x) :
    (st8 w x v0 v1 v2 v3 v4 v5 v6 v7).heap[x]? = some (.cells #[v0, v1, v2, v3, v4, v5, v6, v7] 30 (0, 0)) ∧ Below w0.heap.size w0 (st8 w x v0 v1 v2 v3 v4 v5 v6 v7) := by
  have h0 := st_step w x 0 (b := #[v0, o1, o2, o3, o4, o5, o6, o7]) v0 h rfl
  have h1 := st_step _ x 1 (b := #[v0, v1, o2, o3, o4, o5, o6, o7]) v1 h0 rfl
  have h2 := st_step _ x 2 (b := #[v0, v1, v2, o3, o4, o5, o6, o7]) v2 h1 rfl
  have h3 := st_step _ x 3 (b := #[v0, v1, v2, v3, o4, o5, o6, o7]) v3 h2 rfl
  have h4 := st_step _ x 4 (b := #[v0, v1, v2, v3, v4, o5, o6, o7]) v4 h3 rfl
  have h5 := st_step _ x 5 (b := #[v0, v1, v2, v3, v4, v5, o6, o7]) v5 h4 rfl
  have h6 := st_step _ x 6 (b := #[v0, v1, v2, v3, v4, v5, v6, o7]) v6 h5 rfl
  have h7 := st_step _ x 7 (b := #[v0, v1, v2, v3, v4, v5, v6, v7]) v7 h6 rfl
  exact ⟨h7, (((((((hB.setCell hx _).setCell hx _).setCell hx _).setCell hx _).setCell hx _).setCell hx _).setCell hx _).setCell hx _⟩

set_option maxRecDepth 100000 in
set_option maxHeartbeats 1000000 in
theorem stateAt_any (m a b : Int) (ha0 : -9223372036854775808 ≤ a) (ha1 : a ≤ 9223372036854775807) (hb0 : -9223372036854775808 ≤ b) (hb1 : b ≤ 9223372036854775807) (w : World) :
    Calls Try.prog 8 #[.int .i64 m, .int .i64 a, .int .i64 b] w fun e w' => e = .returned (stV m (a % 1000000000) (a / 1000000000) (b % 1000000000) (b / 1000000000)) ∧ Below w.heap.size w w' := by
  have A : ∀ w : World, Calls Try.prog 14 #[.agg #[.int .u64 0, .int .i64 0, .pointer none], .int .i64 a] w fun e w' => e = .returned (.agg #[.int .u64 (a % 1000000000), .int .i64 (a / 1000000000), .pointer none]) ∧ Below w.heap.size w w' := by
    have h := add_any 0 0 a (by omega) (by omega) (by omega) (by omega) ha0 ha1
    unfold AddTo at h
    simpa only [Int.zero_add] using h
  have B : ∀ w : World, Calls Try.prog 14 #[.agg #[.int .u64 0, .int .i64 0, .pointer none], .int .i64 b] w fun e w' => e = .returned (.agg #[.int .u64 (b % 1000000000), .int .i64 (b / 1000000000), .pointer none]) ∧ Below w.heap.size w w' := by
    have h := add_any 0 0 b (by omega) (by omega) (by omega) (by omega) hb0 hb1
    unfold AddTo at h
    simpa only [Int.zero_add] using h
  have HA := Hid.mk A
  have HB := Hid.mk B
  clear A B
  go_enter Try.func8, Try.ntmps8
  go_wp2_with fail
  refine (HA.out _).mono ?_
  rintro e w1 ⟨rfl, hb1⟩
  go_wp2_with fail
  refine (HB.out _).mono ?_
  rintro e w2 ⟨rfl, hb2⟩
  have hb := hb1.trans (hb2.mono hb1.size)
  have e1 := (hb.block w.heap.size (by simp)).trans (Go.heap_alloc_new w _)
  have k0 := cell_of_row w2 _ 0 _ _ _ e1
  have q0 := frozen_of_row w2 _ 0 _ _ e1
  have k1 := cell_of_row w2 _ 1 _ _ _ e1
  have q1 := frozen_of_row w2 _ 1 _ _ e1
  have k2 := cell_of_row w2 _ 2 _ _ _ e1
  have q2 := frozen_of_row w2 _ 2 _ _ e1
  have k3 := cell_of_row w2 _ 3 _ _ _ e1
  have q3 := frozen_of_row w2 _ 3 _ _ e1
  have k4 := cell_of_row w2 _ 4 _ _ _ e1
  have q4 := frozen_of_row w2 _ 4 _ _ e1
  have k5 := cell_of_row w2 _ 5 _ _ _ e1
  have q5 := frozen_of_row w2 _ 5 _ _ e1
  have k6 := cell_of_row w2 _ 6 _ _ _ e1
  have q6 := frozen_of_row w2 _ 6 _ _ e1
  have k7 := cell_of_row w2 _ 7 _ _ _ e1
  have q7 := frozen_of_row w2 _ 7 _ _ e1
  simp only [List.getElem?_toArray, List.getElem?_cons_zero, List.getElem?_cons_succ] at k0 k1 k2 k3 k4 k5 k6 k7
  have kB : Below w.heap.size w w2 := ((Below.refl _ _).alloc (Nat.le_refl _) _).trans (hb.mono (by simp))
  have HE := Hid.mk e1
  clear HA HB hb hb1 hb2 e1
  go_wp2
  clear k0 k1 k2 k3 k4 k5 k6 k7 q0 q1 q2 q3 q4 q5 q6 q7
  obtain ⟨r1, r2⟩ := st8_row (.int .u64 (a % 1000000000)) (.int .i64 (a / 1000000000)) (.pointer none) (.int .i64 m) (.slice none 0 0) (.int .u64 (b % 1000000000)) (.int .i64 (b / 1000000000)) (.pointer none) HE.out kB (Nat.le_refl _)
  change bodyPost _ _ _ _ _ (st8 w2 w.heap.size (.int .u64 (a % 1000000000)) (.int .i64 (a / 1000000000)) (.pointer none) (.int .i64 m) (.slice none 0 0) (.int .u64 (b % 1000000000)) (.int .i64 (b / 1000000000)) (.pointer none))
  obtain ⟨W', hW'⟩ : ∃ W', W' = st8 w2 w.heap.size (.int .u64 (a % 1000000000)) (.int .i64 (a / 1000000000)) (.pointer none) (.int .i64 m) (.slice none 0 0) (.int .u64 (b % 1000000000)) (.int .i64 (b / 1000000000)) (.pointer none) := ⟨_, rfl⟩
  rw [← hW'] at r1 r2 ⊢
  clear hW'
  have j0 := cell_of_row W' _ 0 _ _ _ r1
  have j1 := cell_of_row W' _ 1 _ _ _ r1
  have j2 := cell_of_row W' _ 2 _ _ _ r1
  have j3 := cell_of_row W' _ 3 _ _ _ r1
  have j4 := cell_of_row W' _ 4 _ _ _ r1
  have j5 := cell_of_row W' _ 5 _ _ _ r1
  have j6 := cell_of_row W' _ 6 _ _ _ r1
  have j7 := cell_of_row W' _ 7 _ _ _ r1
  simp only [List.getElem?_toArray, List.getElem?_cons_zero, List.getElem?_cons_succ] at j0 j1 j2 j3 j4 j5 j6 j7
  refine bodyPost_ret (v := stV m (a % 1000000000) (a / 1000000000) (b % 1000000000) (b / 1000000000)) (by simp [results, Try.results8, go_sem, stV, j0, j1, j2, j3, j4, j5, j6, j7]) rfl ⟨rfl, r2⟩

set_option maxRecDepth 100000 in
set_option maxHeartbeats 1000000 in
theorem cool_zero (m n1 s1 c : Int) (w : World) :
    Calls Try.prog 13 #[stV m n1 s1 0 0, .int .i64 c] w fun e w' => e = .returned (.bool false) ∧ Below w.heap.size w w' := by
  have HZ := Hid.mk isZero_yes
  unfold stV
  go_enter Try.func13, Try.ntmps13
  go_wp2_with fail
  refine (HZ.out _).mono ?_
  rintro e w1 ⟨rfl, hb1⟩
  have kB : Below w.heap.size w w1 := ((Below.refl _ _).alloc (Nat.le_refl _) _).trans (hb1.mono (by simp))
  clear hb1
  go_wp2
  go_ret
  exact ⟨rfl, kB⟩

set_option maxRecDepth 100000 in
set_option maxHeartbeats 1000000 in
theorem cool_any (m n1 s1 n2 s2 D c : Int) (hz : n2 ≠ 0 ∨ s2 ≠ 0) (hn0 : 0 ≤ n1) (hn1 : n1 ≤ 999999999) (hm0 : 0 ≤ n2) (hm1 : n2 ≤ 999999999) (hs0 : -1000000000000 ≤ s1) (hs1 : s1 ≤ 1000000000000) (ht0 : -1000000000000 ≤ s2) (ht1 : s2 ≤ 1000000000000)
    (hD : (s1 - s2) * 1000000000 + (n1 - n2) = D) (hD0 : -9223372034000000000 ≤ D) (hD1 : D ≤ 9223372034000000000) (w : World) :
    Calls Try.prog 13 #[stV m n1 s1 n2 s2, .int .i64 c] w fun e w' => e = .returned (.bool (decide (D < c))) ∧ Below w.heap.size w w' := by
  have HZ := Hid.mk (isZero_no n2 s2 hz)
  have HS := Hid.mk (sub_any n1 s1 n2 s2 D hn0 hn1 hm0 hm1 hs0 hs1 ht0 ht1 hD hD0 hD1)
  clear hz hn0 hn1 hm0 hm1 hs0 hs1 ht0 ht1 hD hD0 hD1
  unfold stV
  go_enter Try.func13, Try.ntmps13
  go_wp2_with fail
  refine (HZ.out _).mono ?_
  rintro e w1 ⟨rfl, hb1⟩
  have e1 := (hb1.block w.heap.size (by simp)).trans (Go.heap_alloc_new w _)
  have k0 := cell_of_row w1 _ 0 _ _ _ e1
  have k1 := cell_of_row w1 _ 1 _ _ _ e1
  have k2 := cell_of_row w1 _ 2 _ _ _ e1
  have k3 := cell_of_row w1 _ 3 _ _ _ e1
  have k4 := cell_of_row w1 _ 4 _ _ _ e1
  have k5 := cell_of_row w1 _ 5 _ _ _ e1
  have k6 := cell_of_row w1 _ 6 _ _ _ e1
  have k7 := cell_of_row w1 _ 7 _ _ _ e1
  simp only [List.getElem?_toArray, List.getElem?_cons_zero, List.getElem?_cons_succ] at k0 k1 k2 k3 k4 k5 k6 k7
  have kB : Below w.heap.size w w1 := ((Below.refl _ _).alloc (Nat.le_refl _) _).trans (hb1.mono (by simp))
  clear HZ hb1 e1
  go_wp2_with fail
  refine (HS.out _).mono ?_
  rintro e w2 ⟨rfl, hb2⟩
  have kC := kB.trans (hb2.mono kB.size)
  clear HS hb2
  go_wp2
  go_ret
  exact ⟨rfl, kC⟩

/-- The road through ZZcoolingDown: the state is laid and handed on. -/
theorem zzCool_any (m n1 s1 n2 s2 c : Int) (b : Bool) (h : ∀ w : World, Calls Try.prog 13 #[stV m n1 s1 n2 s2, .int .i64 c] w fun e w' => e = .returned (.bool b) ∧ Below w.heap.size w w') (w : World) :
    Calls Try.prog 7 #[stV m n1 s1 n2 s2, .int .i64 c] w fun e w' => e = .returned (.bool b) ∧ Below w.heap.size w w' := by
  have HS := Hid.mk h
  clear h
  unfold stV at *
  go_enter Try.func7, Try.ntmps7
  go_wp2_with fail
  refine (HS.out _).mono ?_
  rintro e w1 ⟨rfl, hb1⟩
  have kB : Below w.heap.size w w1 := ((Below.refl _ _).alloc (Nat.le_refl _) _).trans (hb1.mono (by simp))
  clear HS hb1
  go_wp2
  go_ret
  exact ⟨rfl, kB⟩
end Go.Proofs.Qxb6613167a
