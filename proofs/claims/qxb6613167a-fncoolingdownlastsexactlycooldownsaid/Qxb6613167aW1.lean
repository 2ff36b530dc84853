import Derived.Test.Qxb6613167aRows
import Derived.Test.Qxb6613167aBits
import Derived.WalkKit
import Derived.WalkSpells
import Derived.WalkLawsBesides
namespace Go.Proofs.Qxb6613167a
open Go.RowKit
set_option linter.unusedVariables false
set_option linter.unusedSimpArgs false

theorem Hid.mk {p : Prop} (h : p) : Hid p := h

set_option maxRecDepth 100000 in
set_option maxHeartbeats 1000000 in
theorem addSec_any (T : Nat) (x s d : Int) (w : World) (h0 : -1000000000000 ≤ d) (h1 : d ≤ 1000000000000) (hs0 : -1000000000000 ≤ s) (hs1 : s ≤ 1000000000000) (hx0 : 0 ≤ x) (hx1 : x ≤ 1073741823)
    (hc0 : w.cell? ⟨T, 0, none⟩ = some (.int .u64 x)) (hc1 : w.cell? ⟨T, 1, none⟩ = some (.int .i64 s)) (hf : w.frozen? ⟨T, 1, none⟩ = false) :
    Calls Try.prog 22 #[.pointer (some ⟨T, 0, none⟩), .int .i64 d] w fun e w' => e = .returned (.tuple #[]) ∧ w' = w.setCell ⟨T, 1, none⟩ (.int .i64 (s + d)) := by
  have f4 := and_top x hx0 hx1
  have g1 : -9223372036854775808 ≤ s + d := by omega
  have g2 : s + d ≤ 9223372036854775807 := by omega
  by_cases hd : 0 < d
  · have hq : decide (s < s + d) = true := by simp; omega
    have hr : decide (0 < d) = true := by simpa using hd
    go_enter Try.func22, Try.ntmps22
    go_wp2
    go_end0
    exact ⟨rfl, rfl⟩
  · have hq : decide (s < s + d) = false := by simp; omega
    have hr : decide (0 < d) = false := by simpa using hd
    go_enter Try.func22, Try.ntmps22
    go_wp2
    go_end0
    exact ⟨rfl, rfl⟩

/-- The two blocks that Add lays. -/
theorem two_new (w : World) (o1 o2 : Obj) : ((w.alloc o1).alloc o2).heap[w.heap.size]? = some o1 ∧ ((w.alloc o1).alloc o2).heap[w.heap.size + 1]? = some o2 ∧ Below w.heap.size w ((w.alloc o1).alloc o2) ∧ ((w.alloc o1).alloc o2).heap.size = w.heap.size + 2 := by
  refine ⟨?_, ?_, ((Below.refl _ _).alloc (Nat.le_refl _) _).alloc (by simp) _, by simp⟩
  · rw [Below.heap_alloc _ _ _ (by simp)]
    exact Go.heap_alloc_new w o1
  · have h := Go.heap_alloc_new (w.alloc o1) o2
    simpa using h

theorem add_after {w W w1 : World} {a s x : Int} (hB : Below w.heap.size w W) (h1 : W.heap[w.heap.size]? = some (.cells #[.int .u64 a, .int .i64 s, .pointer none] 27 (0, 0))) (h2 : W.heap[w.heap.size + 1]? = some (.cells #[.int .u64 0, .int .i64 0, .pointer none] 27 (0, 0)))
    (hw : w1 = W.setCell ⟨w.heap.size, 1, none⟩ (.int .i64 x)) :
    w1.cell? ⟨w.heap.size, 0, none⟩ = some (.int .u64 a) ∧ w1.cell? ⟨w.heap.size, 1, none⟩ = some (.int .i64 x) ∧ w1.cell? ⟨w.heap.size, 2, none⟩ = some (.pointer none) ∧
    w1.cell? ⟨w.heap.size + 1, 0, none⟩ = some (.int .u64 0) ∧ w1.cell? ⟨w.heap.size + 1, 1, none⟩ = some (.int .i64 0) ∧ w1.cell? ⟨w.heap.size + 1, 2, none⟩ = some (.pointer none) ∧
    w1.frozen? ⟨w.heap.size + 1, 0, none⟩ = false ∧ w1.frozen? ⟨w.heap.size + 1, 1, none⟩ = false ∧ w1.frozen? ⟨w.heap.size + 1, 2, none⟩ = false ∧ Below w.heap.size w w1 := by
  have e1 := heap_setCell_same W w.heap.size 1 _ 27 (.int .i64 x) h1
  have e2 := (heap_setCell_other W ⟨w.heap.size, 1, none⟩ (w.heap.size + 1) (.int .i64 x) (by show w.heap.size + 1 ≠ w.heap.size; omega)).trans h2
  rw [← hw] at e1 e2
  exact ⟨cell_of_row w1 _ 0 _ _ _ e1, cell_of_row w1 _ 1 _ _ _ e1, cell_of_row w1 _ 2 _ _ _ e1, cell_of_row w1 _ 0 _ _ _ e2, cell_of_row w1 _ 1 _ _ _ e2, cell_of_row w1 _ 2 _ _ _ e2,
    frozen_of_row w1 _ 0 _ _ e2, frozen_of_row w1 _ 1 _ _ e2, frozen_of_row w1 _ 2 _ _ e2, by rw [hw]; exact hB.setCell (Nat.le_refl _) _⟩

/-- Add, at the quotient and the rest: the rest with the nanoseconds is within a second. -/
def AddTo (n s d N K : Int) : Prop := ∀ w : World, Calls Try.prog 14 #[.agg #[.int .u64 n, .int .i64 s, .pointer none], .int .i64 d] w fun e w' => e = .returned (.agg #[.int .u64 N, .int .i64 (s + K), .pointer none]) ∧ Below w.heap.size w w'

set_option maxRecDepth 100000 in
set_option maxHeartbeats 1000000 in
theorem add_mid (n s d q r : Int) (hn0 : 0 ≤ n) (hn1 : n ≤ 999999999) (hs0 : -1000000000000 ≤ s) (hs1 : s ≤ 1000000000000) (h0 : -9223372036854775808 ≤ d) (h1 : d ≤ 9223372036854775807)
    (e1 : d.tdiv 1000000000 = q) (e2 : d.tmod 1000000000 = r) (q0 : -9223372037 ≤ q) (q1 : q ≤ 9223372037) (r0 : -1000000000 < r) (r1 : r < 1000000000) (k0 : 0 ≤ n + r) (k1 : n + r < 1000000000) : AddTo n s d (n + r) q := by
  intro w
  have f1 := and_mask n hn0 (by omega)
  have f2 := andNot_mask n hn0 (by omega)
  have f3 := or_zero (n + r) (by omega) (by omega)
  have f4 := and_top (n + r) (by omega) (by omega)
  obtain ⟨t1, t2, t3, t4⟩ := two_new w (.cells #[.int .u64 (n + r), .int .i64 s, .pointer none] 27) (.cells #[.int .u64 0, .int .i64 0, .pointer none] 27)
  have hadd := addSec_any w.heap.size (n + r) s q _ (by omega) (by omega) hs0 hs1 k0 (by omega) (cell_of_row _ _ 0 _ _ _ t1) (cell_of_row _ _ 1 _ _ _ t1) (frozen_of_row _ _ 1 _ _ t1)
  have HA := Hid.mk hadd
  have HB := Hid.mk t3
  have HC := Hid.mk t1
  have HD := Hid.mk t2
  clear hadd t1 t2 t3 t4
  go_enter Try.func14, Try.ntmps14
  go_wp2_with (first | (go_at_call 21; go_in))
  refine HA.out.mono ?_
  rintro e w1 ⟨rfl, hw1⟩
  obtain ⟨k0, k1, k2, k3, k4, k5, q3, q4, q5, kB⟩ := add_after HB.out HC.out HD.out hw1
  clear hw1 HA HB HC HD
  go_wp2
  refine bodyPost_ret (v := .agg #[.int .u64 (n + r), .int .i64 (s + q), .pointer none]) (by simp [results, Try.results14, go_sem, k3, k4, k5]) rfl ⟨rfl, ?_⟩
  repeat (first | exact kB | refine Below.setCell ?_ (by simp) _)

set_option maxRecDepth 100000 in
set_option maxHeartbeats 1000000 in
theorem add_up (n s d q r N K : Int) (hn0 : 0 ≤ n) (hn1 : n ≤ 999999999) (hs0 : -1000000000000 ≤ s) (hs1 : s ≤ 1000000000000) (h0 : -9223372036854775808 ≤ d) (h1 : d ≤ 9223372036854775807)
    (e1 : d.tdiv 1000000000 = q) (e2 : d.tmod 1000000000 = r) (q0 : -9223372037 ≤ q) (q1 : q ≤ 9223372037) (r0 : -1000000000 < r) (r1 : r < 1000000000) (k0 : 1000000000 ≤ n + r) (eN : n + r - 1000000000 = N) (eK : q + 1 = K) : AddTo n s d N K := by
  intro w
  have f1 := and_mask n hn0 (by omega)
  have f2 := andNot_mask n hn0 (by omega)
  have f3 := or_zero N (by omega) (by omega)
  have f4 := and_top N (by omega) (by omega)
  have N0 : 0 ≤ N := by omega
  have N1 : N ≤ 999999999 := by omega
  obtain ⟨t1, t2, t3, t4⟩ := two_new w (.cells #[.int .u64 N, .int .i64 s, .pointer none] 27) (.cells #[.int .u64 0, .int .i64 0, .pointer none] 27)
  have hadd := addSec_any w.heap.size N s K _ (by omega) (by omega) hs0 hs1 N0 (by omega) (cell_of_row _ _ 0 _ _ _ t1) (cell_of_row _ _ 1 _ _ _ t1) (frozen_of_row _ _ 1 _ _ t1)
  have HA := Hid.mk hadd
  have HB := Hid.mk t3
  have HC := Hid.mk t1
  have HD := Hid.mk t2
  clear hadd t1 t2 t3 t4
  go_enter Try.func14, Try.ntmps14
  go_wp2_with (first | (go_at_call 21; go_in))
  refine HA.out.mono ?_
  rintro e w1 ⟨rfl, hw1⟩
  obtain ⟨k0, k1, k2, k3, k4, k5, q3, q4, q5, kB⟩ := add_after HB.out HC.out HD.out hw1
  clear hw1 HA HB HC HD
  go_wp2
  refine bodyPost_ret (v := .agg #[.int .u64 N, .int .i64 (s + K), .pointer none]) (by simp [results, Try.results14, go_sem, k3, k4, k5]) rfl ⟨rfl, ?_⟩
  repeat (first | exact kB | refine Below.setCell ?_ (by simp) _)

set_option maxRecDepth 100000 in
set_option maxHeartbeats 1000000 in
theorem add_down (n s d q r N K : Int) (hn0 : 0 ≤ n) (hn1 : n ≤ 999999999) (hs0 : -1000000000000 ≤ s) (hs1 : s ≤ 1000000000000) (h0 : -9223372036854775808 ≤ d) (h1 : d ≤ 9223372036854775807)
    (e1 : d.tdiv 1000000000 = q) (e2 : d.tmod 1000000000 = r) (q0 : -9223372037 ≤ q) (q1 : q ≤ 9223372037) (r0 : -1000000000 < r) (r1 : r < 1000000000) (k0 : n + r < 0) (eN : n + r + 1000000000 = N) (eK : q - 1 = K) : AddTo n s d N K := by
  intro w
  have f1 := and_mask n hn0 (by omega)
  have f2 := andNot_mask n hn0 (by omega)
  have f3 := or_zero N (by omega) (by omega)
  have f4 := and_top N (by omega) (by omega)
  have N0 : 0 ≤ N := by omega
  have N1 : N ≤ 999999999 := by omega
  obtain ⟨t1, t2, t3, t4⟩ := two_new w (.cells #[.int .u64 N, .int .i64 s, .pointer none] 27) (.cells #[.int .u64 0, .int .i64 0, .pointer none] 27)
  have hadd := addSec_any w.heap.size N s K _ (by omega) (by omega) hs0 hs1 N0 (by omega) (cell_of_row _ _ 0 _ _ _ t1) (cell_of_row _ _ 1 _ _ _ t1) (frozen_of_row _ _ 1 _ _ t1)
  have HA := Hid.mk hadd
  have HB := Hid.mk t3
  have HC := Hid.mk t1
  have HD := Hid.mk t2
  clear hadd t1 t2 t3 t4
  go_enter Try.func14, Try.ntmps14
  go_wp2_with (first | (go_at_call 21; go_in))
  refine HA.out.mono ?_
  rintro e w1 ⟨rfl, hw1⟩
  obtain ⟨k0, k1, k2, k3, k4, k5, q3, q4, q5, kB⟩ := add_after HB.out HC.out HD.out hw1
  clear hw1 HA HB HC HD
  go_wp2
  refine bodyPost_ret (v := .agg #[.int .u64 N, .int .i64 (s + K), .pointer none]) (by simp [results, Try.results14, go_sem, k3, k4, k5]) rfl ⟨rfl, ?_⟩
  repeat (first | exact kB | refine Below.setCell ?_ (by simp) _)

/-- Add: whatever the time and the nanoseconds. -/
theorem add_any (n s d : Int) (hn0 : 0 ≤ n) (hn1 : n ≤ 999999999) (hs0 : -1000000000000 ≤ s) (hs1 : s ≤ 1000000000000) (h0 : -9223372036854775808 ≤ d) (h1 : d ≤ 9223372036854775807) : AddTo n s d ((n + d) % 1000000000) ((n + d) / 1000000000) := by
  obtain ⟨q, e1⟩ : ∃ q, d.tdiv 1000000000 = q := ⟨_, rfl⟩
  obtain ⟨r, e2⟩ : ∃ r, d.tmod 1000000000 = r := ⟨_, rfl⟩
  have e3 : 1000000000 * q + r = d := by rw [← e1, ← e2]; exact Int.mul_tdiv_add_tmod d 1000000000
  have r1 : r < 1000000000 := by rw [← e2]; exact Int.tmod_lt_of_pos d (by omega)
  have r0 : -1000000000 < r := by
    rw [← e2]
    have := Int.lt_tmod_of_pos d (b := 1000000000) (by omega)
    omega
  by_cases k0 : n + r < 0
  · have := add_down n s d q r ((n + d) % 1000000000) ((n + d) / 1000000000) hn0 hn1 hs0 hs1 h0 h1 e1 e2 (by omega) (by omega) r0 r1 k0 (by omega) (by omega)
    exact this
  · by_cases k1 : 1000000000 ≤ n + r
    · exact add_up n s d q r ((n + d) % 1000000000) ((n + d) / 1000000000) hn0 hn1 hs0 hs1 h0 h1 e1 e2 (by omega) (by omega) r0 r1 k1 (by omega) (by omega)
    · have a1 : (n + d) % 1000000000 = n + r := by omega
      have a2 : (n + d) / 1000000000 = q := by omega
      rw [a1, a2]
      exact add_mid n s d q r hn0 hn1 hs0 hs1 h0 h1 e1 e2 (by omega) (by omega) r0 r1 (by omega) (by omega)

end Go.Proofs.Qxb6613167a
