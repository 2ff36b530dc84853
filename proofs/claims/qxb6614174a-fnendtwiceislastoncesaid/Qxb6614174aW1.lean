import Derived.Test.Qxb6614174aRows
import Derived.Test.Qxb6614174aBits
import Derived.WalkKit
import Derived.WalkSpells
import Derived.WalkLawsBesides
namespace Go.Proofs.Qxb6614174a
open Go.RowKit
set_option linter.unusedVariables false
set_option linter.unusedSimpArgs false

/-- The time d nanoseconds after the zero time: its nanoseconds and its seconds. -/
def tW (d : Int) : Int := d % 1000000000
def tE (d : Int) : Int := d / 1000000000

set_option maxRecDepth 100000 in
set_option maxHeartbeats 1000000 in
theorem addSec_any (T : Nat) (x d : Int) (w : World) (h0 : -9223372036854775808 ≤ d) (h1 : d ≤ 9223372036854775807) (hx0 : 0 ≤ x) (hx1 : x ≤ 1073741823)
    (hc0 : w.cell? ⟨T, 0, none⟩ = some (.int .u64 x)) (hc1 : w.cell? ⟨T, 1, none⟩ = some (.int .i64 0)) (hf : w.frozen? ⟨T, 1, none⟩ = false) :
    Calls Try.prog 15 #[.pointer (some ⟨T, 0, none⟩), .int .i64 d] w fun e w' => e = .returned (.tuple #[]) ∧ w' = w.setCell ⟨T, 1, none⟩ (.int .i64 d) := by
  have f4 := and_top x hx0 hx1
  by_cases hd : 0 < d
  all_goals
    go_enter Try.func15, Try.ntmps15
    go_wp2
    go_end0
    exact ⟨rfl, rfl⟩

theorem Hid.mk {p : Prop} (h : p) : Hid p := h

theorem tdiv_neg (d : Int) (h : d < 0) : d.tdiv 1000000000 = -((-d) / 1000000000) := by
  have e : d = -(-d) := by omega
  rw [e, Int.neg_tdiv, Int.tdiv_eq_ediv_of_nonneg (by omega)]
  simp
theorem tmod_neg (d : Int) (h : d < 0) : d.tmod 1000000000 = -((-d) % 1000000000) := by
  have e : d = -(-d) := by omega
  rw [e, Int.neg_tmod, Int.tmod_eq_emod_of_nonneg (by omega)]
  simp

/-- The two blocks that Add lays. -/
theorem two_new (w : World) (o1 o2 : Obj) : ((w.alloc o1).alloc o2).heap[w.heap.size]? = some o1 ∧ ((w.alloc o1).alloc o2).heap[w.heap.size + 1]? = some o2 ∧ Below w.heap.size w ((w.alloc o1).alloc o2) ∧ ((w.alloc o1).alloc o2).heap.size = w.heap.size + 2 := by
  refine ⟨?_, ?_, ((Below.refl _ _).alloc (Nat.le_refl _) _).alloc (by simp) _, by simp⟩
  · rw [Below.heap_alloc _ _ _ (by simp)]
    exact Go.heap_alloc_new w o1
  · have h := Go.heap_alloc_new (w.alloc o1) o2
    simpa using h

theorem add_after {w W w1 : World} {a x : Int} (hB : Below w.heap.size w W) (h1 : W.heap[w.heap.size]? = some (.cells #[.int .u64 a, .int .i64 0, .pointer none] 35 (0, 0))) (h2 : W.heap[w.heap.size + 1]? = some (.cells #[.int .u64 0, .int .i64 0, .pointer none] 35 (0, 0)))
    (hw : w1 = W.setCell ⟨w.heap.size, 1, none⟩ (.int .i64 x)) :
    w1.cell? ⟨w.heap.size, 0, none⟩ = some (.int .u64 a) ∧ w1.cell? ⟨w.heap.size, 1, none⟩ = some (.int .i64 x) ∧ w1.cell? ⟨w.heap.size, 2, none⟩ = some (.pointer none) ∧
    w1.cell? ⟨w.heap.size + 1, 0, none⟩ = some (.int .u64 0) ∧ w1.cell? ⟨w.heap.size + 1, 1, none⟩ = some (.int .i64 0) ∧ w1.cell? ⟨w.heap.size + 1, 2, none⟩ = some (.pointer none) ∧
    w1.frozen? ⟨w.heap.size + 1, 0, none⟩ = false ∧ w1.frozen? ⟨w.heap.size + 1, 1, none⟩ = false ∧ w1.frozen? ⟨w.heap.size + 1, 2, none⟩ = false ∧ Below w.heap.size w w1 := by
  have e1 := heap_setCell_same W w.heap.size 1 _ 35 (.int .i64 x) h1
  have e2 := (heap_setCell_other W ⟨w.heap.size, 1, none⟩ (w.heap.size + 1) (.int .i64 x) (by show w.heap.size + 1 ≠ w.heap.size; omega)).trans h2
  rw [← hw] at e1 e2
  exact ⟨cell_of_row w1 _ 0 _ _ _ e1, cell_of_row w1 _ 1 _ _ _ e1, cell_of_row w1 _ 2 _ _ _ e1, cell_of_row w1 _ 0 _ _ _ e2, cell_of_row w1 _ 1 _ _ _ e2, cell_of_row w1 _ 2 _ _ _ e2,
    frozen_of_row w1 _ 0 _ _ e2, frozen_of_row w1 _ 1 _ _ e2, frozen_of_row w1 _ 2 _ _ e2, by rw [hw]; exact hB.setCell (Nat.le_refl _) _⟩

set_option maxRecDepth 100000 in
set_option maxHeartbeats 1000000 in
theorem add_zero (d : Int) (w : World) (h0 : -9223372036854775808 ≤ d) (h1 : d ≤ 9223372036854775807) :
    Calls Try.prog 12 #[.agg #[.int .u64 0, .int .i64 0, .pointer none], .int .i64 d] w fun e w' => e = .returned (.agg #[.int .u64 (tW d), .int .i64 (tE d), .pointer none]) ∧ Below w.heap.size w w' := by
  have f1 := and_zero
  have f2 := andNot_zero
  obtain ⟨t1, t2, t3, t4⟩ := two_new w (.cells #[.int .u64 (d % 1000000000), .int .i64 0, .pointer none] 35) (.cells #[.int .u64 0, .int .i64 0, .pointer none] 35)
  have g1 : 0 ≤ d % 1000000000 := by omega
  have g2 : d % 1000000000 ≤ 999999999 := by omega
  have g3 : -9223372037 ≤ d / 1000000000 := by omega
  have g4 : d / 1000000000 ≤ 9223372036 := by omega
  have f3 := or_zero (d % 1000000000) (by omega) (by omega)
  have f4 := and_top (d % 1000000000) (by omega) (by omega)
  have hadd := addSec_any w.heap.size (d % 1000000000) (d / 1000000000) _ (by omega) (by omega) g1 (by omega) (cell_of_row _ _ 0 _ _ _ t1) (cell_of_row _ _ 1 _ _ _ t1) (frozen_of_row _ _ 1 _ _ t1)
  have c0 := cell_of_row _ _ 0 _ _ _ t1
  have c1 := cell_of_row _ _ 1 _ _ _ t1
  have HA := Hid.mk hadd
  have HB := Hid.mk t3
  have HC := Hid.mk t1
  have HD := Hid.mk t2
  clear hadd c0 c1 t1 t2 t3 t4
  have c : 0 ≤ d ∨ (d < 0 ∧ d % 1000000000 = 0) ∨ (d < 0 ∧ 0 < d % 1000000000) := by omega
  rcases c with hd | ⟨hd, hm⟩ | ⟨hd, hm⟩
  · go_enter Try.func12, Try.ntmps12
    go_wp2_with (first | (go_at_call 14; go_in))
    refine HA.out.mono ?_
    rintro e w1 ⟨rfl, hw1⟩
    obtain ⟨k0, k1, k2, k3, k4, k5, q3, q4, q5, kB⟩ := add_after HB.out HC.out HD.out hw1
    clear hw1 HA HB HC HD
    go_wp2
    refine bodyPost_ret (v := .agg #[.int .u64 (d % 1000000000), .int .i64 (d / 1000000000), .pointer none]) (by simp [results, Try.results12, go_sem, k3, k4, k5]) rfl ⟨rfl, ?_⟩
    repeat (first | exact kB | refine Below.setCell ?_ (by simp) _)
  · have e1 : d.tdiv 1000000000 = d / 1000000000 := by rw [tdiv_neg d hd]; omega
    have e2 : d.tmod 1000000000 = 0 := by rw [tmod_neg d hd]; omega
    have HM := Hid.mk hm
    rw [hm] at HA HB HC HD f3 f4
    clear hm
    go_enter Try.func12, Try.ntmps12
    go_wp2_with (first | (go_at_call 14; go_in))
    refine HA.out.mono ?_
    rintro e w1 ⟨rfl, hw1⟩
    obtain ⟨k0, k1, k2, k3, k4, k5, q3, q4, q5, kB⟩ := add_after HB.out HC.out HD.out hw1
    clear hw1 HA HB HC HD
    go_wp2
    refine bodyPost_ret (v := .agg #[.int .u64 0, .int .i64 (d / 1000000000), .pointer none]) (by simp [results, Try.results12, go_sem, k3, k4, k5]) rfl ⟨by unfold tW; rw [HM.out]; rfl, ?_⟩
    repeat (first | exact kB | refine Below.setCell ?_ (by simp) _)
  · have e1 : d.tdiv 1000000000 = d / 1000000000 + 1 := by rw [tdiv_neg d hd]; omega
    have e2 : d.tmod 1000000000 = d % 1000000000 - 1000000000 := by rw [tmod_neg d hd]; omega
    go_enter Try.func12, Try.ntmps12
    go_wp2_with (first | (go_at_call 14; go_in))
    refine HA.out.mono ?_
    rintro e w1 ⟨rfl, hw1⟩
    obtain ⟨k0, k1, k2, k3, k4, k5, q3, q4, q5, kB⟩ := add_after HB.out HC.out HD.out hw1
    clear hw1 HA HB HC HD
    go_wp2
    refine bodyPost_ret (v := .agg #[.int .u64 (d % 1000000000), .int .i64 (d / 1000000000), .pointer none]) (by simp [results, Try.results12, go_sem, k3, k4, k5]) rfl ⟨rfl, ?_⟩
    repeat (first | exact kB | refine Below.setCell ?_ (by simp) _)

/-- The time value. -/
def tv (d : Int) : Value := .agg #[.int .u64 (tW d), .int .i64 (tE d), .pointer none]

set_option maxRecDepth 100000 in
set_option maxHeartbeats 1000000 in
theorem timeAt_any (d : Int) (w : World) (h0 : -9223372036854775808 ≤ d) (h1 : d ≤ 9223372036854775807) :
    Calls Try.prog 8 #[.int .i64 d] w fun e w' => e = .returned (.agg #[.int .u64 (tW d), .int .i64 (tE d), .pointer none]) ∧ Below w.heap.size w w' := by
  have hn := Go.heap_alloc_new w (.cells #[.int .u64 0, .int .i64 0, .pointer none] 35)
  have hadd := add_zero d (w.alloc (.cells #[.int .u64 0, .int .i64 0, .pointer none] 35)) h0 h1
  have HA := Hid.mk hadd
  have HN := Hid.mk hn
  clear hadd hn
  go_enter Try.func8, Try.ntmps8
  go_wp2_with fail
  refine HA.out.mono ?_
  rintro e w1 ⟨rfl, hb⟩
  have e1 := (hb.block w.heap.size (by simp)).trans HN.out
  have k0 := cell_of_row w1 _ 0 _ _ _ e1
  have k1 := cell_of_row w1 _ 1 _ _ _ e1
  have k2 := cell_of_row w1 _ 2 _ _ _ e1
  have q0 := frozen_of_row w1 _ 0 _ _ e1
  have q1 := frozen_of_row w1 _ 1 _ _ e1
  have q2 := frozen_of_row w1 _ 2 _ _ e1
  have kB : Below w.heap.size w w1 := ((Below.refl _ _).alloc (Nat.le_refl _) _).trans (hb.mono (by simp))
  simp only [List.getElem?_toArray, List.getElem?_cons_zero, List.getElem?_cons_succ] at k0 k1 k2
  clear HA HN hb e1
  go_wp2
  refine bodyPost_ret (v := .agg #[.int .u64 (tW d), .int .i64 (tE d), .pointer none]) (by simp [results, Try.results8, go_sem, k0, k1, k2]) rfl ⟨rfl, ?_⟩
  repeat (first | exact kB | refine Below.setCell ?_ (by simp) _)

end Go.Proofs.Qxb6614174a
