import Derived.Test.Qxb6613167aW2
namespace Go.Proofs.Qxb6613167a
open Go.RowKit
set_option linter.unusedVariables false
set_option linter.unusedSimpArgs false

theorem Below.undrew {B : Nat} {w w1 : World} (h : Below B w.drew w1) : Below B w w1 := ⟨h.os, h.tape, h.output, h.size, h.block⟩

/-- The cells of the two times that Sub lays. -/
theorem sub_cells {w : World} {x : Nat} {n1 s1 : Int} (h1 : w.heap[x]? = some (.cells #[.int .u64 n1, .int .i64 s1, .pointer none] 27 (0, 0))) :
    w.cell? ⟨x, 0, none⟩ = some (.int .u64 n1) ∧ w.cell? ⟨x, 1, none⟩ = some (.int .i64 s1) ∧ w.cell? ⟨x, 2, none⟩ = some (.pointer none) :=
  ⟨cell_of_row w _ 0 _ _ _ h1, cell_of_row w _ 1 _ _ _ h1, cell_of_row w _ 2 _ _ _ h1⟩

set_option maxRecDepth 100000 in
set_option maxHeartbeats 1000000 in
theorem sub_any (n1 s1 n2 s2 D : Int) (hn0 : 0 ≤ n1) (hn1 : n1 ≤ 999999999) (hm0 : 0 ≤ n2) (hm1 : n2 ≤ 999999999) (hs0 : -1000000000000 ≤ s1) (hs1 : s1 ≤ 1000000000000) (ht0 : -1000000000000 ≤ s2) (ht1 : s2 ≤ 1000000000000)
    (hD : (s1 - s2) * 1000000000 + (n1 - n2) = D) (hD0 : -9223372034000000000 ≤ D) (hD1 : D ≤ 9223372034000000000) (w : World) :
    Calls Try.prog 19 #[.agg #[.int .u64 n1, .int .i64 s1, .pointer none], .agg #[.int .u64 n2, .int .i64 s2, .pointer none]] w fun e w' => e = .returned (.int .i64 D) ∧ Below w.heap.size w w' := by
  have f1 := and_mask n1 hn0 (by omega)
  have f2 := and_top n1 hn0 (by omega)
  have f3 := and_mask n2 hm0 (by omega)
  have f4 := and_top n2 hm0 (by omega)
  have f5 := and_two n1 n2 hn0 (by omega) hm0 (by omega)
  have hadd : ∀ w : World, Calls Try.prog 14 #[.agg #[.int .u64 n2, .int .i64 s2, .pointer none], .int .i64 D] w fun e w' => e = .returned (.agg #[.int .u64 n1, .int .i64 s1, .pointer none]) ∧ Below w.heap.size w w' := by
    have h := add_any n2 s2 D hm0 hm1 ht0 ht1 (by omega) (by omega)
    have a1 : (n2 + D) % 1000000000 = n1 := by omega
    have a2 : (n2 + D) / 1000000000 = s1 - s2 := by omega
    have a3 : s2 + (s1 - s2) = s1 := by omega
    unfold AddTo at h
    rw [a1, a2, a3] at h
    exact h
  have g1 : -9223372036854775808 ≤ (s1 - s2) * 1000000000 := by omega
  have g2 : (s1 - s2) * 1000000000 ≤ 9223372036854775807 := by omega
  obtain ⟨t1, t2, t3, t4⟩ := two_new w (.cells #[.int .u64 n1, .int .i64 s1, .pointer none] 27) (.cells #[.int .u64 n2, .int .i64 s2, .pointer none] 27)
  obtain ⟨W, hW⟩ : ∃ W, W = ((w.alloc (.cells #[.int .u64 n1, .int .i64 s1, .pointer none] 27)).alloc (.cells #[.int .u64 n2, .int .i64 s2, .pointer none] 27)) := ⟨_, rfl⟩
  rw [← hW] at t1 t2 t3 t4
  have HA := Hid.mk hadd
  have HB := Hid.mk t3
  have HC := Hid.mk t1
  have HD := Hid.mk t2
  have HW := Hid.mk hW
  clear hadd t1 t2 t3 t4 hW
  go_enter Try.func19, Try.ntmps19
  go_upto_region 5 with (first | (go_at_call 30; go_in) | (go_at_call 21; go_in))
  rw [← HW.out]
  obtain ⟨c0, c1, c2⟩ := sub_cells HC.out
  obtain ⟨d0, d1, d2⟩ := sub_cells HD.out
  go_cut [27] from 6 (fun s27 wc => s27 = .bool true ∧ Below W.heap.size W wc)
  case first =>
    go_region_with (first | (go_at_call 14; refine (HA.out _).mono ?_; rintro e w6 ⟨rfl, hb6⟩; have hb7 := Below.undrew hb6; have r0 := (hb7.cell (World.block_lt_of_cell? _ _ c0)).trans c0; have r1 := (hb7.cell (World.block_lt_of_cell? _ _ c1)).trans c1; have r2 := (hb7.cell (World.block_lt_of_cell? _ _ c2)).trans c2; clear hb6) | (go_at_call 31; refine (equal_same n1 s1 hn0 hn1 _).mono ?_; rintro e w8 ⟨rfl, hb9⟩))
    all_goals
      go_wp2_with fail
      go_meet
      case rel => exact ⟨rfl, hb7.trans (hb9.mono hb7.size)⟩
  case rest =>
    obtain ⟨rfl, hb⟩ := hcut
    clear c0 c1 c2 d0 d1 d2
    go_wp2
    go_ret
    exact ⟨rfl, HB.out.trans (hb.mono HB.out.size)⟩
end Go.Proofs.Qxb6613167a
