import Derived.Test.Qxb6614174aW3
namespace Go.Proofs.Qxb6614174a
open Go.RowKit
set_option linter.unusedVariables false
set_option linter.unusedSimpArgs false

set_option maxRecDepth 100000 in
set_option maxHeartbeats 1000000 in
theorem zzend_any (R r : Nat) (L : List (ByteArray × Ent)) (name : ByteArray) (f : Bool) (t : Int) (w : World) (hR : Rn w R r) (hM : Mp Ent.v w r L) :
    Calls Try.prog 7 #[.pointer (some ⟨R, 0, none⟩), .string name, .bool f, .agg #[.int .u64 (tW t), .int .i64 (tE t), .pointer none]] w fun e w' => e = .returned (.tuple #[]) ∧ Mp Ent.v w' r (upd L name (endE (look L name) f t)) ∧ But r w.heap.size w w' := by
  have hB : Below w.heap.size w (w.alloc (.cells #[.int .u64 (tW t), .int .i64 (tE t), .pointer none] 35)) := (Below.refl _ _).alloc (Nat.le_refl _) _
  have hend := end_any R r L name f t (w.alloc (.cells #[.int .u64 (tW t), .int .i64 (tE t), .pointer none] 35)) ((hB.cell (World.block_lt_of_cell? _ _ hR)).trans hR) (hM.kept hB)
  have HE := Hid.mk hend
  clear hend
  go_enter Try.func7, Try.ntmps7
  go_wp2_with fail
  refine HE.out.mono ?_
  rintro e w1 ⟨rfl, hM1, hB1⟩
  have hB2 : But r w.heap.size w w1 := ⟨hB1.os.trans hB.os, hB1.tape.trans hB.tape, hB1.output.trans hB.output, Nat.le_trans hB.size hB1.size, fun k hk hn => (hB1.block k (by simp; omega) hn).trans (hB.block k hk)⟩
  clear hB1 hB HE
  go_wp2
  go_end0
  exact ⟨rfl, hM1, hB2⟩

/-- The events that a task's state leads to. -/
structure EvR (w : World) (a : Option Addr) (n c g : Nat) (ev : Nat → Int) : Prop where
  ix : ∀ (i : Nat) (w' : World), i < n → (Instr.indexAt 39 (.slice a n c) (.int .i64 (i : Int))).run Try.prog w' = .ok (.pointer (some ⟨g, i * 5, none⟩)) w'
  c0 : ∀ i, i < n → w.cell? ⟨g, i * 5, none⟩ = some (.string startedB) ∧ w.cell? ⟨g, i * 5 + 1, none⟩ = some (.int .i64 (ev i)) ∧ w.cell? ⟨g, i * 5 + 2, none⟩ = some (.string ⟨#[]⟩) ∧ w.cell? ⟨g, i * 5 + 3, none⟩ = some (.int .i64 0) ∧ w.cell? ⟨g, i * 5 + 4, none⟩ = some (.int .i64 0)

theorem EvR.none (w : World) (ev : Nat → Int) (c : Nat) : EvR w none 0 c 0 ev := ⟨fun i w' h => by omega, fun i h => by omega⟩
theorem EvR.of {w : World} {g n c : Nat} {ev : Nat → Int} (h : EvA w g n n ev) : EvR w (some ⟨g, 0, Option.none⟩) n c g ev := by
  refine ⟨fun i w' hi => ?_, fun i hi => ?_⟩
  · rw [run_indexAt_slice w' 39 _ _ _ _ _ (by kernel_rfl), if_pos (by omega)]
    have hs : (sizeOf (Try.prog.elem 39)).run Try.prog w' = .ok 5 w' := by kernel_rfl
    rw [hs]
    simp [Result.andThen, Addr.add_lit]
  · obtain ⟨cur, h1, h2, h3⟩ := h
    obtain ⟨a1, a2, a3, a4, a5⟩ := h3 i hi
    exact ⟨by rw [cell_of_row w g _ cur 46 _ h1]; exact a1, by rw [cell_of_row w g _ cur 46 _ h1]; exact a2, by rw [cell_of_row w g _ cur 46 _ h1]; exact a3, by rw [cell_of_row w g _ cur 46 _ h1]; exact a4, by rw [cell_of_row w g _ cur 46 _ h1]; exact a5⟩

theorem nil_eq_at (d : Nat) (w : World) : (Op.equalIn (d + 1) 33 (.pointer none) (.pointer none)).run Try.prog w = .ok true w := by
  simp [Op.equalIn, run_underlying Try.underlying33]
theorem nil_eq (w : World) : (Op.equalIn 9999 33 (.pointer none) (.pointer none)).run Try.prog w = .ok true w := nil_eq_at 9998 w

set_option maxRecDepth 100000 in
set_option maxHeartbeats 1000000 in
theorem same_any (st : ByteArray) (f : Bool) (s t : Int) (ax ay : Option Addr) (n cx cy gx gy : Nat) (ev : Nat → Int) (w : World) (hn : n ≤ 1048576) (hx : EvR w ax n cx gx ev) (hy : EvR w ay n cy gy ev) :
    Calls Try.prog 10 #[.agg #[.string st, .bool f, .int .u64 (tW s), .int .i64 (tE s), .pointer none, .int .u64 (tW t), .int .i64 (tE t), .pointer none, .slice ax n cx],
        .agg #[.string st, .bool f, .int .u64 (tW s), .int .i64 (tE s), .pointer none, .int .u64 (tW t), .int .i64 (tE t), .pointer none, .slice ay n cy]] w
      fun e w' => e = .returned (.bool true) ∧ Below w.heap.size w w' := by
  have x0 := hx.ix
  have y0 := hy.ix
  have hne := nil_eq
  obtain ⟨t1, t2, t3, t4⟩ := two_new w (.cells #[.string st, .bool f, .int .u64 (tW s), .int .i64 (tE s), .pointer none, .int .u64 (tW t), .int .i64 (tE t), .pointer none, .slice ax n cx] 41) (.cells #[.string st, .bool f, .int .u64 (tW s), .int .i64 (tE s), .pointer none, .int .u64 (tW t), .int .i64 (tE t), .pointer none, .slice ay n cy] 41)
  obtain ⟨W, hW⟩ : ∃ W, W = ((w.alloc (.cells #[.string st, .bool f, .int .u64 (tW s), .int .i64 (tE s), .pointer none, .int .u64 (tW t), .int .i64 (tE t), .pointer none, .slice ax n cx] 41)).alloc (.cells #[.string st, .bool f, .int .u64 (tW s), .int .i64 (tE s), .pointer none, .int .u64 (tW t), .int .i64 (tE t), .pointer none, .slice ay n cy] 41)) := ⟨_, rfl⟩
  rw [← hW] at t1 t2 t3 t4
  have k1 : W.cell? ⟨w.heap.size, 8, none⟩ = some (.slice ax n cx) := cell_of_row _ _ 8 _ _ _ t1
  have k2 : W.cell? ⟨w.heap.size + 1, 8, none⟩ = some (.slice ay n cy) := cell_of_row _ _ 8 _ _ _ t2
  have hk1 := Hid.mk k1
  have hk2 := Hid.mk k2
  have HB := Hid.mk t3
  have H4 := Hid.mk t4
  clear t1 t2 t3 t4 k1 k2
  go_enter Try.func10, Try.ntmps10
  go_wp2_with fail
  rw [← hW]
  clear hW
  go_loopw [5] (fun i wr => ∃ k : Nat, k ≤ n ∧ i = .int .i64 k ∧ Below (w.heap.size + 2) W wr) (fun i _ => n - (intOf i).toNat)
  case atStart => exact ⟨0, Nat.zero_le _, rfl, Below.refl _ _⟩
  case round =>
    obtain ⟨k, hk, rfl, hB⟩ := hrel
    have k1 := (hB.cell (p := ⟨w.heap.size, 8, none⟩) (by show w.heap.size < _; omega)).trans hk1.out
    have k2 := (hB.cell (p := ⟨w.heap.size + 1, 8, none⟩) (by show w.heap.size + 1 < _; omega)).trans hk2.out
    by_cases hlt : k < n
    · have hBx : Below w.heap.size w wr := HB.out.trans (hB.mono (by omega))
      obtain ⟨a1, a2, a3, a4, a5⟩ := hx.c0 k hlt
      obtain ⟨b1, b2, b3, b4, b5⟩ := hy.c0 k hlt
      replace a1 := (hBx.cell (World.block_lt_of_cell? _ _ a1)).trans a1
      replace a2 := (hBx.cell (World.block_lt_of_cell? _ _ a2)).trans a2
      replace a3 := (hBx.cell (World.block_lt_of_cell? _ _ a3)).trans a3
      replace a4 := (hBx.cell (World.block_lt_of_cell? _ _ a4)).trans a4
      replace a5 := (hBx.cell (World.block_lt_of_cell? _ _ a5)).trans a5
      replace b1 := (hBx.cell (World.block_lt_of_cell? _ _ b1)).trans b1
      replace b2 := (hBx.cell (World.block_lt_of_cell? _ _ b2)).trans b2
      replace b3 := (hBx.cell (World.block_lt_of_cell? _ _ b3)).trans b3
      replace b4 := (hBx.cell (World.block_lt_of_cell? _ _ b4)).trans b4
      replace b5 := (hBx.cell (World.block_lt_of_cell? _ _ b5)).trans b5
      have g1 : gy < wr.heap.size := World.block_lt_of_cell? _ _ b1
      have g2 : w.heap.size + 1 < wr.heap.size := World.block_lt_of_cell? _ _ k2
      have hs2 : w.heap.size + 2 ≤ wr.heap.size := by omega
      clear hx hy hBx
      go_wp2
      go_roundw
      case rel => exact ⟨k + 1, by omega, by go_num, (hB.alloc (by omega) _).alloc (by simp; omega) _⟩
      case measure => simp [intOf]; omega
    · go_wp2
      go_ret
      exact ⟨rfl, HB.out.trans (hB.mono (by omega))⟩

end Go.Proofs.Qxb6614174a
