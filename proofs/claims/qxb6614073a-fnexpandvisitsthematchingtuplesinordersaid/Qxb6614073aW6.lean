import Derived.Test.Qxb6614073aCp
namespace Go.Proofs.Qxb6614073a
open Go.RowKit
set_option linter.unusedVariables false
set_option linter.unusedSimpArgs false

/-! zzSubDigits -/
theorem VG.setCell1 {OUT D BB : Nat} {a b : World} (h : VG OUT D BB a b) (i : Nat) (u : Value) : VG OUT D BB a (b.setCell ⟨OUT, i, none⟩ u) :=
  h.trans ⟨rfl, rfl, rfl, by simp, fun k _ hd _ => heap_setCell_other b _ k u hd⟩

set_option maxRecDepth 100000 in
set_option maxHeartbeats 1000000 in
theorem subDigits_any (a0 a2 : Option Addr) (b0 b2 n m c0 c2 : Nat) (r A : Nat → Nat) (w : World) (sub : Nat) (g : Good n r m A) (k0 : At a0 b0 n) (k2 : At a2 b2 m) (hsub : sub ≤ 1000000)
    (hr : ∀ i, i < n → w.cell? ⟨b0, i, none⟩ = some (.int .u64 (r i))) (ha : ∀ i, i < m → w.cell? ⟨b2, i, none⟩ = some (.int .i64 (A i))) :
    Calls Try.prog 9 #[.slice a0 n c0, .slice a2 m c2, .int .u64 sub] w fun e w' => ∃ gw gf, e = .returned (.tuple #[.slice (some ⟨gw, 0, none⟩) n n, .slice (some ⟨gf, 0, none⟩) n n]) ∧
      Arr w' gw 24 n (fun a => .int .u64 (wantF r A sub m a : Nat)) ∧ Arr w' gf 4 n (fun a => .bool (fixF A m a)) ∧ Below w.heap.size w w' := by
  have hn := g.n4
  have hm := g.m4
  obtain ⟨i24, hi24, hz20, hz21, hz22⟩ := info_parts info24
  obtain ⟨i4, hi4, hz40, hz41, hz42⟩ := info_parts info4
  have x0 := ix22 k0 c0
  have x2 := ix23 k2 c2
  go_enter Try.func9, Try.ntmps9
  go_wp2_with (first | (at_make; refine wpList_make_full _ rfl _ _ 22 rfl w.heap.size 24 i24 (.int .u64 0) 1 Try.underlying22 hi24 hz20 hz21 _ _ _ _ n rfl rfl (by omega) (by omega) (by rw [hz22]; omega) (by unfold maxLen; omega) (Nat.le_refl _) ?_))
  intro w1 hown hgrow
  have hW1 := made_arr hown
  have hB1 := below_none hgrow
  clear hown hgrow
  obtain ⟨gw, hgw⟩ : ∃ gw, gw = w.heap.size := ⟨_, rfl⟩
  rw [← hgw] at hW1 hB1 ⊢
  have HGW := hide hgw
  clear hgw
  go_wp2_with (first | (at_make; refine wpList_make_full _ rfl _ _ 30 rfl w1.heap.size 4 i4 (.bool false) 1 Try.underlying30 hi4 hz40 hz41 _ _ _ _ n rfl rfl (by omega) (by omega) (by rw [hz42]; omega) (by unfold maxLen; omega) (Nat.le_refl _) ?_))
  intro w2 hown hgrow
  have hF2 := made_arr hown
  have hB2 := below_none hgrow
  clear hown hgrow
  obtain ⟨gf, hgf⟩ : ∃ gf, gf = w1.heap.size := ⟨_, rfl⟩
  rw [← hgf] at hF2 hB2 ⊢
  have hwf : gw < gf := by rw [hgf]; exact hW1.lt
  have hW2 := hW1.below hB2 hwf
  have hB : Below gw w w2 := hB1.trans (hB2.mono (by omega))
  have HGF := hide hgf
  clear hgf hB1 hB2 hW1
  go_wp2_with fail
  go_loopw [10, 11] (fun s10 s11 wr => ∃ j : Nat, j ≤ m ∧ s11 = .int .i64 j ∧ s10 = .int .u64 (sq r A sub j : Nat) ∧ Arr wr gw 24 n (fun a => .int .u64 (wantF r A sub j a : Nat)) ∧ Arr wr gf 4 n (fun a => .bool (fixF A j a)) ∧ VG gw gf (gf + 1) w2 wr) (fun _ s11 _ => m - (intOf s11).toNat)
  case atStart => exact ⟨0, Nat.zero_le _, rfl, by rw [sq_zero], hW2, hF2, VG.refl _ _ _ _⟩
  case round =>
    obtain ⟨j, hj, rfl, rfl, hWj, hFj, hVj⟩ := hrel
    by_cases hlt : j < m
    · have hA := g.an j hlt
      have f2 : b2 < gw := by rw [HGW.out]; exact World.block_lt_of_cell? _ _ (ha j hlt)
      have f0 : b0 < gw := by rw [HGW.out]; exact World.block_lt_of_cell? _ _ (hr (A j) hA)
      have e2 := hVj.cell (by omega) (by omega) (by omega) ((hB.cell (p := ⟨b2, j, none⟩) f2).trans (ha j hlt))
      have e0 := hVj.cell (by omega) (by omega) (by omega) ((hB.cell (p := ⟨b0, A j, none⟩) f0).trans (hr (A j) hA))
      have e1 : ∀ u, (wr.setCell ⟨gw, A j, none⟩ u).cell? ⟨b0, A j, none⟩ = some (.int .u64 (r (A j))) := fun u => (World.cell?_setCell_other _ _ _ _ (by intro e; injection e with e; omega)).trans e0
      have e3 := hWj.cell hA
      have e4 := hWj.free (A j)
      have hW' := hWj.setCell (A j) (.int .u64 (sdig r A sub j : Nat))
      have hF' := hFj.setCell_other (a := ⟨gw, A j, none⟩) (by show gf ≠ gw; omega) (.int .u64 (sdig r A sub j : Nat))
      have e5 := hF'.cell hA
      have e6 := hF'.free (A j)
      have hW'' := hW'.setCell_other (a := ⟨gf, A j, none⟩) (by show gw ≠ gf; omega) (.bool true)
      have hF'' := hF'.setCell (A j) (.bool true)
      have hV'' := (hVj.setCell1 (A j) (.int .u64 (sdig r A sub j : Nat))).setCell (A j) (.bool true)
      have HR : Hid (Arr ((wr.setCell ⟨gw, A j, none⟩ (.int .u64 (sdig r A sub j : Nat))).setCell ⟨gf, A j, none⟩ (.bool true)) gw 24 n (fun a => .int .u64 (wantF r A sub (j + 1) a : Nat)) ∧
          Arr ((wr.setCell ⟨gw, A j, none⟩ (.int .u64 (sdig r A sub j : Nat))).setCell ⟨gf, A j, none⟩ (.bool true)) gf 4 n (fun a => .bool (fixF A (j + 1) a)) ∧
          VG gw gf (gf + 1) w2 ((wr.setCell ⟨gw, A j, none⟩ (.int .u64 (sdig r A sub j : Nat))).setCell ⟨gf, A j, none⟩ (.bool true))) := by
        refine ⟨hW''.congr (fun a _ => ?_), hF''.congr (fun a _ => ?_), hV''⟩
        · simp only [wantF]; split <;> rfl
        · simp only [fixF]; split <;> rfl
      have p2 := g.r1 (A j) hA
      have p4 := g.r2 (A j) hA
      have d0 := sq_mod r A sub j
      have d1 := sq_div r A sub j
      have d2 := sq_le r A sub j
      have d2' := sq_le r A sub (j + 1)
      clear hW' hF' hW'' hF'' hV'' hWj hFj hVj hr ha
      go_wp2
      go_roundw
      case rel => exact ⟨j + 1, by omega, by go_num, rfl, HR.out.1, HR.out.2.1, HR.out.2.2⟩
      case measure => simp [intOf]; omega
    · obtain rfl : m = j := by omega
      have hBf : Below w.heap.size w wr := by
        rw [← HGW.out]
        exact hB.trans ⟨hVj.os, hVj.tape, hVj.output, hVj.size, fun b hb => hVj.block b (by omega) (by omega) (by omega)⟩
      go_wp2
      go_ret2
      exact ⟨_, _, rfl, hWj, hFj, hBf⟩

/-! zzMatches -/
set_option maxRecDepth 100000 in
set_option maxHeartbeats 1000000 in
theorem matches_any (a0 : Option Addr) (b0 gf gw n m c0 cf cw : Nat) (r A : Nat → Nat) (fx : Nat → Bool) (wd : Nat → Nat) (w : World) (t : Nat) (g : Good n r m A) (k0 : At a0 b0 n) (ht : t ≤ 1000000)
    (hr : ∀ i, i < n → w.cell? ⟨b0, i, none⟩ = some (.int .u64 (r i))) (hf : Arr w gf 4 n (fun a => .bool (fx a))) (hw : Arr w gw 24 n (fun a => .int .u64 (wd a : Nat))) :
    Calls Try.prog 10 #[.slice a0 n c0, .slice (some ⟨gf, 0, none⟩) n cf, .slice (some ⟨gw, 0, none⟩) n cw, .int .u64 t] w fun e w' => e = .returned (.bool (mt r fx wd t n)) ∧ w' = w := by
  have hn := g.n4
  have x0 := ix22 k0 c0
  go_enter Try.func10, Try.ntmps10
  go_wp2_with fail
  go_loop [9, 10] (fun x i => ∃ k : Nat, k ≤ n ∧ i = .int .i64 k ∧ x = .int .u64 (tq r t k : Nat) ∧ mt r fx wd t k = true) (fun _ i => n - (intOf i).toNat)
  case atStart => exact ⟨0, Nat.zero_le _, rfl, by rw [tq_zero], rfl⟩
  case round =>
    obtain ⟨k, hk, rfl, rfl, hmt⟩ := hrel
    by_cases hlt : k < n
    · have e0 := hr k hlt
      have e1 := hf.cell hlt
      have e2 := hw.cell hlt
      have p2 := g.r1 k hlt
      have p4 := g.r2 k hlt
      have d0 := tq_mod r t k
      have d1 := tq_div r t k
      have d2 := tq_le r t k
      have d2' := tq_le r t (k + 1)
      have hdl : dg r t k ≤ 65536 := Nat.le_of_lt (Nat.lt_of_lt_of_le (Nat.mod_lt _ p2) p4)
      cases hfk : fx k with
      | false =>
        rw [hfk] at e1
        have hnx : mt r fx wd t (k + 1) = true := by simp [mt, hmt, hfk]
        have HN := hide hnx
        clear hnx hmt hfk
        go_wp2
        go_round
        case rel => exact ⟨k + 1, by omega, by go_num, rfl, HN.out⟩
        case measure => simp [intOf]; omega
      | true =>
        rw [hfk] at e1
        by_cases hd : dg r t k = wd k
        · have hnx : mt r fx wd t (k + 1) = true := by simp [mt, hmt, hd]
          have hdb : ((dg r t k : Int) != (wd k : Int)) = false := by simp [hd]
          have HN := hide hnx
          clear hnx hmt hfk hd
          go_wp2
          go_round
          case rel => exact ⟨k + 1, by omega, by go_num, rfl, HN.out⟩
          case measure => simp [intOf]; omega
        · have hnx : mt r fx wd t n = false := mt_false hlt hfk hd
          have hdb : ((dg r t k : Int) != (wd k : Int)) = true := by simp; omega
          have HN := hide hnx
          clear hnx hmt hfk hd
          go_wp2
          go_ret
          exact ⟨by rw [HN.out]; rfl, rfl⟩
    · obtain rfl : n = k := by omega
      have HN := hide hmt
      clear hmt
      go_wp2
      go_ret
      exact ⟨by rw [HN.out]; rfl, rfl⟩

/-! zzEqualU64: two rows that hold the same -/
set_option maxRecDepth 100000 in
set_option maxHeartbeats 1000000 in
theorem equal_any (a0 a1 : Option Addr) (b0 b1 n0 n1 c0 c1 : Nat) (f : Nat → Nat) (w : World) (hn : n0 ≤ 70000) (hnn : Hid (n0 = n1)) (k0 : At a0 b0 n0) (k1 : At a1 b1 n1)
    (h0 : ∀ i, i < n0 → w.cell? ⟨b0, i, none⟩ = some (.int .u64 (f i))) (h1 : ∀ i, i < n1 → w.cell? ⟨b1, i, none⟩ = some (.int .u64 (f i))) :
    Calls Try.prog 12 #[.slice a0 n0 c0, .slice a1 n1 c1] w fun e w' => e = .returned (.bool true) ∧ Dr w w' := by
  have hne : ((n0 : Int) != (n1 : Int)) = false := by rw [hnn.out]; simp
  have x0 := ix22 k0 c0
  have x1 := ix22 k1 c1
  go_enter Try.func12, Try.ntmps12
  go_wp2_with fail
  go_loopw [5] (fun i wr => ∃ k : Nat, k ≤ n0 ∧ i = .int .i64 k ∧ Dr w wr) (fun i _ => n0 - (intOf i).toNat)
  case atStart => exact ⟨0, Nat.zero_le _, rfl, Dr.refl _⟩
  case round =>
    obtain ⟨k, hk, rfl, hD⟩ := hrel
    by_cases hlt : k < n0
    · have hlt1 : k < n1 := by have := hnn.out; omega
      have e0 := hD.cell (h0 k hlt)
      have e1 := hD.cell (h1 k hlt1)
      have hee : ((f k : Int) != (f k : Int)) = false := by simp
      clear h0 h1
      go_wp2
      go_quiet (fail)
      go_wp2
      go_roundw
      case rel => exact ⟨k + 1, by omega, by go_num, hD.drewN _⟩
      case measure => simp [intOf]; omega
    · go_wp2
      go_ret
      exact ⟨rfl, hD⟩

end Go.Proofs.Qxb6614073a
