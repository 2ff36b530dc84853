import Derived.Test.Qxb6614174aPB
namespace Go.Proofs.Qxb6614174a
open Go.RowKit
set_option linter.unusedVariables false
set_option linter.unusedSimpArgs false

/-- The runner's own block is no map. -/
theorem rn_but {w w' : World} {R r r' : Nat} {L : List (ByteArray × Ent)} (h : Rn w R r) (hm : Mp Ent.v w r' L) (hb : But r' w.heap.size w w') : Rn w' R r := by
  have hne : R ≠ r' := by
    rintro rfl
    obtain ⟨es, c, h1, _⟩ := hm
    simp [Rn, World.cell?, h1] at h
  exact (World.cell?_of_block (a := ⟨R, 43, none⟩) (hb.block R (World.block_lt_of_cell? _ _ h) hne)).trans h

def BoolP (n : Nat) (nm : Nat → ByteArray) (w : World) (e : Ending) (w' : World) : Prop := w' = w ∧ ∃ b, e = .returned (.bool b) ∧ (b = true → ∀ i, i < n → (nm i).size ≤ 1048576)
def Small (k : Nat) (nm : Nat → ByteArray) : Prop := ∀ i, i < k → (nm i).size ≤ 1048576
theorem small_succ {k : Nat} {nm : Nat → ByteArray} (h : Small k nm) (h1 : ¬ 1048576 < (nm k).size) : Small (k + 1) nm := fun i hi => by
  by_cases e : i = k
  · subst e; omega
  · exact h i (by omega)
theorem boolP_no {n : Nat} {nm : Nat → ByteArray} {w : World} : BoolP n nm w (.returned (.bool false)) w := ⟨rfl, false, rfl, fun h => by cases h⟩

set_option maxRecDepth 100000 in
set_option maxHeartbeats 1000000 in
theorem bytes4 (a0 a1 : Option Addr) (n m c0 c1 b0 : Nat) (pa : Nat → Nat) (nm : Nat → ByteArray) (fl : Nat → Bool) (ns : Nat → Int) (name : ByteArray) (f1 f2 : Bool) (t1 t2 : Int) (w : World) (hn : n ≤ maxLen) (hm : m ≤ maxLen) (hna : name.size ≤ maxLen)
    (hp : Pri w a0 n c0 b0 pa nm fl ns) (hsz : ∀ i, i < n → (nm i).size ≤ maxLen) :
    Calls Try.prog 4 #[.slice a0 n c0, .slice a1 m c1, .string name, .bool f1, .int .i64 t1, .bool f2, .int .i64 t2] w (BoolP n nm w) := by
  unfold maxLen at hn hm hna hsz
  have x0 := hp.ix
  by_cases h1 : 1048576 < n
  · go_enter Try.func4, Try.ntmps4
    go_wp2
    go_ret
    exact boolP_no
  go_enter Try.func4, Try.ntmps4
  go_wp2_with fail
  go_loop [15, 16] (fun z i => ∃ (k : Nat) (q : Int), k ≤ n ∧ i = .int .i64 k ∧ z = .int .i64 q ∧ 0 ≤ q ∧ q ≤ 1048576 ∧ Small k nm) (fun _ i => n - (intOf i).toNat)
  case atStart => exact ⟨0, n, Nat.zero_le _, rfl, rfl, by omega, by omega, fun i hi => by omega⟩
  case round =>
    obtain ⟨k, q, hk, rfl, rfl, hq0, hq1, hsm⟩ := hrel
    by_cases hlt : k < n
    · have e0 := hp.c0 k hlt
      have hs := hsz k hlt
      by_cases hbig : 1048576 < (nm k).size
      · go_wp2
        go_ret
        exact boolP_no
      by_cases hbig2 : 1048576 < q + (nm k).size
      · go_wp2
        go_ret
        exact boolP_no
      have HS := Hid.mk (small_succ hsm hbig)
      go_wp2
      go_round
      case rel => exact ⟨k + 1, q + (nm k).size, by omega, by go_num, rfl, by omega, by omega, HS.out⟩
      case measure => simp [intOf]; omega
    · obtain rfl : n = k := by omega
      go_wp2
      all_goals
        go_ret
        exact ⟨rfl, _, rfl, fun _ => hsm⟩

set_option maxRecDepth 100000 in
set_option maxHeartbeats 4000000 in
theorem law (a0 a1 : Option Addr) (n m c0 c1 b0 b1 : Nat) (pa ea : Nat → Nat) (nm : Nat → ByteArray) (fl : Nat → Bool) (ns ev : Nat → Int) (name : ByteArray) (f1 f2 : Bool) (t1 t2 : Int) (w : World) (hn : n ≤ maxLen) (hm : m ≤ maxLen) (hna : name.size ≤ maxLen)
    (hp : Pri w a0 n c0 b0 pa nm fl ns) (he : Evs w a1 m c1 b1 ea ev) (hsz : ∀ i, i < n → (nm i).size ≤ maxLen)
    (g1 : -9223372036854775808 ≤ t1) (g2 : t1 ≤ 9223372036854775807) (g3 : -9223372036854775808 ≤ t2) (g4 : t2 ≤ 9223372036854775807) :
    Calls Try.prog 3 #[.slice a0 n c0, .slice a1 m c1, .string name, .bool f1, .int .i64 t1, .bool f2, .int .i64 t2] w fun e w' => e = .returned (.bool true) ∧ Below w.heap.size w w' := by
  have hB := bytes4 a0 a1 n m c0 c1 b0 pa nm fl ns name f1 f2 t1 t2 w hn hm hna hp hsz
  have HB := Hid.mk hB
  clear hB
  unfold maxLen at hn hm hna hsz
  have x0 := hp.ix
  go_enter Try.func3, Try.ntmps3
  go_wp2_with fail
  refine HB.out.mono ?_
  rintro e w' ⟨hw', b, rfl, hbs⟩
  obtain rfl : w = w' := hw'.symm
  clear HB
  cases b with
  | false =>
    clear hbs
    go_wp2
    go_ret
    exact ⟨rfl, Below.refl _ _⟩
  | true =>
  replace hsz := hbs rfl
  clear hbs
  by_cases l0 : 65536 < n
  · go_wp2
    go_ret
    exact ⟨rfl, Below.refl _ _⟩
  by_cases l1 : 65536 < m
  · go_wp2
    go_ret
    exact ⟨rfl, Below.refl _ _⟩
  by_cases l2 : 65536 < name.size
  · go_wp2
    go_ret
    exact ⟨rfl, Below.refl _ _⟩
  go_wp2_with fail
  go_loop [15, 16] (fun z i => ∃ (k : Nat) (q : Int), k ≤ n ∧ i = .int .i64 k ∧ z = .int .i64 q ∧ 0 ≤ q ∧ q ≤ 1048576) (fun _ i => n - (intOf i).toNat)
  case atStart => exact ⟨0, _, Nat.zero_le _, rfl, rfl, by omega, by omega⟩
  case round =>
    obtain ⟨k, q, hk, rfl, rfl, hq0, hq1⟩ := hrel
    by_cases hlt : k < n
    · have e0 := hp.c0 k hlt
      have hs := hsz k hlt
      by_cases hbig : (1048576 : Int) < q + (32 + ((nm k).size : Int))
      · go_wp2
        go_ret
        exact ⟨rfl, Below.refl _ _⟩
      go_wp2
      go_round
      case rel => exact ⟨k + 1, q + (32 + ((nm k).size : Int)), by omega, by go_num, rfl, by omega, by omega⟩
      case measure => simp [intOf]; omega
    · have hba := endBuild_any a0 a1 n m c0 c1 b0 b1 pa ea nm fl ns ev name w (by omega) (by omega) hp he
      have HA := Hid.mk hba
      clear hba
      go_wp2_with fail
      refine HA.out.mono ?_
      rintro e w1 ⟨ra, rfl, hU1⟩
      clear HA
      have hB1 : Below w.heap.size w w1 := hU1.2.1
      have hbb := endBuild_any a0 a1 n m c0 c1 b0 b1 pa ea nm fl ns ev name w1 (by omega) (by omega) (hp.kept hB1) (he.kept hB1)
      have HA := Hid.mk hbb
      have HU1 := Hid.mk hU1
      clear hbb hU1
      go_wp2_with fail
      refine HA.out.mono ?_
      rintro e w2 ⟨rb, rfl, hU2⟩
      clear HA
      have hB2 : Below w1.heap.size w1 w2 := hU2.2.1
      have hbc := endBuild_any a0 a1 n m c0 c1 b0 b1 pa ea nm fl ns ev name w2 (by omega) (by omega) ((hp.kept hB1).kept hB2) ((he.kept hB1).kept hB2)
      have HA := Hid.mk hbc
      have HU2 := Hid.mk hU2
      clear hbc hU2
      go_wp2_with fail
      refine HA.out.mono ?_
      rintro e w3 ⟨rc, rfl, hU3⟩
      clear HA
      have hB3 : Below w2.heap.size w2 w3 := hU3.2.1
      obtain ⟨La, Lb, Lc, ga, gb, gc, had, hBun, hSrc⟩ := bun_start HU1.out HU2.out hU3
      clear hU3 HU1 HU2 hB1 hB2 hB3
      go_wp2_with fail
      refine (runner_any ra w3).mono ?_
      rintro e w4 ⟨rfl, hR4, hB4⟩
      replace hBun := hBun.below hB4
      obtain ⟨R1, hR1⟩ : ∃ R1, R1 = w3.heap.size := ⟨_, rfl⟩
      rw [← hR1] at hR4 ⊢
      clear hR1 hB4
      go_wp2_with fail
      refine (timeAt_any t1 w4 g1 g2).mono ?_
      rintro e w5 ⟨rfl, hB5⟩
      replace hBun := hBun.below hB5
      have hR5 : Rn w5 R1 ra := (hB5.cell (World.block_lt_of_cell? _ _ hR4)).trans hR4
      clear hR4 hB5
      go_wp2_with fail
      refine (zzend_any R1 ra La name f1 t1 w5 hR5 hBun.ma).mono ?_
      rintro e w6 ⟨rfl, hM6, hB6⟩
      have hR6 : Rn w6 R1 ra := rn_but hR5 hBun.ma hB6
      replace hBun := hBun.endA hB6 hM6
      clear hB6 hM6 hR5
      go_wp2_with fail
      refine (timeAt_any t2 w6 g3 g4).mono ?_
      rintro e w7 ⟨rfl, hB7⟩
      replace hBun := hBun.below hB7
      have hR7 : Rn w7 R1 ra := (hB7.cell (World.block_lt_of_cell? _ _ hR6)).trans hR6
      clear hR6 hB7
      go_wp2_with fail
      refine (zzend_any R1 ra _ name f2 t2 w7 hR7 hBun.ma).mono ?_
      rintro e w8 ⟨rfl, hM8, hB8⟩
      have hR8 : Rn w8 R1 ra := rn_but hR7 hBun.ma hB8
      replace hBun := hBun.endA hB8 hM8
      clear hB8 hM8 hR7
      go_wp2_with fail
      refine (runner_any rb w8).mono ?_
      rintro e w9 ⟨rfl, hR9, hB9⟩
      replace hBun := hBun.below hB9
      replace hR8 : Rn w9 R1 ra := (hB9.cell (World.block_lt_of_cell? _ _ hR8)).trans hR8
      obtain ⟨R2, hR2⟩ : ∃ R2, R2 = w8.heap.size := ⟨_, rfl⟩
      rw [← hR2] at hR9 ⊢
      clear hR2 hB9
      go_wp2_with fail
      refine (timeAt_any t2 w9 g3 g4).mono ?_
      rintro e w10 ⟨rfl, hB10⟩
      replace hBun := hBun.below hB10
      replace hR8 : Rn w10 R1 ra := (hB10.cell (World.block_lt_of_cell? _ _ hR8)).trans hR8
      replace hR9 : Rn w10 R2 rb := (hB10.cell (World.block_lt_of_cell? _ _ hR9)).trans hR9
      clear hB10
      go_wp2_with fail
      refine (zzend_any R2 rb Lb name f2 t2 w10 hR9 hBun.mb).mono ?_
      rintro e w11 ⟨rfl, hM11, hB11⟩
      replace hR8 : Rn w11 R1 ra := rn_but hR8 hBun.mb hB11
      replace hR9 : Rn w11 R2 rb := rn_but hR9 hBun.mb hB11
      replace hBun := hBun.endB hB11 hM11
      clear hB11 hM11
      go_wp2_with fail
      refine (states_any R1 ra w11 hR8).mono ?_
      rintro e w12 ⟨rfl, hw12⟩
      obtain rfl : w11 = w12 := hw12.symm
      go_wp2_with fail
      refine (states_any R2 rb w11 hR9).mono ?_
      rintro e w12 ⟨rfl, hw12⟩
      obtain rfl : w11 = w12 := hw12.symm
      clear hR8 hR9
      obtain ⟨LA, LB, hd, xc, hMa, hMb, hMc, hFin, hold⟩ := bun_out (by omega) hSrc hBun
      clear hBun hSrc
      obtain ⟨xb, hlc, hxb⟩ := run_look_c hMc hFin.c
      have HXB := Hid.mk hxb
      clear hxb
      go_upto_if 130 with fail
      obtain ⟨w13, hw13⟩ : ∃ W, W = w11.alloc (.cells #[.string xb.st, .bool xb.f, .int .u64 (tW xb.s), .int .i64 (tE xb.s), .pointer none, .int .u64 (tW xb.e), .int .i64 (tE xb.e), .pointer none, .slice xb.a xb.n xb.c] 41) := ⟨_, rfl⟩
      obtain ⟨Bc, hBc⟩ : ∃ Bc, Bc = w11.heap.size := ⟨_, rfl⟩
      have hBel : Below w11.heap.size w11 w13 := by rw [hw13]; exact (Below.refl _ _).alloc (Nat.le_refl _) _
      have hSt : StB w13 Bc xb := by rw [hw13, hBc]; exact Go.heap_alloc_new w11 _
      rw [← hw13, ← hBc]
      clear hw13 hBc hlc
      replace hMa := hMa.kept hBel
      replace hMb := hMb.kept hBel
      replace hMc := hMc.kept hBel
      replace hFin := hFin.kept hBel
      replace hold := hold.trans (hBel.mono hold.size)
      clear hBel
      go_cut [25, 26] from 38 (fun s25 s26 wc => s25 = .bool hd ∧ s26 = .int .i64 (gr hd) ∧ wc = w13)
      case first =>
        cases hd with
        | true =>
          go_wp2_with fail
          go_meet
          case rel => exact ⟨rfl, rfl, rfl⟩
        | false =>
          go_wp2_with fail
          go_meet
          case rel => exact ⟨rfl, rfl, rfl⟩
      case rest =>
        obtain ⟨rfl, rfl, hwc⟩ := hcut
        obtain rfl : w13 = wc := hwc.symm
        go_step
        exact partB a0 a1 n m c0 c1 b0 b1 ra rb rc Bc pa ea nm fl ns ev name f1 f2 t1 t2 w w13 (by omega) (by omega) hp he g3 g4 LA LB Lc hd xc xb hMa hMb hMc hFin hold hSt HXB.out _ _ _ _ _ _ _ _ _ _ _ _ _ _ _ _ _ _ _ _ _ _ _ _ _ _ _ _ _ _ _ _ _ _ _ _ _ _ _ _ _ _ _ _ _ _ _ _ _ _ _ _ _ _ _ _ _ _ _ _ _ _ _ _ _ _ _ _ _ _ _ _ _ _ _ _ _ _ _ _ _ _ _ _ _ _ _ _ _ _ _ _ _ _ _ _ _ _ _ _ _ _ _ _ _ _ _ _ _ _ _ _ _ _ _ _ _ _ _ _ _ _ _ _ _ _ _ _ _ _ _ _ _ _ _ _ _ _ _ _ _ _ _ _ _ _ _ _ _ _ _ _ _ _ _ _ _ _ _ _ _ _ _ _ _ _ _ _ _ _ _ _ _ _ _ _ _ _ _ _ _ _ _ _ _ _ _ _ _ _ _ _ _ _ _ _ _ _ _ _ _ _ _ _ _ _ _ _ _ _ _ _ _ _ _ _ _ _ _ _ _ _ _ _ _ _ _ _ _ _ _ _ _ _ _ _ _ _ _ _ _ _ _ _ _ _ _ _ _ _ _ _ _ _ _ _ _ _ _ _

end Go.Proofs.Qxb6614174a
