import Derived.Test.Qxb6612943aZZ
import Derived.Deep.CutRange
namespace Go.Proofs.Qxb6612943a
open Go.RowKit
set_option linter.unusedVariables false
set_option linter.unusedSimpArgs false

set_option maxRecDepth 100000 in
set_option maxHeartbeats 4000000 in
theorem law1 (a0 : Option Addr) (n c0 : Nat) (d : Nat → Int) (a1 : Int) (w : World) (h0 : Came w a0 n d) (d0 : ∀ i, 0 ≤ d i) (d1 : ∀ i, d i ≤ 255) :
    Calls Try.prog 3 #[.slice a0 n c0, .int .i64 a1] w fun e w' => e = .returned (.bool true) ∧ Below w.heap.size w w' := by
  have hmx := h0.1
  have HB := Hid.mk (bytes6 a0 n c0 a1 w hmx)
  unfold maxLen at hmx
  obtain ⟨i5, hi5, hz50, hz51, hz52⟩ := info_parts info5
  have y22 := fun w a n c => run_neq_slice_nil_any (P := Try.prog) w 22 5 a n c 0 0 Try.underlying22
  go_enter Try.func3, Try.ntmps3
  go_wp2_with fail
  refine HB.out.mono ?_
  rintro e w' ⟨b, rfl, hw'⟩
  obtain rfl : w = w' := hw'.symm
  clear HB
  cases b with
  | false =>
    go_wp2
    go_ret
    exact ⟨rfl, Below.refl _ _⟩
  | true =>
  by_cases l0 : 1048576 < n
  · go_wp2
    go_ret
    exact ⟨rfl, Below.refl _ _⟩
  by_cases p0 : a1 < 0
  · go_wp2
    go_ret
    exact ⟨rfl, Below.refl _ _⟩
  by_cases p1 : (n : Int) < a1
  · go_wp2
    go_ret
    exact ⟨rfl, Below.refl _ _⟩
  obtain ⟨i, rfl⟩ : ∃ i : Nat, a1 = i := ⟨a1.toNat, by omega⟩
  have hin : i ≤ n := by omega
  clear p0 p1
  go_upto_if 28 with fail
  go_cut [0, 5] from 12 (fun s0 s5 wc => Cp w.heap.size wc s0 n d ∧ Below w.heap.size w wc)
  case first =>
    rcases h0.2 with ⟨rfl, hn⟩ | ⟨x, rfl, hx⟩
    · have Hn := Hid.mk hn
      clear hn h0
      go_wp2_with fail
      go_meet
      case rel => exact ⟨.inr (.inl ⟨_, rfl, Hn.out⟩), Below.refl _ _⟩
    · go_wp2_with (first | (at_make; refine wpList_make_full _ rfl _ _ 22 rfl w.heap.size 5 i5 (.int .u8 0) 1 Try.underlying22 hi5 hz50 hz51 _ _ _ _ n rfl rfl (by omega) (by omega) (by rw [hz52]; omega) (by unfold maxLen; omega) (Nat.le_refl _) ?_))
      intro w1 hown hgrow
      have hA := made_arr hown
      have hB1 := below_none hgrow
      obtain ⟨w2, hcp, hA2, hO2⟩ := copy_run (cap := c0) (T := 22) Try.underlying22 (by kernel_rfl) hA (x := x) (k := .u8) (z := d) (fun i hi => (hB1.cell (World.block_lt_of_cell? _ _ (hx i hi))).trans (hx i hi))
      clear hown hgrow
      go_wp2_with fail
      go_meet
      case rel => exact ⟨.inr (.inr ⟨_, rfl, Nat.le_refl _, hA2⟩), hO2.grown hB1 (Nat.le_refl _)⟩
  case rest =>
    obtain ⟨hCp, hB0⟩ := hcut
    obtain ⟨a, c, g, rfl, hT, hA⟩ := hCp.tx d0 d1 (by omega)
    clear hCp h0
    obtain ⟨wa, hwa⟩ : ∃ wa, wa = wc := ⟨_, rfl⟩
    subst hwa
    go_wp2_with fail
    refine (text_any a n c g d i wa hT hin).mono ?_
    rintro e w1 ⟨hD1, e1, ok, b, rfl, hok⟩
    have hB1 : Below w.heap.size w w1 := hB0.trans (hD1.below _)
    have HO := Hid.mk hok
    clear hok
    cases ok with
    | false =>
      go_wp2
      go_ret
      exact ⟨rfl, hB1⟩
    | true =>
      obtain ⟨i0, f, hr, hG, hre⟩ := HO.out rfl
      have hpos : 0 < n := by have := hG.lt; omega
      obtain ⟨rfl, rfl, hg, hAr⟩ := hA hpos
      have hT1 := hT.dr hD1
      have HG := Hid.mk (And.intro hr (And.intro hG (And.intro hre hG.bnd)))
      clear hr hG hre HO hA hT y22
      go_wp2_with fail
      refine (new_any g c d i w1 hT1.cl hpos hin).mono ?_
      rintro e w2 ⟨S, rfl, hSl, hB2, hS2⟩
      go_wp2_with fail
      refine (check9 w2 S g c d i i0 e1 f b hS2 ⟨d0, d1, by omega⟩ HG.out.1 HG.out.2.1 (Dl.of_run HG.out.2.2.1 (fun h => absurd h (by omega)))).mono ?_
      rintro e w3 ⟨rfl, hB3, hS3⟩
      go_wp2_with fail
      refine (pos10 w3 S g c d _ hS3).mono ?_
      rintro e w4 ⟨rfl, hw4⟩
      obtain rfl : w3 = w4 := hw4.symm
      go_wp2_with fail
      refine (sameStop_any _ _ _ _ _).mono ?_
      rintro e w4 ⟨rfl, hw4⟩
      obtain rfl : w3 = w4 := hw4.symm
      rw [same_ok (by have := HG.out.2.2.2; omega)]
      go_wp2
      go_ret
      refine ⟨rfl, ?_⟩
      have hs := hB1.size
      have hB12 : Below w.heap.size w w2 := hB1.trans (hB2.mono (by omega))
      exact hB12.trans (hB3.below (by omega) hB12.size)

end Go.Proofs.Qxb6612943a
