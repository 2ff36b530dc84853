import Derived.Test.Qxb6612943aS8
namespace Go.Proofs.Qxb6612943a
open Go.RowKit
set_option linter.unusedVariables false
set_option linter.unusedSimpArgs false

theorem Sp.init (w : World) (g p m c : Nat) (d : Nat → Int) (hc : ∀ k, k < m → w.cell? ⟨g, p + k, none⟩ = some (.int .u8 (d k))) (hm : 0 < m) :
    Sp w ((((w.alloc (.cells #[.slice (some ⟨g, p, none⟩) m c] 22)).alloc (.cells #[.bool false, .slice none 0 0, .slice none 0 0, .int .i64 0] 57)).alloc (.cells #[.bool false, .slice none 0 0, .slice none 0 0, .int .i64 0] 57)).alloc (.cells #[.int .i64 0] 3)) w.heap.size g p m c d 0 false (.slice none 0 0) (.slice none 0 0) 0 := by
  have hg : g < w.heap.size := World.block_lt_of_cell? _ _ (hc 0 hm)
  have s1 : ∀ o, (w.alloc o).heap.size = w.heap.size + 1 := fun o => by simp
  have s2 : ∀ o o', ((w.alloc o).alloc o').heap.size = w.heap.size + 2 := fun o o' => by simp
  have s3 : ∀ o o' o'', (((w.alloc o).alloc o').alloc o'').heap.size = w.heap.size + 3 := fun o o' o'' => by simp
  have hb : Below w.heap.size w ((((w.alloc (.cells #[.slice (some ⟨g, p, none⟩) m c] 22)).alloc (.cells #[.bool false, .slice none 0 0, .slice none 0 0, .int .i64 0] 57)).alloc (.cells #[.bool false, .slice none 0 0, .slice none 0 0, .int .i64 0] 57)).alloc (.cells #[.int .i64 0] 3)) := ((((Below.refl _ _).alloc (Nat.le_refl _) _).alloc (by simp) _).alloc (by simp; omega) _).alloc (by simp; omega) _
  refine ⟨?_, ?_, ?_, ?_, fun k hk => (hb.cell hg).trans (hc k hk), hb, hg⟩
  · rw [Below.heap_alloc _ _ _ (by rw [s3]; omega), Below.heap_alloc _ _ _ (by rw [s2]; omega), Below.heap_alloc _ _ _ (by rw [s1]; omega)]
    exact heap_alloc_new w _
  · rw [Below.heap_alloc _ _ _ (by rw [s3]; omega), Below.heap_alloc _ _ _ (by rw [s2]; omega)]
    rw [← s1 (.cells #[.slice (some ⟨g, p, none⟩) m c] 22)]
    exact heap_alloc_new _ _
  · rw [Below.heap_alloc _ _ _ (by rw [s3]; omega)]
    rw [← s2 (.cells #[.slice (some ⟨g, p, none⟩) m c] 22) (.cells #[.bool false, .slice none 0 0, .slice none 0 0, .int .i64 0] 57)]
    exact heap_alloc_new _ _
  · unfold At0
    rw [← s3 (.cells #[.slice (some ⟨g, p, none⟩) m c] 22) (.cells #[.bool false, .slice none 0 0, .slice none 0 0, .int .i64 0] 57) (.cells #[.bool false, .slice none 0 0, .slice none 0 0, .int .i64 0] 57)]
    exact heap_alloc_new _ _

set_option maxRecDepth 1000000 in
set_option maxHeartbeats 4000000 in
theorem split_any (w : World) (g p m c : Nat) (d : Nat → Int) (inb : Bool) (hN : NumR d m inb) (hc : ∀ k, k < m → w.cell? ⟨g, p + k, none⟩ = some (.int .u8 (d k))) (hm : m ≤ 1048579) (hmc : m ≤ c) :
    Calls Try.prog 36 #[.slice (some ⟨g, p, none⟩) m c] w (SplPost w.heap.size inb w) := by
  suffices hh : ∀ N, N = w.heap.size → Calls Try.prog 36 #[.slice (some ⟨g, p, none⟩) m c] w (SplPost N inb w) from hh _ rfl
  intro N hNe
  have HNE := Hid.mk hNe
  clear hNe
  obtain ⟨s, a, b, hs, h1, h2, h3, hm0, h5, h6, h7⟩ := hN
  have hin : ExpC d m b inb (((a - s : Nat) : Int) + (if d a = 46 ∧ a < m then (b : Int) - (a + 1) else 0)) := by
    unfold cnt at h7
    rw [show ((a - s : Nat) : Int) = (a : Int) - s by omega]
    exact h7
  have hS0 := Sp.init w g p m c d hc hm0
  have HI := Hid.mk hin
  have HF := Hid.mk h6
  have HR := Hid.mk h5
  have HS := Hid.mk hs
  clear h7 hin h6 h5 hs hc
  go_enter Try.func36, Try.ntmps36
  go_upto_region 4 with fail
  rw [show w.heap.size + 1 + 1 + 1 = w.heap.size + 3 from rfl, show w.heap.size + 1 + 1 = w.heap.size + 2 from rfl]
  obtain ⟨W, hW⟩ : ∃ W, W = (((w.alloc (.cells #[.slice (some ⟨g, p, none⟩) m c] 22)).alloc (.cells #[.bool false, .slice none 0 0, .slice none 0 0, .int .i64 0] 57)).alloc (.cells #[.bool false, .slice none 0 0, .slice none 0 0, .int .i64 0] 57)).alloc (.cells #[.int .i64 0] 3) := ⟨_, rfl⟩
  rw [← hW, ← HNE.out] at hS0
  rw [← hW, ← HNE.out]
  clear hW
  have cL := hS0.cL
  have i0 := hS0.bI.cell
  have fI := hS0.bI.free
  have e0 := hS0.cl 0 hm0
  have x0 := fun w => ix_own g p m c 0 w hm0
  simp only [Nat.add_zero, Int.cast_ofNat_Int] at i0 e0 x0
  go_cut [20] from 9 (fun s20 wc => s20 = .bool (d 0 == 45) ∧ W = wc)
  case first =>
    go_wp2_with fail
    go_meet
    case rel => exact ⟨rfl, rfl⟩
  case rest =>
  obtain ⟨rfl, rfl⟩ := hcut
  clear e0 x0
  go_upto_if 20 with fail
  go_cut [] from 9 (fun wc => ∃ ng, Sp w wc N g p m c d s ng (.slice none 0 0) (.slice none 0 0) 0)
  case first =>
    have fP := hS0.fP 0
    obtain ⟨p0, p1, p2, p3⟩ := hS0.cP
    by_cases c45 : d 0 = 45
    · have t1 : (d 0 == 45) = true := by simp [c45]
      have hs1 : s = 1 := by rw [HS.out, if_pos c45]
      have hS1 : Sp w (W.setCell ⟨N + 2, 0, none⟩ (.bool true)) N g p m c d 0 true (.slice none 0 0) (.slice none 0 0) 0 := hS0.setP rfl
      have i1 := hS1.bI.cell
      have f1 := hS1.bI.free
      simp only [Nat.add_zero, Int.cast_ofNat_Int] at i1
      have HS1 := Hid.mk (And.intro hs1 hS1)
      clear c45 hs1 hS1
      go_wp2_with fail
      go_meet
      case rel => exact ⟨true, HS1.out.2.setI (by rw [HS1.out.1]; rfl)⟩
    · have t1 : (d 0 == 45) = false := by simp [c45]
      have hs1 : s = 0 := by rw [HS.out, if_neg c45]
      have HS1 := Hid.mk hs1
      clear c45 hs1
      go_wp2_with fail
      go_meet
      case rel => exact ⟨false, by rw [HS1.out]; exact hS0⟩
  case rest =>
    obtain ⟨ng, hS1⟩ := hcut
    obtain ⟨W1, hW1⟩ : ∃ W1, W1 = wc := ⟨_, rfl⟩
    subst hW1
    clear hS0 cL i0 fI
    go_upto_region 7 with fail
    go_cut [] from 9 (fun wd => ∃ o, Sp w wd N g p m c d a ng (.slice (some ⟨g, o, none⟩) (a - s) (c - s)) (.slice none 0 0) 0)
    case first =>
      go_wp2_with fail
      refine (digits_any (N + 3) N g p m c d s _ hS1.bI hS1.cL hS1.cl (by omega) (by have := hS1.gN; omega) (by omega) hm hmc).mono ?_
      rintro e w' ⟨r, o, hr, rfl, ho, hb, hI⟩
      obtain rfl := hr.eq HR.out
      have hS2 := hS1.but hb hI
      have f2 := hS2.fP 1
      obtain ⟨p0, p1, p2, p3⟩ := hS2.cP
      clear hr hb
      go_wp2_with fail
      go_meet
      case rel => exact ⟨o, hS2.setP rfl⟩
    case rest =>
      obtain ⟨o, hS3⟩ := hcut
      go_step
      exact splB w _ N g p m c d a b ng (some ⟨g, o, none⟩) (a - s) (c - s) hS3 inb (by omega) hm hmc (by omega) HF.out HI.out _ _ _ _ _ _ _ _ _ _ _ _ _ _ _ _ _ _ _ _ _ _ _ _ _ _ _ _ _ _ _ _ _ _ _ _ _ _ _ _ _ _ _ _ _ _ _ _ _ _ _ _ _ _ _ _ _ _ _ _ _ _ _ _ _ _ _ _ _ _ _ _ _ _ _ _ _ _ _ _ _ _ _ _ _ _ _ _ _ _ _ _ _ _ _ _ _ _ _ _ _ _ _ _ _ _ _ _ _ _ _ _ _ _ _ 

/-! numberInBounds -/
set_option maxRecDepth 1000000 in
set_option maxHeartbeats 4000000 in
theorem bounds_any (w : World) (g p m c : Nat) (d : Nat → Int) (inb : Bool) (hN : NumR d m inb) (hc : ∀ k, k < m → w.cell? ⟨g, p + k, none⟩ = some (.int .u8 (d k))) (hm : m ≤ 1048579) (hmc : m ≤ c) :
    Calls Try.prog 30 #[.slice (some ⟨g, p, none⟩) m c] w fun e w' => e = .returned (.bool inb) ∧ Below w.heap.size w w' := by
  go_enter Try.func30, Try.ntmps30
  go_wp2_with fail
  refine (split_any w g p m c d inb hN hc hm hmc).mono ?_
  rintro e w1 ⟨ng, a1, l1, c1, a2, l2, c2, ex, rfl, hb, h1, h2, hin⟩
  have HI := Hid.mk hin
  clear hin hN hc
  by_cases k1 : (l1 : Int) + l2 ≤ 1000
  · by_cases k2 : -1000 ≤ ex
    · by_cases k3 : ex ≤ 1000
      · go_wp2
        go_ret
        exact ⟨by rw [HI.out]; exact retD (by simp [k1, k2, k3]), by repeat (first | exact hb.alloc (by first | exact hb.size | (simp; exact Nat.le_trans hb.size (by omega))) _ | refine Below.setCell ?_ (by simp; exact hb.size) _)⟩
      · go_wp2
        go_ret
        exact ⟨by rw [HI.out]; exact retD (by simp [k3]; try omega), by repeat (first | exact hb.alloc (by first | exact hb.size | (simp; exact Nat.le_trans hb.size (by omega))) _ | refine Below.setCell ?_ (by simp; exact hb.size) _)⟩
    · go_wp2
      go_ret
      exact ⟨by rw [HI.out]; exact retD (by simp [k2]; try omega), by repeat (first | exact hb.alloc (by first | exact hb.size | (simp; exact Nat.le_trans hb.size (by omega))) _ | refine Below.setCell ?_ (by simp; exact hb.size) _)⟩
  · go_wp2
    go_ret
    exact ⟨by rw [HI.out]; exact retD (by simp [k1]; try omega), by repeat (first | exact hb.alloc (by first | exact hb.size | (simp; exact Nat.le_trans hb.size (by omega))) _ | refine Below.setCell ?_ (by simp; exact hb.size) _)⟩

end Go.Proofs.Qxb6612943a
