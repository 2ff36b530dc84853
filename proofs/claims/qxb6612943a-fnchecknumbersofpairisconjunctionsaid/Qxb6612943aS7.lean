import Derived.Test.Qxb6612943aS6
namespace Go.Proofs.Qxb6612943a
open Go.RowKit
set_option linter.unusedVariables false
set_option linter.unusedSimpArgs false

set_option maxRecDepth 1000000 in
set_option maxHeartbeats 4000000 in
theorem splC (w wr : World) (N g p m c : Nat) (d : Nat → Int) (b : Nat) (ng : Bool) (a1 : Option Addr) (l1 c1 : Nat) (a2 : Option Addr) (l2 c2 : Nat) (hSp : Sp w wr N g p m c d b ng (.slice a1 l1 c1) (.slice a2 l2 c2) 0) (inb : Bool) (hl1 : l1 ≤ 1048579) (hl2 : l2 ≤ 1048579) (hm : m ≤ 1048579) (hmc : m ≤ c)
    (hin : (b < m ∧ (d b = 101 ∨ d b = 69) ∧ xs d m b ≤ m ∧ Run dg d m (xs d m b) m ∧ inb = decide ((l1 : Int) + l2 ≤ 1000 ∧ ev d (xs d m b) (m - xs d m b) ≤ 1000)) ∨ (b = m ∧ inb = decide ((l1 : Int) + l2 ≤ 1000)))
    (u6 u7 u8 u9 u10 u11 u12 u13 u14 u15 u16 u17 u18 u19 u20 u21 u22 u23 u24 u25 u26 u27 u28 u29 u30 u31 u32 u33 u34 u35 u36 u37 u38 u39 u40 u41 u42 u43 u44 u45 u46 u47 u48 u49 u50 u51 u52 u53 u54 u55 u56 u57 u58 u59 u60 u61 u62 u63 u64 u65 u66 u67 u68 u69 u70 u71 u72 u73 u74 u75 u76 u77 u78 u79 u80 u81 u82 u83 u84 u85 u86 u87 u88 u89 u90 u91 u92 u93 u94 u95 u96 u97 u98 u99 u100 u101 u102 u103 u104 u105 u106 u107 u108 u109 u110 u111 u112 u113 u114 u115 u116 u117 u118 u119 u120 : Value) :
    Code.wp Try.prog ((Try.f36.body.bind (tailAt 11)).getD .skip) (bodyPost Try.prog Try.f36 (SplPost N inb w)) ⟨#[.slice (some ⟨g, p, none⟩) m c, .pointer (some ⟨N, 0, none⟩), .pointer (some ⟨N + 1, 0, none⟩), .pointer (some ⟨N + 2, 0, none⟩), .pointer (some ⟨N + 3, 0, none⟩), .func (.func 37) #[] #[.pointer (some ⟨N + 3, 0, none⟩), .pointer (some ⟨N, 0, none⟩)], u6, u7, u8, u9, u10, u11, u12, u13, u14, u15, u16, u17, u18, u19, u20, u21, u22, u23, u24, u25, u26, u27, u28, u29, u30, u31, u32, u33, u34, u35, u36, u37, u38, u39, u40, u41, u42, u43, u44, u45, u46, u47, u48, u49, u50, u51, u52, u53, u54, u55, u56, u57, u58, u59, u60, u61, u62, u63, u64, u65, u66, u67, u68, u69, u70, u71, u72, u73, u74, u75, u76, u77, u78, u79, u80, u81, u82, u83, u84, u85, u86, u87, u88, u89, u90, u91, u92, u93, u94, u95, u96, u97, u98, u99, u100, u101, u102, u103, u104, u105, u106, u107, u108, u109, u110, u111, u112, u113, u114, u115, u116, u117, u118, u119, u120], []⟩ wr := by
  conv => arg 2; whnf
  dsimp only
  have cL := hSp.cL
  have i0 := hSp.bI.cell
  have fI := hSp.bI.free
  rcases hin with ⟨hbm, hE, hxm, hR, hin⟩ | ⟨rfl, hin⟩
  rotate_left
  · obtain ⟨p0, p1, p2, p3⟩ := hSp.cP
    obtain ⟨r0, r1, r2, r3⟩ := hSp.cR
    have q0 := hSp.fR 0
    have q1 := hSp.fR 1
    have q2 := hSp.fR 2
    have q3 := hSp.fR 3
    have HI := Hid.mk hin
    clear hin
    go_wp2
    refine bodyPost_ret (v := .agg #[.bool ng, .slice a1 l1 c1, .slice a2 l2 c2, .int .i64 0]) (by simp [results, Try.results36, go_sem, r0, r1, r2, r3]) rfl ?_
    refine ⟨ng, a1, l1, c1, a2, l2, c2, 0, rfl, ?_, hl1, hl2, ?_⟩
    · have hb := hSp.below
      repeat (first | exact hb | refine Below.setCell ?_ (by simp) _)
    · rw [HI.out, decide_eq_decide]; omega
  have HE := Hid.mk hE
  have HR := Hid.mk (And.intro hR hin)
  clear hE hR hin
  have e0 := hSp.cl b hbm
  have x0 := fun w => ix_own g p m c b w hbm
  go_upto_region 11 with fail
  go_cut [60] from 9 (fun s60 wc => s60 = .bool false ∧ wr = wc)
  case first =>
    by_cases c101 : d b = 101
    · have t1 : (d b != 101) = false := by simp [c101]
      have t0 : ((b : Int) == m) = false := by simp; omega
      go_wp2_with fail
      go_meet
      case rel => exact ⟨rfl, rfl⟩
    · have t1 : (d b != 101) = true := by simp [c101]
      have t2 : (d b != 69) = false := by
        rcases HE.out with h | h
        · exact absurd h c101
        · simp [h]
      have t0 : ((b : Int) == m) = false := by simp; omega
      go_wp2_with fail
      go_meet
      case rel => exact ⟨rfl, rfl⟩
  case rest =>
  obtain ⟨rfl, rfl⟩ := hcut
  clear e0 x0 HE
  go_upto_region 14 with fail
  have hS1 : Sp w (wr.setCell ⟨N + 3, 0, none⟩ (.int .i64 ((b : Int) + 1))) N g p m c d (b + 1) ng (.slice a1 l1 c1) (.slice a2 l2 c2) 0 := hSp.setI (by omega)
  obtain ⟨W, hW⟩ : ∃ W, W = wr.setCell ⟨N + 3, 0, none⟩ (.int .i64 ((b : Int) + 1)) := ⟨_, rfl⟩
  rw [← hW] at hS1 ⊢
  clear hW hSp cL i0 fI
  have cL := hS1.cL
  have i0 := hS1.bI.cell
  have fI := hS1.bI.free
  simp only [Int.natCast_add, Int.cast_ofNat_Int] at i0
  have hfin : ∀ x, xs d m b = x → ∀ wx, Sp w wx N g p m c d x ng (.slice a1 l1 c1) (.slice a2 l2 c2) 0 → Calls Try.prog 37 #[.pointer (some ⟨N + 3, 0, none⟩), .pointer (some ⟨N, 0, none⟩)] wx fun e w' => ∃ o, (0 < m - x → o = p + x) ∧ e = .returned (.slice (some ⟨g, o, none⟩) (m - x) (c - x)) ∧ Sp w w' N g p m c d m ng (.slice a1 l1 c1) (.slice a2 l2 c2) 0 := by
    intro x hx wx hSx
    refine (digits_any (N + 3) N g p m c d x wx hSx.bI hSx.cL hSx.cl (by omega) (by have := hSx.gN; omega) (by omega) hm hmc).mono ?_
    rintro e w' ⟨r, o, hr, rfl, ho, hb, hI⟩
    obtain rfl := hr.eq (hx ▸ HR.out.1)
    exact ⟨o, fun h => ho (by omega), rfl, hSx.but hb hI⟩
  have hjoin : ∀ x, xs d m b = x → x ≤ m ∧ (∀ k, k < m - x → dg (d (x + k))) ∧ inb = decide ((l1 : Int) + l2 ≤ 1000 ∧ ev d x (m - x) ≤ 1000) := by
    rintro x rfl
    exact ⟨hxm, fun k hk => HR.out.1.2.2.1 _ (by omega) (by omega), HR.out.2⟩
  have HF := Hid.mk hfin
  have HJ := Hid.mk hjoin
  clear hfin hjoin HR hxm
  by_cases hb1 : b + 1 < m
  rotate_left
  · have hx : xs d m b = b + 1 := by simp [xs, hb1]
    have HX := Hid.mk hx
    clear hx
    go_upto_region 17 with fail
    go_cut [7] from 9 (fun s7 wc => ∃ o, s7 = .slice (some ⟨g, o, none⟩) (m - (b + 1)) (c - (b + 1)) ∧ (0 < m - (b + 1) → o = p + (b + 1)) ∧ Sp w wc N g p m c d m ng (.slice a1 l1 c1) (.slice a2 l2 c2) 0)
    case first =>
      go_wp2_with fail
      refine (HF.out (b + 1) HX.out _ hS1).mono ?_
      rintro e w3 ⟨o, ho, rfl, hS3⟩
      go_wp2_with fail
      go_meet
      case rel => exact ⟨o, rfl, ho, hS3⟩
    case rest =>
      obtain ⟨o, rfl, ho, hS3⟩ := hcut
      obtain ⟨j1, j2, j3⟩ := HJ.out (b + 1) HX.out
      go_step
      exact splD w wc N g p m c d m ng a1 l1 c1 a2 l2 c2 hS3 inb hl1 hl2 false o (m - (b + 1)) (c - (b + 1)) (b + 1) (by omega) ho (by omega) j2 j3 _ _ _ _ _ _ _ _ _ _ _ _ _ _ _ _ _ _ _ _ _ _ _ _ _ _ _ _ _ _ _ _ _ _ _ _ _ _ _ _ _ _ _ _ _ _ _ _ _ _ _ _ _ _ _ _ _ _ _ _ _ _ _ _ _ _ _ _ _ _ _ _ _ _ _ _ _ _ _ _ _ _ _ _ _ _ _ _ _ _ _ _ _ _ _ _ _ _ _ _ _ _ _ _ _ _ _ _ _ _ _ _ _ 
  have e1 := hS1.cl (b + 1) hb1
  have x1 := fun w => ix_own g p m c (b + 1) w hb1
  simp only [Int.natCast_add, Int.cast_ofNat_Int] at x1
  by_cases c45 : d (b + 1) = 45
  · have t1 : (d (b + 1) == 45) = true := by simp [c45]
    have hx : xs d m b = b + 2 := by simp [xs, hb1, c45]
    have HX := Hid.mk hx
    clear hx c45
    have hS2 : Sp w (W.setCell ⟨N + 3, 0, none⟩ (.int .i64 ((b : Int) + 1 + 1))) N g p m c d (b + 2) ng (.slice a1 l1 c1) (.slice a2 l2 c2) 0 := hS1.setI (by omega)
    go_upto_region 17 with fail
    go_cut [7] from 9 (fun s7 wc => ∃ o, s7 = .slice (some ⟨g, o, none⟩) (m - (b + 2)) (c - (b + 2)) ∧ (0 < m - (b + 2) → o = p + (b + 2)) ∧ Sp w wc N g p m c d m ng (.slice a1 l1 c1) (.slice a2 l2 c2) 0)
    case first =>
      go_wp2_with fail
      refine (HF.out (b + 2) HX.out _ hS2).mono ?_
      rintro e w3 ⟨o, ho, rfl, hS3⟩
      go_wp2_with fail
      go_meet
      case rel => exact ⟨o, rfl, ho, hS3⟩
    case rest =>
      obtain ⟨o, rfl, ho, hS3⟩ := hcut
      obtain ⟨j1, j2, j3⟩ := HJ.out (b + 2) HX.out
      go_step
      exact splD w wc N g p m c d m ng a1 l1 c1 a2 l2 c2 hS3 inb hl1 hl2 true o (m - (b + 2)) (c - (b + 2)) (b + 2) (by omega) ho (by omega) j2 j3 _ _ _ _ _ _ _ _ _ _ _ _ _ _ _ _ _ _ _ _ _ _ _ _ _ _ _ _ _ _ _ _ _ _ _ _ _ _ _ _ _ _ _ _ _ _ _ _ _ _ _ _ _ _ _ _ _ _ _ _ _ _ _ _ _ _ _ _ _ _ _ _ _ _ _ _ _ _ _ _ _ _ _ _ _ _ _ _ _ _ _ _ _ _ _ _ _ _ _ _ _ _ _ _ _ _ _ _ _ _ _ _ _ 
  have t1 : (d (b + 1) == 45) = false := by simp [c45]
  by_cases c43 : d (b + 1) = 43
  · have t2 : (d (b + 1) == 43) = true := by simp [c43]
    have hx : xs d m b = b + 2 := by simp [xs, hb1, c43]
    have HX := Hid.mk hx
    clear hx c43 c45
    have hS2 : Sp w (W.setCell ⟨N + 3, 0, none⟩ (.int .i64 ((b : Int) + 1 + 1))) N g p m c d (b + 2) ng (.slice a1 l1 c1) (.slice a2 l2 c2) 0 := hS1.setI (by omega)
    go_upto_region 17 with fail
    go_cut [7] from 9 (fun s7 wc => ∃ o, s7 = .slice (some ⟨g, o, none⟩) (m - (b + 2)) (c - (b + 2)) ∧ (0 < m - (b + 2) → o = p + (b + 2)) ∧ Sp w wc N g p m c d m ng (.slice a1 l1 c1) (.slice a2 l2 c2) 0)
    case first =>
      go_wp2_with fail
      refine (HF.out (b + 2) HX.out _ hS2).mono ?_
      rintro e w3 ⟨o, ho, rfl, hS3⟩
      go_wp2_with fail
      go_meet
      case rel => exact ⟨o, rfl, ho, hS3⟩
    case rest =>
      obtain ⟨o, rfl, ho, hS3⟩ := hcut
      obtain ⟨j1, j2, j3⟩ := HJ.out (b + 2) HX.out
      go_step
      exact splD w wc N g p m c d m ng a1 l1 c1 a2 l2 c2 hS3 inb hl1 hl2 false o (m - (b + 2)) (c - (b + 2)) (b + 2) (by omega) ho (by omega) j2 j3 _ _ _ _ _ _ _ _ _ _ _ _ _ _ _ _ _ _ _ _ _ _ _ _ _ _ _ _ _ _ _ _ _ _ _ _ _ _ _ _ _ _ _ _ _ _ _ _ _ _ _ _ _ _ _ _ _ _ _ _ _ _ _ _ _ _ _ _ _ _ _ _ _ _ _ _ _ _ _ _ _ _ _ _ _ _ _ _ _ _ _ _ _ _ _ _ _ _ _ _ _ _ _ _ _ _ _ _ _ _ _ _ _ 
  · have t2 : (d (b + 1) == 43) = false := by simp [c43]
    have hx : xs d m b = b + 1 := by simp [xs, hb1, c43, c45]
    have HX := Hid.mk hx
    clear hx c43 c45
    go_upto_region 17 with fail
    go_cut [7] from 9 (fun s7 wc => ∃ o, s7 = .slice (some ⟨g, o, none⟩) (m - (b + 1)) (c - (b + 1)) ∧ (0 < m - (b + 1) → o = p + (b + 1)) ∧ Sp w wc N g p m c d m ng (.slice a1 l1 c1) (.slice a2 l2 c2) 0)
    case first =>
      go_wp2_with fail
      refine (HF.out (b + 1) HX.out _ hS1).mono ?_
      rintro e w3 ⟨o, ho, rfl, hS3⟩
      go_wp2_with fail
      go_meet
      case rel => exact ⟨o, rfl, ho, hS3⟩
    case rest =>
      obtain ⟨o, rfl, ho, hS3⟩ := hcut
      obtain ⟨j1, j2, j3⟩ := HJ.out (b + 1) HX.out
      go_step
      exact splD w wc N g p m c d m ng a1 l1 c1 a2 l2 c2 hS3 inb hl1 hl2 false o (m - (b + 1)) (c - (b + 1)) (b + 1) (by omega) ho (by omega) j2 j3 _ _ _ _ _ _ _ _ _ _ _ _ _ _ _ _ _ _ _ _ _ _ _ _ _ _ _ _ _ _ _ _ _ _ _ _ _ _ _ _ _ _ _ _ _ _ _ _ _ _ _ _ _ _ _ _ _ _ _ _ _ _ _ _ _ _ _ _ _ _ _ _ _ _ _ _ _ _ _ _ _ _ _ _ _ _ _ _ _ _ _ _ _ _ _ _ _ _ _ _ _ _ _ _ _ _ _ _ _ _ _ _ _ 

end Go.Proofs.Qxb6612943a
