import Derived.Test.Qxb6612943aS7
namespace Go.Proofs.Qxb6612943a
open Go.RowKit
set_option linter.unusedVariables false
set_option linter.unusedSimpArgs false

/-- What stands behind the digits ahead of the exponent, L of them, at b. -/
def ExpC (d : Nat → Int) (m b : Nat) (inb : Bool) (L : Int) : Prop := (b < m ∧ (d b = 101 ∨ d b = 69) ∧ xs d m b ≤ m ∧ Run dg d m (xs d m b) m ∧ inb = decide (L ≤ 1000 ∧ ev d (xs d m b) (m - xs d m b) ≤ 1000)) ∨ (b = m ∧ inb = decide (L ≤ 1000))

set_option maxRecDepth 1000000 in
set_option maxHeartbeats 4000000 in
theorem splB (w wr : World) (N g p m c : Nat) (d : Nat → Int) (a b : Nat) (ng : Bool) (a1 : Option Addr) (l1 c1 : Nat) (hSp : Sp w wr N g p m c d a ng (.slice a1 l1 c1) (.slice none 0 0) 0) (inb : Bool) (hl1 : l1 ≤ 1048579) (hm : m ≤ 1048579) (hmc : m ≤ c) (ham : a ≤ m)
    (hfr : (a < m ∧ d a = 46 ∧ Run dg d m (a + 1) b) ∨ ((a < m → d a ≠ 46) ∧ b = a)) (hin : ExpC d m b inb ((l1 : Int) + (if d a = 46 ∧ a < m then (b : Int) - (a + 1) else 0)))
    (u6 u7 u8 u9 u10 u11 u12 u13 u14 u15 u16 u17 u18 u19 u20 u21 u22 u23 u24 u25 u26 u27 u28 u29 u30 u31 u32 u33 u34 u35 u36 u37 u38 u39 u40 u41 u42 u43 u44 u45 u46 u47 u48 u49 u50 u51 u52 u53 u54 u55 u56 u57 u58 u59 u60 u61 u62 u63 u64 u65 u66 u67 u68 u69 u70 u71 u72 u73 u74 u75 u76 u77 u78 u79 u80 u81 u82 u83 u84 u85 u86 u87 u88 u89 u90 u91 u92 u93 u94 u95 u96 u97 u98 u99 u100 u101 u102 u103 u104 u105 u106 u107 u108 u109 u110 u111 u112 u113 u114 u115 u116 u117 u118 u119 u120 : Value) :
    Code.wp Try.prog ((Try.f36.body.bind (tailAt 8)).getD .skip) (bodyPost Try.prog Try.f36 (SplPost N inb w)) ⟨#[.slice (some ⟨g, p, none⟩) m c, .pointer (some ⟨N, 0, none⟩), .pointer (some ⟨N + 1, 0, none⟩), .pointer (some ⟨N + 2, 0, none⟩), .pointer (some ⟨N + 3, 0, none⟩), .func (.func 37) #[] #[.pointer (some ⟨N + 3, 0, none⟩), .pointer (some ⟨N, 0, none⟩)], u6, u7, u8, u9, u10, u11, u12, u13, u14, u15, u16, u17, u18, u19, u20, u21, u22, u23, u24, u25, u26, u27, u28, u29, u30, u31, u32, u33, u34, u35, u36, u37, u38, u39, u40, u41, u42, u43, u44, u45, u46, u47, u48, u49, u50, u51, u52, u53, u54, u55, u56, u57, u58, u59, u60, u61, u62, u63, u64, u65, u66, u67, u68, u69, u70, u71, u72, u73, u74, u75, u76, u77, u78, u79, u80, u81, u82, u83, u84, u85, u86, u87, u88, u89, u90, u91, u92, u93, u94, u95, u96, u97, u98, u99, u100, u101, u102, u103, u104, u105, u106, u107, u108, u109, u110, u111, u112, u113, u114, u115, u116, u117, u118, u119, u120], []⟩ wr := by
  conv => arg 2; whnf
  dsimp only
  have cL := hSp.cL
  have i0 := hSp.bI.cell
  have fI := hSp.bI.free
  rcases hfr with ⟨han, h46, hR⟩ | ⟨hn46, rfl⟩
  · have t1 : (d a == 46) = true := by simp [h46]
    rw [if_pos ⟨h46, han⟩] at hin
    have hab := hR.1
    have hbm := hR.2.1
    rw [show (b : Int) - (a + 1) = ((b - (a + 1) : Nat) : Int) by omega] at hin
    have e0 := hSp.cl a han
    have x0 := fun w => ix_own g p m c a w han
    have HI := Hid.mk hin
    have HR := Hid.mk hR
    have hS1 : Sp w (wr.setCell ⟨N + 3, 0, none⟩ (.int .i64 ((a : Int) + 1))) N g p m c d (a + 1) ng (.slice a1 l1 c1) (.slice none 0 0) 0 := hSp.setI (by omega)
    have HS1 := Hid.mk hS1
    clear hin h46 hR hS1
    go_upto_if 37 with fail
    go_cut [] from 9 (fun wc => ∃ o, Sp w wc N g p m c d b ng (.slice a1 l1 c1) (.slice (some ⟨g, o, none⟩) (b - (a + 1)) (c - (a + 1))) 0)
    case first =>
      go_wp2_with fail
      refine (digits_any (N + 3) N g p m c d (a + 1) _ HS1.out.bI HS1.out.cL HS1.out.cl (by omega) (by have := HS1.out.gN; omega) (by omega) hm hmc).mono ?_
      rintro e w' ⟨r, o, hr, rfl, ho, hb, hI⟩
      obtain rfl := hr.eq HR.out
      have hS2 := HS1.out.but hb hI
      have f2 := hS2.fP 2
      obtain ⟨p0, p1, p2, p3⟩ := hS2.cP
      clear hr hb
      go_wp2_with fail
      go_meet
      case rel => exact ⟨o, hS2.setP rfl⟩
    case rest =>
      obtain ⟨o, hS3⟩ := hcut
      go_step
      exact splC w wc N g p m c d b ng a1 l1 c1 (some ⟨g, o, none⟩) (b - (a + 1)) (c - (a + 1)) hS3 inb hl1 (by omega) hm hmc HI.out _ _ _ _ _ _ _ _ _ _ _ _ _ _ _ _ _ _ _ _ _ _ _ _ _ _ _ _ _ _ _ _ _ _ _ _ _ _ _ _ _ _ _ _ _ _ _ _ _ _ _ _ _ _ _ _ _ _ _ _ _ _ _ _ _ _ _ _ _ _ _ _ _ _ _ _ _ _ _ _ _ _ _ _ _ _ _ _ _ _ _ _ _ _ _ _ _ _ _ _ _ _ _ _ _ _ _ _ _ _ _ _ _ _ _ 
  · rw [if_neg (fun h => hn46 h.2 h.1)] at hin
    have HI := Hid.mk hin
    have HN := Hid.mk hn46
    clear hin hn46
    go_upto_region 8 with fail
    go_cut [37] from 9 (fun s37 wc => s37 = .bool false ∧ wr = wc)
    case first =>
      by_cases han : b < m
      · have t1 : (d b == 46) = false := by have := HN.out han; simp [this]
        have e0 := hSp.cl b han
        have x0 := fun w => ix_own g p m c b w han
        go_wp2_with fail
        go_meet
        case rel => exact ⟨rfl, rfl⟩
      · go_wp2_with fail
        go_meet
        case rel => exact ⟨rfl, rfl⟩
    case rest =>
    obtain ⟨rfl, rfl⟩ := hcut
    go_upto_if 37 with fail
    go_cut [] from 9 (fun wc => wr = wc)
    case first =>
      go_wp2_with fail
      go_meet
      case rel => exact rfl
    case rest =>
      obtain rfl := hcut
      go_step
      exact splC w wr N g p m c d b ng a1 l1 c1 none 0 0 hSp inb hl1 (by omega) hm hmc HI.out _ _ _ _ _ _ _ _ _ _ _ _ _ _ _ _ _ _ _ _ _ _ _ _ _ _ _ _ _ _ _ _ _ _ _ _ _ _ _ _ _ _ _ _ _ _ _ _ _ _ _ _ _ _ _ _ _ _ _ _ _ _ _ _ _ _ _ _ _ _ _ _ _ _ _ _ _ _ _ _ _ _ _ _ _ _ _ _ _ _ _ _ _ _ _ _ _ _ _ _ _ _ _ _ _ _ _ _ _ _ _ _ _ _ _ 

end Go.Proofs.Qxb6612943a
