import Derived.Test.Qxb6612943aS5
import Derived.Deep.RegionWith
import Derived.BigRegion
namespace Go.Proofs.Qxb6612943a
open Go.RowKit
set_option linter.unusedVariables false
set_option linter.unusedSimpArgs false

theorem Sp.drew {w wr : World} {N g p m c : Nat} {d : Nat → Int} {x : Nat} {ng : Bool} {v1 v2 : Value} {ex : Int} (h : Sp w wr N g p m c d x ng v1 v2 ex) : Sp w wr.drew N g p m c d x ng v1 v2 ex := ⟨h.bL, h.bR, h.bP, h.bI, h.cl, ⟨h.below.os, h.below.tape, h.below.output, h.below.size, h.below.block⟩, h.gN⟩

set_option maxRecDepth 1000000 in
set_option maxHeartbeats 4000000 in
theorem splD (w wr : World) (N g p m c : Nat) (d : Nat → Int) (x : Nat) (ng : Bool) (a1 : Option Addr) (l1 c1 : Nat) (a2 : Option Addr) (l2 c2 : Nat) (hSp : Sp w wr N g p m c d x ng (.slice a1 l1 c1) (.slice a2 l2 c2) 0) (inb : Bool) (hl1 : l1 ≤ 1048579) (hl2 : l2 ≤ 1048579) (ne : Bool) (o l cc x0 : Nat) (hl : l ≤ 1048579) (ho : 0 < l → o = p + x0) (hxl : x0 + l ≤ m) (hdg : ∀ k, k < l → dg (d (x0 + k))) (hin : inb = decide ((l1 : Int) + l2 ≤ 1000 ∧ ev d x0 l ≤ 1000))
    (u8 u9 u10 u11 u12 u13 u14 u15 u16 u17 u18 u19 u20 u21 u22 u23 u24 u25 u26 u27 u28 u29 u30 u31 u32 u33 u34 u35 u36 u37 u38 u39 u40 u41 u42 u43 u44 u45 u46 u47 u48 u49 u50 u51 u52 u53 u54 u55 u56 u57 u58 u59 u60 u61 u62 u63 u64 u65 u66 u67 u68 u69 u70 u71 u72 u73 u74 u75 u76 u77 u78 u79 u80 u81 u82 u83 u84 u85 u86 u87 u88 u89 u90 u91 u92 u93 u94 u95 u96 u97 u98 u99 u100 u101 u102 u103 u104 u105 u106 u107 u108 u109 u110 u111 u112 u113 u114 u115 u116 u117 u118 u119 u120 : Value) :
    Code.wp Try.prog ((Try.f36.body.bind (tailAt 18)).getD .skip) (bodyPost Try.prog Try.f36 (SplPost N inb w)) ⟨#[.slice (some ⟨g, p, none⟩) m c, .pointer (some ⟨N, 0, none⟩), .pointer (some ⟨N + 1, 0, none⟩), .pointer (some ⟨N + 2, 0, none⟩), .pointer (some ⟨N + 3, 0, none⟩), .func (.func 37) #[] #[.pointer (some ⟨N + 3, 0, none⟩), .pointer (some ⟨N, 0, none⟩)], .bool ne, .slice (some ⟨g, o, none⟩) l cc, u8, u9, u10, u11, u12, u13, u14, u15, u16, u17, u18, u19, u20, u21, u22, u23, u24, u25, u26, u27, u28, u29, u30, u31, u32, u33, u34, u35, u36, u37, u38, u39, u40, u41, u42, u43, u44, u45, u46, u47, u48, u49, u50, u51, u52, u53, u54, u55, u56, u57, u58, u59, u60, u61, u62, u63, u64, u65, u66, u67, u68, u69, u70, u71, u72, u73, u74, u75, u76, u77, u78, u79, u80, u81, u82, u83, u84, u85, u86, u87, u88, u89, u90, u91, u92, u93, u94, u95, u96, u97, u98, u99, u100, u101, u102, u103, u104, u105, u106, u107, u108, u109, u110, u111, u112, u113, u114, u115, u116, u117, u118, u119, u120], []⟩ wr := by
  conv => arg 2; whnf
  dsimp only
  have HI := Hid.mk hin
  have HD := Hid.mk hdg
  have HO := Hid.mk ho
  clear hin hdg ho
  go_wp2_with fail
  go_loopw [8, 99] (fun s8 s99 wx => ∃ (k : Nat) (v : Int), s99 = .int .i64 k ∧ k ≤ l ∧ Sp w wx N g p m c d x ng (.slice a1 l1 c1) (.slice a2 l2 c2) v ∧ EX d x0 k v) (fun _ s99 _ => l - (intOf s99).toNat)
  case atStart => exact ⟨0, 0, rfl, by omega, hSp, EX.zero d x0⟩
  case round =>
    obtain ⟨k, v, rfl, hkl, hSk, hE⟩ := hrel
    have HE := Hid.mk hE
    have v0 := hE.1
    have v1 := hE.2.1
    clear hE
    by_cases hlt : k < l
    · have ho := HO.out (by omega)
      have hdk := HD.out k hlt
      have d1 := hdk.1
      have d2 := hdk.2
      clear hdk
      have e0 := hSk.cl (x0 + k) (by omega)
      rw [show p + (x0 + k) = o + k by omega] at e0
      have xk := fun w => ix_own g o l cc k w hlt
      obtain ⟨p0, p1, p2, p3⟩ := hSk.cP
      have f3 := hSk.fP 3
      have HO' := Hid.mk ho
      clear ho
      go_wp2_with fail
      go_region
      go_wp2
      go_roundw
      case rel => exact ⟨k + 1, _, by go_num, by omega, (hSk.setP rfl).drew, HE.out.succ ⟨d1, d2⟩⟩
      case measure => simp [intOf]; omega
    · obtain rfl : k = l := by omega
      go_upto_if 100 with fail
      refine wp_cond_false rfl ?_
      refine wp_exit ?_
      go_step
      go_step
      go_step
      go_step
      exact splE w wr N g p m c d x ng a1 l1 c1 a2 l2 c2 v hSk inb hl1 hl2 ne v0 v1 (by rw [HI.out, decide_eq_decide, HE.out.end]) _ _ _ _ _ _ _ _ _ _ _ _ _ _ _ _ _ _ _ _ _ _ _ _ _ _ _ _ _ _ _ _ _ _ _ _ _ _ _ _ _ _ _ _ _ _ _ _ _ _ _ _ _ _ _ _ _ _ _ _ _ _ _ _ _ _ _ _ _ _ _ _ _ _ _ _ _ _ _ _ _ _ _ _ _ _ _ _ _ _ _ _ _ _ _ _ _ _ _ _ _ _ _ _ _ _ _ _ _ _ _ _ _ _ 

end Go.Proofs.Qxb6612943a
