import Derived.Test.Qxb6612943aN2
namespace Go.Proofs.Qxb6612943a
open Go.RowKit
open Classical
set_option linter.unusedVariables false
set_option linter.unusedSimpArgs false

set_option maxRecDepth 1000000 in
set_option maxHeartbeats 4000000 in
theorem numP1 (a : Option Addr) (n c g : Nat) (d : Nat → Int) (i : Nat) (w : World) (hT : Tx w a n c g d) (s : Nat) (hs : s = (if d i = 45 then i + 1 else i)) (hsn : s < n) (hdg : dg (d s))
    (u2 u3 u4 u5 u6 u8 u9 u10 u11 u12 u13 u14 u15 u16 u17 u18 u19 u20 u21 u22 u23 u24 u25 u26 u27 u28 u29 u30 u31 u32 u33 u34 u35 u36 u37 u38 u39 u40 u41 u42 u43 u44 u45 u46 u47 u48 u49 u50 u51 u52 u53 u54 u55 u56 u57 u58 u59 u60 u61 u62 u63 u64 u65 u66 u67 u68 u69 u70 u71 u72 u73 u74 u75 u76 u77 u78 u79 u80 u81 u82 u83 u84 u85 u86 u87 u88 u89 u90 u91 u92 u93 u94 u95 u96 u97 u98 u99 u100 u101 u102 u103 u104 u105 u106 u107 u108 u109 u110 u111 u112 u113 u114 u115 u116 u117 u118 u119 u120 u121 u122 u123 u124 u125 u126 u127 u128 u129 u130 u131 u132 u133 u134 u135 u136 u137 u138 u139 u140 u141 u142 u143 u144 u145 u146 u147 u148 u149 u150 u151 u152 u153 u154 u155 u156 u157 u158 u159 u160 u161 u162 u163 u164 u165 u166 u167 u168 u169 u170 u171 u172 u173 u174 u175 u176 u177 u178 u179 u180 u181 u182 u183 u184 u185 u186 : Value) :
    Code.wp Try.prog ((Try.f22.body.bind (tailAt 6)).getD .skip) (bodyPost Try.prog Try.f22 (NmPost n i d w)) ⟨#[.slice a n c, .int .i64 i, u2, u3, u4, u5, u6, .int .i64 s, u8, u9, u10, u11, u12, u13, u14, u15, u16, u17, u18, u19, u20, u21, u22, u23, u24, u25, u26, u27, u28, u29, u30, u31, u32, u33, u34, u35, u36, u37, u38, u39, u40, u41, u42, u43, u44, u45, u46, u47, u48, u49, u50, u51, u52, u53, u54, u55, u56, u57, u58, u59, u60, u61, u62, u63, u64, u65, u66, u67, u68, u69, u70, u71, u72, u73, u74, u75, u76, u77, u78, u79, u80, u81, u82, u83, u84, u85, u86, u87, u88, u89, u90, u91, u92, u93, u94, u95, u96, u97, u98, u99, u100, u101, u102, u103, u104, u105, u106, u107, u108, u109, u110, u111, u112, u113, u114, u115, u116, u117, u118, u119, u120, u121, u122, u123, u124, u125, u126, u127, u128, u129, u130, u131, u132, u133, u134, u135, u136, u137, u138, u139, u140, u141, u142, u143, u144, u145, u146, u147, u148, u149, u150, u151, u152, u153, u154, u155, u156, u157, u158, u159, u160, u161, u162, u163, u164, u165, u166, u167, u168, u169, u170, u171, u172, u173, u174, u175, u176, u177, u178, u179, u180, u181, u182, u183, u184, u185, u186], []⟩ w := by
  have hn := hT.big
  have x0 := hT.ix
  have e1 := hT.cl s hsn
  have HS := Hid.mk hs
  have HD := Hid.mk hdg
  clear hs hdg
  conv => arg 2; whnf
  dsimp only
  by_cases c48 : d s = 48
  · have t : (d s == 48) = true := by simp [c48]
    have HC := Hid.mk c48
    clear c48
    go_upto_if 45 with fail
    go_cut [7, 8] from 14 (fun s7 s8 wc => (∃ a' : Nat, s7 = .int .i64 a' ∧ s8 = .int .i64 ((a' : Int) - s) ∧ NA d n i s a') ∧ w = wc)
    case first =>
      go_wp2
      go_meet
      case rel => exact ⟨⟨s + 1, by go_num, by simp; omega, HS.out, by omega, by omega, fun k h1 h2 => by
          obtain rfl : k = s := by omega
          exact HD.out, fun h => absurd HC.out h, fun _ => rfl⟩, rfl⟩
    case rest =>
      obtain ⟨⟨a', rfl, rfl, hNA⟩, rfl⟩ := hcut
      go_step
      exact numP2 a n c g d i w hT s a' hNA _ _ _ _ _ _ _ _ _ _ _ _ _ _ _ _ _ _ _ _ _ _ _ _ _ _ _ _ _ _ _ _ _ _ _ _ _ _ _ _ _ _ _ _ _ _ _ _ _ _ _ _ _ _ _ _ _ _ _ _ _ _ _ _ _ _ _ _ _ _ _ _ _ _ _ _ _ _ _ _ _ _ _ _ _ _ _ _ _ _ _ _ _ _ _ _ _ _ _ _ _ _ _ _ _ _ _ _ _ _ _ _ _ _ _ _ _ _ _ _ _ _ _ _ _ _ _ _ _ _ _ _ _ _ _ _ _ _ _ _ _ _ _ _ _ _ _ _ _ _ _ _ _ _ _ _ _ _ _ _ _ _ _ _ _ _ _ _ _ _ _ _ _ _ _ _ _ _ _ _ _ _ _ 
  · have t : (d s == 48) = false := by simp [c48]
    have HC := Hid.mk c48
    clear c48
    go_upto_if 45 with fail
    go_cut [7, 8] from 14 (fun s7 s8 wc => (∃ a' : Nat, s7 = .int .i64 a' ∧ s8 = .int .i64 ((a' : Int) - s) ∧ NA d n i s a') ∧ w = wc)
    case first =>
      go_wp2_with fail
      go_loop [7, 8] (fun s7 s8 => ∃ k : Nat, s ≤ k ∧ k ≤ n ∧ s7 = .int .i64 k ∧ s8 = .int .i64 ((k : Int) - s) ∧ ∀ m, s ≤ m → m < k → dg (d m)) (fun s7 _ => n - (intOf s7).toNat)
      case atStart => exact ⟨s, Nat.le_refl _, by omega, rfl, by simp, fun m h1 h2 => by omega⟩
      case round =>
        obtain ⟨k, hk, hkn, rfl, rfl, hP⟩ := hrel
        have HP : Hid (∀ m, s ≤ m → m < k → dg (d m)) := hP
        clear hP
        by_cases hlt : k < n
        · have e2 := hT.cl k hlt
          go_wp2_with fail
          refine (isDigit_any _ _).mono ?_
          rintro e w ⟨rfl, rfl⟩
          by_cases h : dg (d k)
          · simp only [h, decide_true]
            have HK := Hid.mk h
            clear h
            go_wp2
            go_round
            case rel =>
              first
              | exact ⟨k + 1, by omega, by omega, by go_num, by congr 1; omega, RunS HP.out HK.out⟩
              | (refine ⟨trivial, ?_⟩
                 repeat apply Exists.intro
                 exact ⟨⟨k + 1, by omega, by omega, by go_num, by congr 1; omega, RunS HP.out HK.out⟩, rfl⟩)
            case measure => simp [intOf]; omega
          · simp only [h, decide_false]
            have HK := Hid.mk h
            clear h
            go_wp2
            go_meet
            case rel =>
              have hne : s ≠ k := fun e => HK.out (e ▸ HD.out)
              exact ⟨⟨k, rfl, rfl, HS.out, by omega, by omega, HP.out, fun _ => ⟨hk, hkn, HP.out, fun _ => HK.out⟩, fun h => absurd h HC.out⟩, rfl⟩
        · go_wp2
          go_meet
          case rel => exact ⟨⟨k, rfl, rfl, HS.out, by omega, by omega, HP.out, fun _ => ⟨hk, hkn, HP.out, fun h => absurd h hlt⟩, fun h => absurd h HC.out⟩, rfl⟩
    case rest =>
      obtain ⟨⟨a', rfl, rfl, hNA⟩, rfl⟩ := hcut
      go_step
      exact numP2 a n c g d i w hT s a' hNA _ _ _ _ _ _ _ _ _ _ _ _ _ _ _ _ _ _ _ _ _ _ _ _ _ _ _ _ _ _ _ _ _ _ _ _ _ _ _ _ _ _ _ _ _ _ _ _ _ _ _ _ _ _ _ _ _ _ _ _ _ _ _ _ _ _ _ _ _ _ _ _ _ _ _ _ _ _ _ _ _ _ _ _ _ _ _ _ _ _ _ _ _ _ _ _ _ _ _ _ _ _ _ _ _ _ _ _ _ _ _ _ _ _ _ _ _ _ _ _ _ _ _ _ _ _ _ _ _ _ _ _ _ _ _ _ _ _ _ _ _ _ _ _ _ _ _ _ _ _ _ _ _ _ _ _ _ _ _ _ _ _ _ _ _ _ _ _ _ _ _ _ _ _ _ _ _ _ _ _ _ _ _ 

set_option maxRecDepth 1000000 in
set_option maxHeartbeats 4000000 in
theorem number_any (a : Option Addr) (n c g : Nat) (d : Nat → Int) (i : Nat) (w : World) (hT : Tx w a n c g d) (hi : i < n) :
    Calls Try.prog 22 #[.slice a n c, .int .i64 i] w (NmPost n i d w) := by
  have hn := hT.big
  have x0 := hT.ix
  have e0 := hT.cl i hi
  go_enter Try.func22, Try.ntmps22
  go_upto_if 25 with fail
  go_cut [7] from 14 (fun s7 wc => s7 = .int .i64 (st d i : Nat) ∧ w = wc)
  case first =>
    by_cases c45 : d i = 45
    · have t : (d i == 45) = true := by simp [c45]
      go_wp2
      go_meet
      case rel => exact ⟨by simp [st, c45], rfl⟩
    · have t : (d i == 45) = false := by simp [c45]
      go_wp2
      go_meet
      case rel => exact ⟨by simp [st, c45], rfl⟩
  case rest =>
    obtain ⟨rfl, rfl⟩ := hcut
    obtain ⟨s, hs⟩ : ∃ s, s = st d i := ⟨_, rfl⟩
    have hsl : s ≤ i + 1 := by rw [hs]; unfold st; split <;> omega
    have HS : Hid (s = (if d i = 45 then i + 1 else i)) := hs
    rw [← hs]
    clear hs
    by_cases hsn : s < n
    rotate_left
    · go_wp2
      go_ret3
      exact NmPost.no _ _
    have e1 := hT.cl s hsn
    go_wp2_with fail
    refine (isDigit_any _ _).mono ?_
    rintro e w ⟨rfl, rfl⟩
    by_cases hdg : dg (d s)
    rotate_left
    · simp only [hdg, decide_false]
      go_wp2
      go_ret3
      exact NmPost.no _ _
    simp only [hdg, decide_true]
    have HD := Hid.mk hdg
    clear hdg
    go_upto_if 39 with fail
    go_cut [7] from 14 (fun s7 wc => s7 = .int .i64 s ∧ w = wc)
    case first =>
      go_wp2_with fail
      go_meet
      case rel => exact ⟨rfl, rfl⟩
    case rest =>
      obtain ⟨rfl, rfl⟩ := hcut
      go_step
      exact numP1 a n c g d i w hT s HS.out hsn HD.out _ _ _ _ _ _ _ _ _ _ _ _ _ _ _ _ _ _ _ _ _ _ _ _ _ _ _ _ _ _ _ _ _ _ _ _ _ _ _ _ _ _ _ _ _ _ _ _ _ _ _ _ _ _ _ _ _ _ _ _ _ _ _ _ _ _ _ _ _ _ _ _ _ _ _ _ _ _ _ _ _ _ _ _ _ _ _ _ _ _ _ _ _ _ _ _ _ _ _ _ _ _ _ _ _ _ _ _ _ _ _ _ _ _ _ _ _ _ _ _ _ _ _ _ _ _ _ _ _ _ _ _ _ _ _ _ _ _ _ _ _ _ _ _ _ _ _ _ _ _ _ _ _ _ _ _ _ _ _ _ _ _ _ _ _ _ _ _ _ _ _ _ _ _ _ _ _ _ _ _ _ _ _ _ 

end Go.Proofs.Qxb6612943a
