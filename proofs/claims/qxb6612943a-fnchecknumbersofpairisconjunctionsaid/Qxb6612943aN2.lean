import Derived.Test.Qxb6612943aN3
namespace Go.Proofs.Qxb6612943a
open Go.RowKit
open Classical
set_option linter.unusedVariables false
set_option linter.unusedSimpArgs false

def dot (d : Nat → Int) (n a : Nat) : Bool := decide (a < n ∧ d a = 46)

set_option maxRecDepth 1000000 in
set_option maxHeartbeats 4000000 in
theorem numP2 (a : Option Addr) (n c g : Nat) (d : Nat → Int) (i : Nat) (w : World) (hT : Tx w a n c g d) (s a' : Nat) (hNA : NA d n i s a')
    (u2 u3 u4 u5 u6 u9 u10 u11 u12 u13 u14 u15 u16 u17 u18 u19 u20 u21 u22 u23 u24 u25 u26 u27 u28 u29 u30 u31 u32 u33 u34 u35 u36 u37 u38 u39 u40 u41 u42 u43 u44 u45 u46 u47 u48 u49 u50 u51 u52 u53 u54 u55 u56 u57 u58 u59 u60 u61 u62 u63 u64 u65 u66 u67 u68 u69 u70 u71 u72 u73 u74 u75 u76 u77 u78 u79 u80 u81 u82 u83 u84 u85 u86 u87 u88 u89 u90 u91 u92 u93 u94 u95 u96 u97 u98 u99 u100 u101 u102 u103 u104 u105 u106 u107 u108 u109 u110 u111 u112 u113 u114 u115 u116 u117 u118 u119 u120 u121 u122 u123 u124 u125 u126 u127 u128 u129 u130 u131 u132 u133 u134 u135 u136 u137 u138 u139 u140 u141 u142 u143 u144 u145 u146 u147 u148 u149 u150 u151 u152 u153 u154 u155 u156 u157 u158 u159 u160 u161 u162 u163 u164 u165 u166 u167 u168 u169 u170 u171 u172 u173 u174 u175 u176 u177 u178 u179 u180 u181 u182 u183 u184 u185 u186 : Value) :
    Code.wp Try.prog ((Try.f22.body.bind (tailAt 13)).getD .skip) (bodyPost Try.prog Try.f22 (NmPost n i d w)) ⟨#[.slice a n c, .int .i64 i, u2, u3, u4, u5, u6, .int .i64 a', .int .i64 ((a' : Int) - s), u9, u10, u11, u12, u13, u14, u15, u16, u17, u18, u19, u20, u21, u22, u23, u24, u25, u26, u27, u28, u29, u30, u31, u32, u33, u34, u35, u36, u37, u38, u39, u40, u41, u42, u43, u44, u45, u46, u47, u48, u49, u50, u51, u52, u53, u54, u55, u56, u57, u58, u59, u60, u61, u62, u63, u64, u65, u66, u67, u68, u69, u70, u71, u72, u73, u74, u75, u76, u77, u78, u79, u80, u81, u82, u83, u84, u85, u86, u87, u88, u89, u90, u91, u92, u93, u94, u95, u96, u97, u98, u99, u100, u101, u102, u103, u104, u105, u106, u107, u108, u109, u110, u111, u112, u113, u114, u115, u116, u117, u118, u119, u120, u121, u122, u123, u124, u125, u126, u127, u128, u129, u130, u131, u132, u133, u134, u135, u136, u137, u138, u139, u140, u141, u142, u143, u144, u145, u146, u147, u148, u149, u150, u151, u152, u153, u154, u155, u156, u157, u158, u159, u160, u161, u162, u163, u164, u165, u166, u167, u168, u169, u170, u171, u172, u173, u174, u175, u176, u177, u178, u179, u180, u181, u182, u183, u184, u185, u186], []⟩ w := by
  have hn := hT.big
  have x0 := hT.ix
  have hsa : s < a' := hNA.2.1
  have han' : a' ≤ n := hNA.2.2.1
  have HNA := Hid.mk hNA
  clear hNA
  conv => arg 2; whnf
  dsimp only
  go_upto_region 13 with fail
  go_cut [73] from 14 (fun s73 wc => s73 = .bool (dot d n a') ∧ w = wc)
  case first =>
    by_cases han : a' < n
    · have e1 := hT.cl a' han
      by_cases c46 : d a' = 46
      · have t1 : (d a' == 46) = true := by simp [c46]
        have HX : Hid (dot d n a' = true) := by show dot d n a' = true; simp [dot, han, c46]
        clear c46
        go_wp2_with fail
        go_meet
        case rel => exact ⟨by rw [HX.out], rfl⟩
      · have t1 : (d a' == 46) = false := by simp [c46]
        have HX : Hid (dot d n a' = false) := by show dot d n a' = false; simp [dot, han, c46]
        clear c46
        go_wp2_with fail
        go_meet
        case rel => exact ⟨by rw [HX.out], rfl⟩
    · have HX : Hid (dot d n a' = false) := by show dot d n a' = false; simp [dot, han]
      go_wp2_with fail
      go_meet
      case rel => exact ⟨by rw [HX.out], rfl⟩
  case rest =>
  obtain ⟨rfl, rfl⟩ := hcut
  go_upto_if 73 with fail
  go_cut [7, 8, 9] from 14 (fun s7 s8 s9 wc => (∃ (b : Nat) (cc : Int), s7 = .int .i64 b ∧ s8 = .int .i64 cc ∧ NB d n i b cc ∧ b ≤ n ∧ 0 ≤ cc ∧ cc ≤ 1048579) ∧ w = wc)
  case first =>
    cases hdt : dot d n a' with
    | false =>
      have HX : Hid (NB d n i a' ((a' : Int) - s)) := by
        unfold dot at hdt
        simp only [decide_eq_false_iff_not] at hdt
        refine ⟨s, a', HNA.out, Nat.le_refl _, han', ?_, .inr ⟨fun h1 h2 => hdt ⟨h1, h2⟩, rfl⟩⟩
        rw [if_neg (fun h => hdt ⟨h.2, h.1⟩)]
        omega
      clear hdt
      go_wp2
      go_meet
      case rel => exact ⟨⟨a', _, rfl, rfl, HX.out, by omega, by omega, by omega⟩, rfl⟩
    | true =>
      have HX : Hid (∀ b : Nat, a' + 1 < b → Run dg d n (a' + 1) b → NB d n i b (((a' : Int) - s) + ((b : Int) - (a' + 1)))) := by
        unfold dot at hdt
        simp only [decide_eq_true_eq] at hdt
        refine fun b h1 h2 => ⟨s, a', HNA.out, by omega, h2.2.1, ?_, .inl ⟨hdt.2, hdt.1, h2, h1⟩⟩
        rw [if_pos ⟨hdt.2, hdt.1⟩]
      have han : a' < n := by unfold dot at hdt; simp only [decide_eq_true_eq] at hdt; exact hdt.1
      clear hdt
      go_wp2_with fail
      go_loop [7, 9] (fun s7 s9 => ∃ k : Nat, a' + 1 ≤ k ∧ k ≤ n ∧ s7 = .int .i64 k ∧ s9 = .int .i64 ((k : Int) - (a' + 1)) ∧ ∀ m, a' + 1 ≤ m → m < k → dg (d m)) (fun s7 _ => n - (intOf s7).toNat)
      case atStart =>
        first
        | exact ⟨a' + 1, Nat.le_refl _, by omega, by go_num, by congr 1; omega, fun m h1 h2 => by omega⟩
        | skip
      case round =>
        obtain ⟨k, hk, hkn, rfl, rfl, hP⟩ := hrel
        have HP : Hid (∀ m, a' + 1 ≤ m → m < k → dg (d m)) := hP
        clear hP
        by_cases hlt : k < n
        · have e2 := hT.cl k hlt
          go_wp2_with fail
          refine (isDigit_any _ _).mono ?_
          rintro e w' ⟨rfl, rfl⟩
          by_cases h : dg (d k)
          · simp only [h, decide_true]
            have HD := Hid.mk h
            clear h
            go_wp2
            go_round
            case rel =>
              first
              | exact ⟨k + 1, by omega, by omega, by go_num, by congr 1; omega, RunS HP.out HD.out⟩
              | (repeat apply Exists.intro
                 exact ⟨⟨k + 1, by omega, by omega, by go_num, by congr 1; omega, RunS HP.out HD.out⟩, rfl⟩)
            case measure => simp [intOf]; omega
          · simp only [h, decide_false]
            have HR : Hid (Run dg d n (a' + 1) k) := ⟨hk, hkn, HP.out, fun _ => h⟩
            clear h
            by_cases hka : k = a' + 1
            · have t1 : ((k : Int) - (a' + 1) == 0) = true := by simp; omega
              go_wp2
              go_ret3
              exact NmPost.no _ _
            · have t1 : ((k : Int) - (a' + 1) == 0) = false := by simp; omega
              go_wp2
              go_meet
              case rel => exact ⟨⟨k, _, rfl, rfl, HX.out k (by omega) HR.out, by omega, by omega, by omega⟩, rfl⟩
        · have HR : Hid (Run dg d n (a' + 1) k) := ⟨hk, hkn, HP.out, fun h => absurd h hlt⟩
          by_cases hka : k = a' + 1
          · have t1 : ((k : Int) - (a' + 1) == 0) = true := by simp; omega
            go_wp2
            go_ret3
            exact NmPost.no _ _
          · have t1 : ((k : Int) - (a' + 1) == 0) = false := by simp; omega
            go_wp2
            go_meet
            case rel => exact ⟨⟨k, _, rfl, rfl, HX.out k (by omega) HR.out, by omega, by omega, by omega⟩, rfl⟩
  case rest =>
    obtain ⟨⟨b, cc, rfl, rfl, hNB, h1, h2, h3⟩, rfl⟩ := hcut
    first
    | exact numP3 a n c g d i w hT b cc hNB h1 h2 h3 _ _ _ _ _ _ _ _ _ _ _ _ _ _ _ _ _ _ _ _ _ _ _ _ _ _ _ _ _ _ _ _ _ _ _ _ _ _ _ _ _ _ _ _ _ _ _ _ _ _ _ _ _ _ _ _ _ _ _ _ _ _ _ _ _ _ _ _ _ _ _ _ _ _ _ _ _ _ _ _ _ _ _ _ _ _ _ _ _ _ _ _ _ _ _ _ _ _ _ _ _ _ _ _ _ _ _ _ _ _ _ _ _ _ _ _ _ _ _ _ _ _ _ _ _ _ _ _ _ _ _ _ _ _ _ _ _ _ _ _ _ _ _ _ _ _ _ _ _ _ _ _ _ _ _ _ _ _ _ _ _ _ _ _ _ _ _ _ _ _ _ _ _ _ _ _ _ _ _ _ _ _ _ 
    | (go_step
       exact numP3 a n c g d i w hT b cc hNB h1 h2 h3 _ _ _ _ _ _ _ _ _ _ _ _ _ _ _ _ _ _ _ _ _ _ _ _ _ _ _ _ _ _ _ _ _ _ _ _ _ _ _ _ _ _ _ _ _ _ _ _ _ _ _ _ _ _ _ _ _ _ _ _ _ _ _ _ _ _ _ _ _ _ _ _ _ _ _ _ _ _ _ _ _ _ _ _ _ _ _ _ _ _ _ _ _ _ _ _ _ _ _ _ _ _ _ _ _ _ _ _ _ _ _ _ _ _ _ _ _ _ _ _ _ _ _ _ _ _ _ _ _ _ _ _ _ _ _ _ _ _ _ _ _ _ _ _ _ _ _ _ _ _ _ _ _ _ _ _ _ _ _ _ _ _ _ _ _ _ _ _ _ _ _ _ _ _ _ _ _ _ _ _ _ _ _ )

end Go.Proofs.Qxb6612943a
