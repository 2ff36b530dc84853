import Derived.Test.Qxb6612943aW3
namespace Go.Proofs.Qxb6612943a
open Go.RowKit
open Classical
set_option linter.unusedVariables false
set_option linter.unusedSimpArgs false


theorem Hid.mk {p : Prop} (h : p) : Hid p := h
theorem SV.same' {d : Nat → Int} {x j : Nat} {val : Int} (h : SV d x (j - x) 0 val) (hx : x ≤ j) (hd : d j = 48) : SV d x (j + 1 - x) 0 val := by
  rw [show j + 1 - x = (j - x) + 1 by omega]
  exact h.same (by rw [show x + (j - x) = j by omega]; exact hd)
theorem SV.more' {d : Nat → Int} {x j : Nat} {sig val : Int} (h : SV d x (j - x) sig val) (hx : x ≤ j) (hd : dg (d j)) (hs : 0 < sig ∨ d j ≠ 48) (h4 : sig + 1 ≤ 4) : SV d x (j + 1 - x) (sig + 1) (val * 10 + (d j - 48)) := by
  rw [show j + 1 - x = (j - x) + 1 by omega]
  have e : x + (j - x) = j := by omega
  have := h.more (by rw [e]; exact hd) (by rw [e]; exact hs) h4
  rw [e] at this
  exact this
theorem SV.over' {d : Nat → Int} {x j : Nat} {sig val : Int} (h : SV d x (j - x) sig val) (hx : x ≤ j) (hd : dg (d j)) (h4 : 4 < sig + 1) : SV d x (j + 1 - x) (sig + 1) val := by
  rw [show j + 1 - x = (j - x) + 1 by omega]
  exact h.over (by rw [show x + (j - x) = j by omega]; exact hd) h4
theorem SV.bounds {d : Nat → Int} {x k : Nat} {sig val : Int} (h : SV d x k sig val) : 0 ≤ sig ∧ sig ≤ k ∧ 0 ≤ val ∧ val ≤ 9999 := ⟨h.1, h.2.1, h.2.2.1, h.2.2.2.1⟩

def startsAt (id : Nat) : Code → Bool
  | .region i _ _ => i == id
  | .seq a _ => startsAt id a
  | _ => false
/-- What is left of a body from region id on. -/
def tailAt (id : Nat) : Code → Option Code
  | .seq a b => if startsAt id a = true then some (.seq a b) else tailAt id b
  | _ => none

theorem RunS {d : Nat → Int} {x j : Nat} (h : ∀ m, x ≤ m → m < j → dg (d m)) (hj : dg (d j)) : ∀ m, x ≤ m → m < j + 1 → dg (d m) := fun m h1 h2 => by
  by_cases e : m = j
  · subst e; exact hj
  · exact h m h1 (by omega)

def sgn (d : Nat → Int) (n b : Nat) : Bool := decide (b + 1 < n ∧ (d (b + 1) = 43 ∨ d (b + 1) = 45))

theorem xs_le {d : Nat → Int} {n b : Nat} (h : b < n) : xs d n b ≤ n ∧ b < xs d n b := by unfold xs; split <;> omega

/-- The loop over the exponent's digits: at j. -/
def Ex (d : Nat → Int) (n x j : Nat) (sig val : Int) : Prop := x ≤ j ∧ j ≤ n ∧ (∀ m, x ≤ m → m < j → dg (d m)) ∧ SV d x (j - x) sig val

theorem NB.fin {d : Nat → Int} {n i b e : Nat} {c sig val : Int} (h : NB d n i b c) (hb : b < n) (hx : d b = 101 ∨ d b = 69) (he : Ex d n (xs d n b) e sig val) (hr : e < n → ¬ dg (d e)) (hl : e ≠ xs d n b) (inb : Bool)
    (hi : (inb = false ∧ (4 < sig ∨ 1000 < val)) ∨ (inb = decide (c ≤ 1000) ∧ sig ≤ 4 ∧ val ≤ 1000)) : Num d n i e inb := by
  obtain ⟨h1, h2, h3, h4⟩ := he
  refine h.exp hb hx ⟨h1, h2, h3, hr⟩ (by omega) inb ?_
  have := h4.end
  rcases hi with ⟨rfl, hs⟩ | ⟨rfl, hs, hv⟩
  · have := this.1 hs
    simp [this]
  · have : ev d (xs d n b) (e - xs d n b) ≤ 1000 := by
      rcases Int.lt_or_le 1000 (ev d (xs d n b) (e - xs d n b)) with h' | h'
      · have := this.2 (by omega); omega
      · exact h'
    simp [this]

set_option maxRecDepth 1000000 in
set_option maxHeartbeats 4000000 in
theorem numP3 (a : Option Addr) (n c g : Nat) (d : Nat → Int) (i : Nat) (w : World) (hT : Tx w a n c g d) (b : Nat) (cc : Int) (hNB : NB d n i b cc) (hbl : b ≤ n) (hc0 : 0 ≤ cc) (hc1 : cc ≤ 1048579)
    (u2 u3 u4 u5 u6 u9 u10 u11 u12 u13 u14 u15 u16 u17 u18 u19 u20 u21 u22 u23 u24 u25 u26 u27 u28 u29 u30 u31 u32 u33 u34 u35 u36 u37 u38 u39 u40 u41 u42 u43 u44 u45 u46 u47 u48 u49 u50 u51 u52 u53 u54 u55 u56 u57 u58 u59 u60 u61 u62 u63 u64 u65 u66 u67 u68 u69 u70 u71 u72 u73 u74 u75 u76 u77 u78 u79 u80 u81 u82 u83 u84 u85 u86 u87 u88 u89 u90 u91 u92 u93 u94 u95 u96 u97 u98 u99 u100 u101 u102 u103 u104 u105 u106 u107 u108 u109 u110 u111 u112 u113 u114 u115 u116 u117 u118 u119 u120 u121 u122 u123 u124 u125 u126 u127 u128 u129 u130 u131 u132 u133 u134 u135 u136 u137 u138 u139 u140 u141 u142 u143 u144 u145 u146 u147 u148 u149 u150 u151 u152 u153 u154 u155 u156 u157 u158 u159 u160 u161 u162 u163 u164 u165 u166 u167 u168 u169 u170 u171 u172 u173 u174 u175 u176 u177 u178 u179 u180 u181 u182 u183 u184 u185 u186 : Value) :
    Code.wp Try.prog ((Try.f22.body.bind (tailAt 22)).getD .skip) (bodyPost Try.prog Try.f22 (NmPost n i d w)) ⟨#[.slice a n c, .int .i64 i, u2, u3, u4, u5, u6, .int .i64 b, .int .i64 cc, u9, u10, u11, u12, u13, u14, u15, u16, u17, u18, u19, u20, u21, u22, u23, u24, u25, u26, u27, u28, u29, u30, u31, u32, u33, u34, u35, u36, u37, u38, u39, u40, u41, u42, u43, u44, u45, u46, u47, u48, u49, u50, u51, u52, u53, u54, u55, u56, u57, u58, u59, u60, u61, u62, u63, u64, u65, u66, u67, u68, u69, u70, u71, u72, u73, u74, u75, u76, u77, u78, u79, u80, u81, u82, u83, u84, u85, u86, u87, u88, u89, u90, u91, u92, u93, u94, u95, u96, u97, u98, u99, u100, u101, u102, u103, u104, u105, u106, u107, u108, u109, u110, u111, u112, u113, u114, u115, u116, u117, u118, u119, u120, u121, u122, u123, u124, u125, u126, u127, u128, u129, u130, u131, u132, u133, u134, u135, u136, u137, u138, u139, u140, u141, u142, u143, u144, u145, u146, u147, u148, u149, u150, u151, u152, u153, u154, u155, u156, u157, u158, u159, u160, u161, u162, u163, u164, u165, u166, u167, u168, u169, u170, u171, u172, u173, u174, u175, u176, u177, u178, u179, u180, u181, u182, u183, u184, u185, u186], []⟩ w := by
  have hn := hT.big
  have x0 := hT.ix
  have HNB : Hid (NB d n i b cc) := hNB
  clear hNB
  conv => arg 2; whnf
  by_cases hbn : b < n
  rotate_left
  · go_wp2
    go_ret3
    exact ⟨rfl, b, true, _, rfl, fun _ => HNB.out.plain (fun h => absurd h hbn)⟩
  have e1 := hT.cl b hbn
  by_cases hE : d b = 101 ∨ d b = 69
  rotate_left
  · have t1 : (d b == 101) = false := by simp; intro h; exact hE (.inl h)
    have t2 : (d b == 69) = false := by simp; intro h; exact hE (.inr h)
    have HE := Hid.mk hE
    clear hE
    go_wp2
    go_ret3
    exact ⟨rfl, b, true, _, rfl, fun _ => HNB.out.plain (fun _ => ⟨fun h => HE.out (.inl h), fun h => HE.out (.inr h)⟩)⟩
  have HE := Hid.mk hE
  clear hE
  go_upto_region 23 with fail
  go_cut [116] from 14 (fun s116 wc => s116 = .bool true ∧ w = wc)
  case first =>
    by_cases c101 : d b = 101
    · have t1 : (d b == 101) = true := by simp [c101]
      go_wp2_with fail
      go_meet
      case rel => exact ⟨rfl, rfl⟩
    · have t1 : (d b == 101) = false := by simp [c101]
      have t2 : (d b == 69) = true := by
        rcases HE.out with h | h
        · exact absurd h c101
        · simp [h]
      go_wp2_with fail
      go_meet
      case rel => exact ⟨rfl, rfl⟩
  case rest =>
    obtain ⟨rfl, rfl⟩ := hcut
    go_upto_region 25 with fail
    go_cut [136] from 14 (fun s136 wc => s136 = .bool (sgn d n b) ∧ w = wc)
    case first =>
      by_cases hb1 : b + 1 < n
      · have e2 := hT.cl (b + 1) hb1
        have x1 := fun w' => hT.ix (b + 1) w' hb1
        simp only [Int.natCast_add, Int.cast_ofNat_Int] at x1
        by_cases c43 : d (b + 1) = 43
        · have t1 : (d (b + 1) == 43) = true := by simp [c43]
          have HX : Hid (sgn d n b = true) := by show sgn d n b = true; simp [sgn, hb1, c43]
          clear c43
          go_wp2_with fail
          go_meet
          case rel => exact ⟨by rw [HX.out], rfl⟩
        · have t1 : (d (b + 1) == 43) = false := by simp [c43]
          by_cases c45 : d (b + 1) = 45
          · have t2 : (d (b + 1) == 45) = true := by simp [c45]
            have HX : Hid (sgn d n b = true) := by show sgn d n b = true; simp [sgn, hb1, c45]
            clear c43 c45
            go_wp2_with fail
            go_meet
            case rel => exact ⟨by rw [HX.out], rfl⟩
          · have t2 : (d (b + 1) == 45) = false := by simp [c45]
            have HX : Hid (sgn d n b = false) := by show sgn d n b = false; simp [sgn, hb1, c43, c45]
            clear c43 c45
            go_wp2_with fail
            go_meet
            case rel => exact ⟨by rw [HX.out], rfl⟩
      · have HX : Hid (sgn d n b = false) := by show sgn d n b = false; simp [sgn, hb1]
        go_wp2_with fail
        go_meet
        case rel => exact ⟨by rw [HX.out], rfl⟩
    case rest =>
    obtain ⟨rfl, rfl⟩ := hcut
    go_upto_if 136 with fail
    go_cut [7] from 14 (fun s7 wc => s7 = .int .i64 (xs d n b : Nat) ∧ w = wc)
    case first =>
      cases hsg : sgn d n b with
      | true =>
        have HX : Hid (xs d n b = b + 2) := by
          show xs d n b = b + 2
          unfold sgn at hsg
          simp only [decide_eq_true_eq] at hsg
          unfold xs
          rw [if_pos hsg]
        clear hsg
        go_wp2
        go_meet
        case rel => exact ⟨by rw [HX.out]; go_num, rfl⟩
      | false =>
        have HX : Hid (xs d n b = b + 1) := by
          show xs d n b = b + 1
          unfold sgn at hsg
          simp only [decide_eq_false_iff_not] at hsg
          unfold xs
          rw [if_neg hsg]
        clear hsg
        go_wp2
        go_meet
        case rel => exact ⟨by rw [HX.out]; go_num, rfl⟩
    case rest =>
      obtain ⟨rfl, rfl⟩ := hcut
      have hxl := (xs_le (d := d) hbn).1
      have hfin := fun e sig val h1 h2 h3 inb h4 => HNB.out.fin hbn HE.out (e := e) (sig := sig) (val := val) h1 h2 h3 inb h4
      have HF := Hid.mk hfin
      clear hfin HE
      obtain ⟨x, hx⟩ : ∃ x, x = xs d n b := ⟨_, rfl⟩
      rw [← hx] at HF hxl ⊢
      clear hx
      go_wp2_with fail
      go_loop [7, 11, 12, 13] (fun s7 s11 s12 s13 => ∃ (j : Nat) (sig val : Int), s7 = .int .i64 j ∧ s11 = .int .i64 ((j : Int) - x) ∧ s12 = .int .i64 sig ∧ s13 = .int .i64 val ∧ Ex d n x j sig val) (fun s7 _ _ _ => n - (intOf s7).toNat)
      case atStart => exact ⟨x, 0, 0, rfl, by simp, rfl, rfl, Nat.le_refl _, hxl, fun m h1 h2 => by omega, by simpa using SV.zero d x⟩
      case round =>
        obtain ⟨j, sig, val, rfl, rfl, rfl, rfl, hX⟩ := hrel
        obtain ⟨hxj, hjn, hP, hSV⟩ := hX
        have HP := Hid.mk (And.intro hP hSV)
        obtain ⟨b1, b2, b3, b4⟩ := hSV.bounds
        clear hP hSV
        by_cases hlt : j < n
        · have e3 := hT.cl j hlt
          go_wp2_with fail
          refine (isDigit_any _ _).mono ?_
          rintro e w' ⟨rfl, rfl⟩
          by_cases h : dg (d j)
          · simp only [h, decide_true]
            have hd1 := h.1
            have hd2 := h.2
            have HD := Hid.mk h
            clear h
            by_cases hs : 0 < sig
            · by_cases h4 : sig + 1 ≤ 4
              · go_wp2
                go_round
                case rel =>
                  exact ⟨j + 1, sig + 1, val * 10 + (d j - 48), by go_num, by congr 1; omega, rfl, rfl, by omega, by omega, RunS HP.out.1 HD.out, HP.out.2.more' hxj HD.out (.inl hs) h4⟩
                case measure => simp [intOf]; omega
              · go_wp2
                go_round
                case rel =>
                  exact ⟨j + 1, sig + 1, val, by go_num, by congr 1; omega, rfl, rfl, by omega, by omega, RunS HP.out.1 HD.out, HP.out.2.over' hxj HD.out (by omega)⟩
                case measure => simp [intOf]; omega
            · obtain rfl : sig = 0 := by omega
              by_cases c48 : d j = 48
              · have t1 : (d j == 48) = true := by simp [c48]
                have HC := Hid.mk c48
                clear c48
                go_wp2
                go_round
                case rel =>
                  exact ⟨j + 1, 0, val, by go_num, by congr 1; omega, rfl, rfl, by omega, by omega, RunS HP.out.1 HD.out, HP.out.2.same' hxj HC.out⟩
                case measure => simp [intOf]; omega
              · have t1 : (d j == 48) = false := by simp [c48]
                have HC := Hid.mk c48
                clear c48
                go_wp2
                go_round
                case rel =>
                  exact ⟨j + 1, 1, val * 10 + (d j - 48), by go_num, by congr 1; omega, rfl, rfl, by omega, by omega, RunS HP.out.1 HD.out, HP.out.2.more' hxj HD.out (.inr HC.out) (by omega)⟩
                case measure => simp [intOf]; omega
          · simp only [h, decide_false]
            have HE : Hid (Ex d n x j sig val ∧ (j < n → ¬ dg (d j))) := ⟨⟨hxj, hjn, HP.out.1, HP.out.2⟩, fun _ => h⟩
            clear h HP
            by_cases hjx : j = x
            · obtain rfl := hjx
              go_wp2
              go_ret3
              exact NmPost.no _ _
            · have t1 : ((j : Int) - x == 0) = false := by simp; omega
              by_cases s4 : 4 < sig
              · go_wp2
                go_ret3
                exact ⟨rfl, j, true, false, rfl, fun _ => HF.out j sig val HE.out.1 HE.out.2 hjx false (.inl ⟨rfl, .inl s4⟩)⟩
              · by_cases v1 : 1000 < val
                · go_wp2
                  go_ret3
                  exact ⟨rfl, j, true, false, rfl, fun _ => HF.out j sig val HE.out.1 HE.out.2 hjx false (.inl ⟨rfl, .inr v1⟩)⟩
                · go_wp2
                  go_ret3
                  exact ⟨rfl, j, true, _, rfl, fun _ => HF.out j sig val HE.out.1 HE.out.2 hjx _ (.inr ⟨rfl, by omega, by omega⟩)⟩
        · have HE : Hid (Ex d n x j sig val ∧ (j < n → ¬ dg (d j))) := ⟨⟨hxj, hjn, HP.out.1, HP.out.2⟩, fun h => absurd h hlt⟩
          clear HP
          by_cases hjx : j = x
          · obtain rfl := hjx
            go_wp2
            go_ret3
            exact NmPost.no _ _
          · have t1 : ((j : Int) - x == 0) = false := by simp; omega
            by_cases s4 : 4 < sig
            · go_wp2
              go_ret3
              exact ⟨rfl, j, true, false, rfl, fun _ => HF.out j sig val HE.out.1 HE.out.2 hjx false (.inl ⟨rfl, .inl s4⟩)⟩
            · by_cases v1 : 1000 < val
              · go_wp2
                go_ret3
                exact ⟨rfl, j, true, false, rfl, fun _ => HF.out j sig val HE.out.1 HE.out.2 hjx false (.inl ⟨rfl, .inr v1⟩)⟩
              · go_wp2
                go_ret3
                exact ⟨rfl, j, true, _, rfl, fun _ => HF.out j sig val HE.out.1 HE.out.2 hjx _ (.inr ⟨rfl, by omega, by omega⟩)⟩

end Go.Proofs.Qxb6612943a
