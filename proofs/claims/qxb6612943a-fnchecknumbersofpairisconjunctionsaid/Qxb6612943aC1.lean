import Derived.Test.Qxb6612943aN1
namespace Go.Proofs.Qxb6612943a
open Go.RowKit
open Classical
set_option linter.unusedVariables false
set_option linter.unusedSimpArgs false

/-! jsonContainer, jsonValue -/
def VPost (n i : Nat) (d : Nat → Int) (w : World) (e : Ending) (w' : World) : Prop :=
  Dr w w' ∧ ∃ (e1 : Nat) (ok : Bool) (b : Int), e = .returned (.tuple #[.int .i64 e1, .bool ok, .int .i64 b]) ∧ (ok = true → i < e1 ∧ e1 ≤ n ∧ ∃ f, G d n f 0 i e1 b)
theorem VPost.no {n i : Nat} {d : Nat → Int} {w w' : World} (h : Dr w w') (j : Nat) (x : Int) : VPost n i d w (.returned (.tuple #[.int .i64 j, .bool false, .int .i64 x])) w' := ⟨h, j, false, x, rfl, fun h => by cases h⟩
theorem VPost.yes {n i : Nat} {d : Nat → Int} {w w' : World} (h : Dr w w') {j : Nat} {x : Int} (h1 : i < j) (h2 : j ≤ n) (h3 : ∃ f, G d n f 0 i j x) : VPost n i d w (.returned (.tuple #[.int .i64 j, .bool true, .int .i64 x])) w' := ⟨h, j, true, x, rfl, fun _ => ⟨h1, h2, h3⟩⟩

def comb (a b : Int) : Int := if a < 0 then b else a
theorem comb_neg {a b : Int} (h : a < 0) : comb a b = b := by simp [comb, h]
theorem comb_pos {a b : Int} (h : ¬ a < 0) : comb a b = a := by simp [comb, h]
theorem comb_assoc (a b c : Int) : comb a (comb b c) = comb (comb a b) c := by unfold comb; by_cases h : a < 0 <;> simp [h]

theorem G.lt {d : Nat → Int} {n : Nat} : ∀ {f : Nat} {t : Int} {i e : Nat} {b : Int}, G d n f t i e b → i < n
  | 0, _, _, _, _, h => h.elim
  | f + 1, t, i, e, b, h => by
    rcases h with ⟨_, h, _⟩ | ⟨_, v, e1, b1, k, hp, hv, _⟩
    · exact h
    · rcases hp with ⟨_, rfl⟩ | ⟨_, h, _⟩
      · exact hv.lt
      · exact h

/-- What the items from j on, once read, make of the container at i. -/
def Cont (d : Nat → Int) (n : Nat) (t : Int) (i j : Nat) (acc : Int) : Prop := ∀ f e b, G d n f t j e b → ∃ F, G d n F 0 i e (comb acc b)

theorem Cont.start {d : Nat → Int} {n i j : Nat} {t : Int} (hi : i < n) (ht : d i = 91 ∨ d i = 123) (hd : d i + 2 = t) (hr : Run ws d n (i + 1) j) (hne : j < n → d j ≠ t) : Cont d n t i j (-1) := by
  intro f e b h
  refine ⟨f + 1, .inl ⟨rfl, hi, .inr (.inr (.inr ⟨ht, j, hr, h.lt, .inr ⟨?_, ?_⟩⟩))⟩⟩
  · rw [hd]; exact hne h.lt
  · rw [hd]; simpa [comb] using h

theorem Cont.empty {d : Nat → Int} {n i j : Nat} {t : Int} (hi : i < n) (ht : d i = 91 ∨ d i = 123) (hd : d i + 2 = t) (hr : Run ws d n (i + 1) j) (hj : j < n) (he : d j = t) : ∃ F, G d n F 0 i (j + 1) (-1) :=
  ⟨1, .inl ⟨rfl, hi, .inr (.inr (.inr ⟨ht, j, hr, hj, .inl ⟨by rw [hd]; exact he, rfl, rfl⟩⟩))⟩⟩

theorem Cont.item {d : Nat → Int} {n i j v e1 k m : Nat} {t acc b1 : Int} (h : Cont d n t i j acc) (ht : t = 93 ∨ t = 125) (hp : Pre d n t j v) (hv : ∃ f, G d n f 0 v e1 b1) (hk : Run ws d n e1 k) (hkn : k < n) (h44 : d k = 44) (hm : Run ws d n (k + 1) m) : Cont d n t i m (comb acc b1) := by
  intro f e b hg
  obtain ⟨f0, hv⟩ := hv
  obtain ⟨F, hF⟩ := h (max f0 f + 1) e (comb b1 b) (.inr ⟨ht, v, e1, b1, k, hp, hv.mono _ (Nat.le_max_left _ _), hk, hkn, .inl ⟨h44, m, b, hm, hg.mono _ (Nat.le_max_right _ _), rfl⟩⟩)
  rw [comb_assoc] at hF
  exact ⟨F, hF⟩

theorem Cont.last {d : Nat → Int} {n i j v e1 k : Nat} {t acc b1 : Int} (h : Cont d n t i j acc) (ht : t = 93 ∨ t = 125) (hp : Pre d n t j v) (hv : ∃ f, G d n f 0 v e1 b1) (hk : Run ws d n e1 k) (hkn : k < n) (hkt : d k = t) : ∃ F, G d n F 0 i (k + 1) (comb acc b1) := by
  obtain ⟨f0, hv⟩ := hv
  exact h (f0 + 1) (k + 1) b1 (.inr ⟨ht, v, e1, b1, k, hp, hv, hk, hkn, .inr ⟨hkt, rfl, rfl⟩⟩)

theorem skipWS_succ (a : Option Addr) (n c g : Nat) (d : Nat → Int) (i : Nat) (w : World) (hT : Tx w a n c g d) (hi : i < n) :
    Calls Try.prog 14 #[.slice a n c, .int .i64 ((i : Int) + 1)] w fun e w' => w' = w ∧ ∃ r : Nat, e = .returned (.int .i64 r) ∧ Run ws d n (i + 1) r := by
  have := skipWS_any a n c g d (i + 1) w hT (by omega)
  simpa using this

theorem ndl {c : Int} (h : 97 ≤ c ∧ c ≤ 122) : ¬ dl c := by unfold dl ws; omega
theorem Num.le {d : Nat → Int} {n i e : Nat} {b : Bool} (h : Num d n i e b) : i < e ∧ e ≤ n := by
  obtain ⟨s, a, b', hs, h1, h2, h3, h4, _⟩ := h
  have : i ≤ s := by rw [hs]; split <;> omega
  omega

set_option maxRecDepth 1000000 in
set_option maxHeartbeats 4000000 in
theorem cont_arr (a : Option Addr) (n c g : Nat) (d : Nat → Int) (i : Nat) (w : World) (hT : Tx w a n c g d) (hi : i < n) (hd : d i = 91)
    (IH : ∀ j, i < j → j ≤ n → ∀ w1, Tx w1 a n c g d → Calls Try.prog 15 #[.slice a n c, .int .i64 j] w1 (VPost n j d w1)) :
    Calls Try.prog 19 #[.slice a n c, .int .i64 i] w (VPost n i d w) := by
  have hn := hT.big
  have x0 := hT.ix
  have e0 := hT.cl i hi
  have t0 : (d i == 123) = false := by simp [hd]
  have HD := Hid.mk hd
  clear hd
  go_enter Try.func19, Try.ntmps19
  go_wp2_with fail
  refine (skipWS_succ a n c g d i w hT hi).mono ?_
  rintro e w ⟨rfl, j0, rfl, hr0⟩
  have hj1 := hr0.1
  have hj2 := hr0.2.1
  have HR := Hid.mk hr0
  clear hr0
  have hgo : (j0 < n ∧ d j0 = 93) ∨ ((j0 < n → d j0 ≠ 93) ∧ (decide (j0 < n) && (d j0 == 93)) = false) := by
    by_cases h1 : j0 < n
    · by_cases h2 : d j0 = 93
      · exact .inl ⟨h1, h2⟩
      · exact .inr ⟨fun _ => h2, by simp [h2]⟩
    · exact .inr ⟨fun h => absurd h h1, by simp [h1]⟩
  rcases hgo with ⟨hjn, hcl⟩ | ⟨hncl, _⟩
  · have e1 := hT.cl j0 hjn
    have t1 : (d j0 == 93) = true := by simp [hcl]
    have HC := Hid.mk hcl
    clear hcl
    go_wp2
    go_ret3
    have := VPost.yes (Dr.refl w) (by omega) (by omega) (Cont.empty (t := 93) hi (.inl HD.out) (by rw [HD.out]; rfl) HR.out hjn HC.out)
    simpa using this
  · have hct := Cont.start (t := 93) hi (.inl HD.out) (by rw [HD.out]; rfl) HR.out hncl
    have HN := Hid.mk hncl
    clear hncl
    go_upto_region 7 with fail
    go_cut [37] from 16 (fun s37 wc => s37 = .bool false ∧ w = wc)
    case first =>
      by_cases hjn : j0 < n
      · have e1 := hT.cl j0 hjn
        have t1 : (d j0 == 93) = false := by have := HN.out hjn; simp [this]
        go_wp2_with fail
        go_meet
        case rel => exact ⟨rfl, rfl⟩
      · go_wp2_with fail
        go_meet
        case rel => exact ⟨rfl, rfl⟩
    case rest =>
    obtain ⟨rfl, rfl⟩ := hcut
    go_wp2_with fail
    go_loopw [9, 10] (fun s9 s10 wr => ∃ (j : Nat) (acc : Int), s9 = .int .i64 acc ∧ s10 = .int .i64 j ∧ i < j ∧ j ≤ n ∧ Dr w wr ∧ Cont d n 93 i j acc) (fun _ s10 _ => n - (intOf s10).toNat)
    case atStart => exact ⟨j0, -1, rfl, rfl, by omega, hj2, Dr.refl _, hct⟩
    case round =>
      obtain ⟨j, acc, rfl, rfl, hij, hjn, hD, hC⟩ := hrel
      have HCt := Hid.mk hC
      clear hC hct
      have hT0 := hT.dr hD
      have x0 := hT0.ix
      have HPre : Hid (Pre d n 93 j j) := .inl ⟨rfl, rfl⟩
      go_wp2_with fail
      refine (IH j (by omega) (by omega) wr hT0).mono ?_
      rintro e w1 ⟨hD1, e1, ok, b1, rfl, hok⟩
      have hDD := hD.trans hD1
      have hT1 := hT.dr hDD
      cases ok with
      | false =>
        go_wp2
        go_ret3
        exact VPost.no hDD _ _
      | true =>
        obtain ⟨hv1', he1n, hG⟩ := hok rfl
        have HV := Hid.mk hG
        clear hok hG
        by_cases hac : acc < 0
        · go_wp2_with fail
          refine (skipWS_any a n c g d e1 w1 hT1 he1n).mono ?_
          rintro e w1 ⟨rfl, k, rfl, hk⟩
          have hk1 := hk.1
          have hk2 := hk.2.1
          have HK := Hid.mk hk
          clear hk
          by_cases hkn : k < n
          rotate_left
          · go_wp2
            go_ret3
            exact VPost.no hDD _ _
          have e3 := hT1.cl k hkn
          by_cases c44 : d k = 44
          · have t4 : (d k == 44) = true := by simp [c44]
            have HC := Hid.mk c44
            clear c44
            go_wp2_with fail
            refine (skipWS_succ a n c g d k w1 hT1 hkn).mono ?_
            rintro e w1 ⟨rfl, m, rfl, hm⟩
            have hm1 := hm.1
            have hm2 := hm.2.1
            have HM := Hid.mk hm
            clear hm
            go_wp2
            go_roundw
            case rel => exact ⟨m, _, rfl, rfl, by omega, by omega, hDD, by have := HCt.out.item (.inl rfl) HPre.out HV.out HK.out hkn HC.out HM.out; rw [comb_neg hac] at this; exact this⟩
            case measure => simp [intOf]; omega
          · have t4 : (d k == 44) = false := by simp [c44]
            clear c44
            by_cases cE : d k = 93
            · have t5 : (d k == 93) = true := by simp [cE]
              have HC := Hid.mk cE
              clear cE
              go_wp2
              go_ret3
              have := VPost.yes (i := i) hDD (by omega) (by omega) (HCt.out.last (.inl rfl) HPre.out HV.out HK.out hkn HC.out)
              rw [comb_neg hac] at this
              simpa using this
            · have t5 : (d k == 93) = false := by simp [cE]
              clear cE
              go_wp2
              go_ret3
              exact VPost.no hDD _ _
        · go_wp2_with fail
          refine (skipWS_any a n c g d e1 w1 hT1 he1n).mono ?_
          rintro e w1 ⟨rfl, k, rfl, hk⟩
          have hk1 := hk.1
          have hk2 := hk.2.1
          have HK := Hid.mk hk
          clear hk
          by_cases hkn : k < n
          rotate_left
          · go_wp2
            go_ret3
            exact VPost.no hDD _ _
          have e3 := hT1.cl k hkn
          by_cases c44 : d k = 44
          · have t4 : (d k == 44) = true := by simp [c44]
            have HC := Hid.mk c44
            clear c44
            go_wp2_with fail
            refine (skipWS_succ a n c g d k w1 hT1 hkn).mono ?_
            rintro e w1 ⟨rfl, m, rfl, hm⟩
            have hm1 := hm.1
            have hm2 := hm.2.1
            have HM := Hid.mk hm
            clear hm
            go_wp2
            go_roundw
            case rel => exact ⟨m, _, rfl, rfl, by omega, by omega, hDD, by have := HCt.out.item (.inl rfl) HPre.out HV.out HK.out hkn HC.out HM.out; rw [comb_pos (a := acc) (by omega)] at this; exact this⟩
            case measure => simp [intOf]; omega
          · have t4 : (d k == 44) = false := by simp [c44]
            clear c44
            by_cases cE : d k = 93
            · have t5 : (d k == 93) = true := by simp [cE]
              have HC := Hid.mk cE
              clear cE
              go_wp2
              go_ret3
              have := VPost.yes (i := i) hDD (by omega) (by omega) (HCt.out.last (.inl rfl) HPre.out HV.out HK.out hkn HC.out)
              rw [comb_pos (a := acc) (by omega)] at this
              simpa using this
            · have t5 : (d k == 93) = false := by simp [cE]
              clear cE
              go_wp2
              go_ret3
              exact VPost.no hDD _ _

end Go.Proofs.Qxb6612943a
