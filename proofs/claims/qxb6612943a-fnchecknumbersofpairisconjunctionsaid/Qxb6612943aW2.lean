import Derived.Test.Qxb6612943aW1
import Derived.Deep.CutRange
import Derived.OwnWalk
namespace Go.Proofs.Qxb6612943a
open Go.RowKit
open Classical
set_option linter.unusedVariables false
set_option linter.unusedSimpArgs false

theorem Tx.dr {w w' : World} {a : Option Addr} {n c g : Nat} {d : Nat → Int} (h : Tx w a n c g d) (hd : Dr w w') : Tx w' a n c g d := by
  obtain ⟨q, rfl⟩ := hd
  exact ⟨h.ix, h.cl, h.lo, h.hi, h.big⟩

/-! jsonWord -/
def WdPost (n i : Nat) (d : Nat → Int) (w : World) (e : Ending) (w' : World) : Prop :=
  Dr w w' ∧ ∃ (e1 : Nat) (ok : Bool), e = .returned (.tuple #[.int .i64 e1, .bool ok, .int .i64 (-1)]) ∧ (ok = true → i < e1 ∧ e1 ≤ n ∧ ∀ k, i ≤ k → k < e1 → 97 ≤ d k ∧ d k ≤ 122)

theorem WdPost.no {n i : Nat} {d : Nat → Int} {w w' : World} (h : Dr w w') (j : Nat) : WdPost n i d w (.returned (.tuple #[.int .i64 j, .bool false, .int .i64 (-1)])) w' := ⟨h, j, false, rfl, fun h => by cases h⟩
theorem WdPost.yes {n i : Nat} {d : Nat → Int} {w w' : World} (h : Dr w w') {j : Nat} (h1 : i < j) (h2 : j ≤ n) (h3 : ∀ k, i ≤ k → k < j → 97 ≤ d k ∧ d k ≤ 122) : WdPost n i d w (.returned (.tuple #[.int .i64 j, .bool true, .int .i64 (-1)])) w' := ⟨h, j, true, rfl, fun _ => ⟨h1, h2, h3⟩⟩

set_option maxHeartbeats 1000000 in
theorem word_gen (a : Option Addr) (n c g : Nat) (d : Nat → Int) (i : Nat) (w : World) (hT : Tx w a n c g d) (hi : i < n) (s : ByteArray) (L : Nat) (wd : Nat → Int) (hL0 : 0 < L) (hL : L ≤ 5) (hs : s.size = L)
    (hwd : ∀ k, k < L → 97 ≤ wd k ∧ wd k ≤ 122)
    (ixs : ∀ (k : Nat) (w' : World), k < L → (Instr.index 9 (.string s) (.int .i64 (k : Int))).run Try.prog w' = .ok (.int .u8 (wd k)) w') :
    Calls Try.prog 23 #[.slice a n c, .int .i64 i, .string s] w (WdPost n i d w) := by
  have hn := hT.big
  by_cases hsh : n - i < L
  · go_enter Try.func23, Try.ntmps23
    go_wp2
    go_ret3
    exact WdPost.no (Dr.refl _) _
  have x0 := hT.ix
  go_enter Try.func23, Try.ntmps23
  go_wp2_with fail
  go_loopw [9] (fun i' wr => ∃ k : Nat, k ≤ L ∧ i' = .int .i64 k ∧ Dr w wr ∧ ∀ m, m < k → d (i + m) = wd m) (fun i' _ => L - (intOf i').toNat)
  case atStart => exact ⟨0, by omega, rfl, Dr.refl _, fun m h1 => by omega⟩
  case round =>
    obtain ⟨k, hk, rfl, hD, hP⟩ := hrel
    by_cases hlt : k < L
    · have e0 := (hT.dr hD).cl (i + k) (by omega)
      have x1 := fun w' => hT.ix (i + k) w' (by omega)
      have x2 := fun w' => ixs k w' hlt
      simp only [Int.natCast_add] at x1
      by_cases h : d (i + k) = wd k
      · have h' : (d (i + k) == wd k) = true := by simp [h]
        go_wp2_with fail
        go_quiet (fail)
        go_wp2
        go_roundw
        case rel => exact ⟨k + 1, by omega, by go_num, by first | exact hD.drewN _ | exact hD, fun m h1 => by
          by_cases e : m = k
          · subst e; exact h
          · exact hP m (by omega)⟩
        case measure => simp [intOf]; omega
      · have h' : (d (i + k) == wd k) = false := by simp [h]
        go_wp2_with fail
        go_quiet (fail)
        go_wp2
        go_ret3
        exact WdPost.no (by first | exact hD.drewN _ | exact hD) _
    · obtain rfl : L = k := by omega
      have hf : i + s.size ≤ n := by omega
      go_wp2
      go_ret3
      have := WdPost.yes (n := n) (i := i) (d := d) hD (j := i + L) (by omega) (by omega) (fun k h1 h2 => by
        have := hP (k - i) (by omega)
        rw [show i + (k - i) = k by omega] at this
        rw [this]; exact hwd _ (by omega))
      simpa [hs] using this

theorem word_true (a : Option Addr) (n c g : Nat) (d : Nat → Int) (i : Nat) (w : World) (hT : Tx w a n c g d) (hi : i < n) :
    Calls Try.prog 23 #[.slice a n c, .int .i64 i, .string ⟨#[116, 114, 117, 101]⟩] w (WdPost n i d w) := by
  refine word_gen a n c g d i w hT hi ⟨#[116, 114, 117, 101]⟩ 4 (fun k => if k = 0 then 116 else if k = 1 then 114 else if k = 2 then 117 else 101) (by omega) (by omega) rfl (fun k hk => ?_) (fun k w' hk => ?_)
  all_goals
    rcases (by omega : k = 0 ∨ k = 1 ∨ k = 2 ∨ k = 3) with rfl | rfl | rfl | rfl <;> first | (simp; done) | rfl

theorem word_null (a : Option Addr) (n c g : Nat) (d : Nat → Int) (i : Nat) (w : World) (hT : Tx w a n c g d) (hi : i < n) :
    Calls Try.prog 23 #[.slice a n c, .int .i64 i, .string ⟨#[110, 117, 108, 108]⟩] w (WdPost n i d w) := by
  refine word_gen a n c g d i w hT hi ⟨#[110, 117, 108, 108]⟩ 4 (fun k => if k = 0 then 110 else if k = 1 then 117 else 108) (by omega) (by omega) rfl (fun k hk => ?_) (fun k w' hk => ?_)
  all_goals
    rcases (by omega : k = 0 ∨ k = 1 ∨ k = 2 ∨ k = 3) with rfl | rfl | rfl | rfl <;> first | (simp; done) | rfl

theorem word_false (a : Option Addr) (n c g : Nat) (d : Nat → Int) (i : Nat) (w : World) (hT : Tx w a n c g d) (hi : i < n) :
    Calls Try.prog 23 #[.slice a n c, .int .i64 i, .string ⟨#[102, 97, 108, 115, 101]⟩] w (WdPost n i d w) := by
  refine word_gen a n c g d i w hT hi ⟨#[102, 97, 108, 115, 101]⟩ 5 (fun k => if k = 0 then 102 else if k = 1 then 97 else if k = 2 then 108 else if k = 3 then 115 else 101) (by omega) (by omega) rfl (fun k hk => ?_) (fun k w' hk => ?_)
  all_goals
    rcases (by omega : k = 0 ∨ k = 1 ∨ k = 2 ∨ k = 3 ∨ k = 4) with rfl | rfl | rfl | rfl | rfl <;> first | (simp; done) | rfl

/-! jsonString -/
def StPost (n i : Nat) (d : Nat → Int) (w : World) (e : Ending) (w' : World) : Prop :=
  w' = w ∧ ∃ (e1 : Nat) (ok : Bool), e = .returned (.tuple #[.int .i64 e1, .bool ok]) ∧ (ok = true → ∃ f, Q d n f (i + 1) e1)
theorem StPost.no {n i : Nat} {d : Nat → Int} {w : World} (j : Nat) : StPost n i d w (.returned (.tuple #[.int .i64 j, .bool false])) w := ⟨rfl, j, false, rfl, fun h => by cases h⟩

theorem hx_q {c : Int} (h : hx c) : c ≠ 34 ∧ c ≠ 92 := by unfold hx dg at h; omega

theorem Q.hex {d : Nat → Int} {n f j e : Nat} (h : j + 5 < n) (h0 : d j = 92) (h2 : hx (d (j + 2))) (h3 : hx (d (j + 3))) (h4 : hx (d (j + 4))) (h5 : hx (d (j + 5))) (hq : Q d n f (j + 6) e) : Q d n (f + 5) j e :=
  ⟨by omega, .inr (.inl ⟨h0, by omega, .inr (.inr ⟨(hx_q h2).1, (hx_q h2).2, by omega, .inr (.inr ⟨(hx_q h3).1, (hx_q h3).2, by omega, .inr (.inr ⟨(hx_q h4).1, (hx_q h4).2, by omega, .inr (.inr ⟨(hx_q h5).1, (hx_q h5).2, hq⟩)⟩)⟩)⟩)⟩)⟩

set_option maxRecDepth 100000 in
set_option maxHeartbeats 2000000 in
theorem string_any (a : Option Addr) (n c g : Nat) (d : Nat → Int) (i : Nat) (w : World) (hT : Tx w a n c g d) (hi : i < n) :
    Calls Try.prog 20 #[.slice a n c, .int .i64 i] w (StPost n i d w) := by
  have hn := hT.big
  have x0 := hT.ix
  go_enter Try.func20, Try.ntmps20
  go_wp2_with fail
  go_loop [6] (fun i' => ∃ j : Nat, j ≤ n ∧ i' = .int .i64 j ∧ ∀ e f, Q d n f j e → ∃ F, Q d n F (i + 1) e) (fun i' => n - (intOf i').toNat)
  case atStart => exact ⟨i + 1, by omega, by go_num, fun e f h => ⟨f, h⟩⟩
  case round =>
    obtain ⟨j, hj, rfl, hP⟩ := hrel
    by_cases hlt : j < n
    rotate_left
    · obtain rfl : n = j := by omega
      go_wp2
      go_ret2
      exact StPost.no _
    have HP : Hid (∀ e f, Q d n f j e → ∃ F, Q d n F (i + 1) e) := hP
    clear hP
    have e0 := hT.cl j hlt
    by_cases c34 : d j = 34
    · have t0 : (d j == 34) = true := by simp [c34]
      go_wp2
      go_ret2
      exact ⟨rfl, j + 1, true, by simp, fun _ => HP.out _ 1 ⟨hlt, .inl ⟨c34, rfl⟩⟩⟩
    have t0 : (d j == 34) = false := by simp [c34]
    by_cases c32 : d j < 32
    · go_wp2
      go_ret2
      exact StPost.no _
    by_cases c92 : d j = 92
    rotate_left
    · have t1 : (d j == 92) = false := by simp [c92]
      go_wp2
      go_round
      case rel => exact ⟨j + 1, by omega, by go_num, fun e f h => HP.out e (f + 1) ⟨hlt, .inr (.inr ⟨c34, c92, h⟩)⟩⟩
      case measure => simp [intOf]; omega
    have t1 : (d j == 92) = true := by simp [c92]
    by_cases hj1 : j + 1 < n
    rotate_left
    · go_wp2
      go_ret2
      exact StPost.no _
    have e1 := hT.cl (j + 1) hj1
    have x1 := fun w' => hT.ix (j + 1) w' hj1
    simp only [Int.natCast_add, Int.cast_ofNat_Int] at x1
    by_cases c117 : d (j + 1) = 117
    · have t2 : (d (j + 1) == 117) = true := by simp [c117]
      by_cases hj5 : j + 5 < n
      rotate_left
      · go_wp2
        go_ret2
        exact StPost.no _
      have e2 := hT.cl (j + 2) (by omega)
      have x2 := fun w' => hT.ix (j + 2) w' (by omega)
      have e3 := hT.cl (j + 3) (by omega)
      have x3 := fun w' => hT.ix (j + 3) w' (by omega)
      have e4 := hT.cl (j + 4) (by omega)
      have x4 := fun w' => hT.ix (j + 4) w' (by omega)
      have e5 := hT.cl (j + 5) (by omega)
      have x5 := fun w' => hT.ix (j + 5) w' (by omega)
      simp only [Int.natCast_add, Int.cast_ofNat_Int] at x2 x3 x4 x5
      go_wp2_with fail
      refine (isHex_any _ _).mono ?_
      rintro e w' ⟨rfl, rfl⟩
      by_cases h2 : hx (d (j + 2))
      rotate_left
      · simp only [h2, decide_false]
        go_wp2
        go_ret2
        exact StPost.no _
      simp only [h2, decide_true]
      go_wp2_with fail
      refine (isHex_any _ _).mono ?_
      rintro e w' ⟨rfl, rfl⟩
      by_cases h3 : hx (d (j + 3))
      rotate_left
      · simp only [h3, decide_false]
        go_wp2
        go_ret2
        exact StPost.no _
      simp only [h3, decide_true]
      go_wp2_with fail
      refine (isHex_any _ _).mono ?_
      rintro e w' ⟨rfl, rfl⟩
      by_cases h4 : hx (d (j + 4))
      rotate_left
      · simp only [h4, decide_false]
        go_wp2
        go_ret2
        exact StPost.no _
      simp only [h4, decide_true]
      go_wp2_with fail
      refine (isHex_any _ _).mono ?_
      rintro e w' ⟨rfl, rfl⟩
      by_cases h5 : hx (d (j + 5))
      rotate_left
      · simp only [h5, decide_false]
        go_wp2
        go_ret2
        exact StPost.no _
      simp only [h5, decide_true]
      go_wp2
      go_round
      case rel => exact ⟨j + 6, by omega, by go_num, fun e f h => HP.out e (f + 5) (Q.hex hj5 c92 h2 h3 h4 h5 h)⟩
      case measure => simp [intOf]; omega
    · have t2 : (d (j + 1) == 117) = false := by simp [c117]
      go_wp2
      all_goals first
        | (go_ret2; exact StPost.no _)
        | skip
      all_goals
        go_round
        case rel => exact ⟨j + 2, by omega, by go_num, fun e f h => HP.out e (f + 1) ⟨hlt, .inr (.inl ⟨c92, h⟩)⟩⟩
        case measure => simp [intOf]; omega

end Go.Proofs.Qxb6612943a
