import Derived.Test.Qxb6612943aS3
import Derived.Test.Qxb6612943aP2
namespace Go.Proofs.Qxb6612943a
open Go.RowKit
set_option linter.unusedVariables false
set_option linter.unusedSimpArgs false

/-! splitNumber's closure 'digits' -/
def At0 (w : World) (I : Nat) (x : Nat) : Prop := w.heap[I]? = some (.cells #[.int .i64 (x : Int)] 3 (0, 0))
theorem At0.cell {w : World} {I x : Nat} (h : At0 w I x) : w.cell? ⟨I, 0, none⟩ = some (.int .i64 x) := cell_of_row w I 0 _ _ _ h
theorem At0.free {w : World} {I x : Nat} (h : At0 w I x) : w.frozen? ⟨I, 0, none⟩ = false := frozen_of_row w I 0 _ _ h
theorem At0.set {w : World} {I x : Nat} (h : At0 w I x) {y : Int} {q : Nat} (hy : y = q) : At0 (w.setCell ⟨I, 0, none⟩ (.int .i64 y)) I q := by subst hy; exact heap_setCell_same w I 0 _ _ _ h
def pos0 (w : World) (I : Nat) : Nat := match w.cell? ⟨I, 0, none⟩ with
  | some v => (intOf v).toNat
  | none => 0
theorem At0.pos {w : World} {I x : Nat} (h : At0 w I x) : pos0 w I = x := by simp [pos0, h.cell, intOf]

def DgPost (I g p m c : Nat) (d : Nat → Int) (x : Nat) (w : World) (e : Ending) (w' : World) : Prop :=
  ∃ r o, Run dg d m x r ∧ e = .returned (.slice (some ⟨g, o, none⟩) (r - x) (c - x)) ∧ (x < c → o = p + x) ∧ But I w w' ∧ At0 w' I r

set_option maxRecDepth 100000 in
set_option maxHeartbeats 1000000 in
theorem digits_any (I L g p m c : Nat) (d : Nat → Int) (x : Nat) (w : World) (hI : At0 w I x) (hL : w.cell? ⟨L, 0, none⟩ = some (.slice (some ⟨g, p, none⟩) m c)) (hc : ∀ k, k < m → w.cell? ⟨g, p + k, none⟩ = some (.int .u8 (d k))) (hIL : L ≠ I) (hgI : g ≠ I) (hx : x ≤ m) (hm : m ≤ 1048579) (hmc : m ≤ c) :
    Calls Try.prog 37 #[.pointer (some ⟨I, 0, none⟩), .pointer (some ⟨L, 0, none⟩)] w (DgPost I g p m c d x w) := by
  have x0 := ix_own g p m c
  have i0 := hI.cell
  go_enter Try.func37, Try.ntmps37
  go_wp2_with fail
  clear i0
  go_loopw [] (fun wr => ∃ k, x ≤ k ∧ k ≤ m ∧ (∀ j, x ≤ j → j < k → dg (d j)) ∧ But I w wr ∧ At0 wr I k) (fun wr => m - pos0 wr I)
  case atStart => exact ⟨x, Nat.le_refl _, hx, fun j h1 h2 => by omega, But.refl _ _, hI⟩
  case round =>
    obtain ⟨k, hk, hkm, hP, hBt, hIk⟩ := hrel
    have HP := Hid.mk hP
    clear hP
    have i1 := hIk.cell
    have i2 := hIk.free
    have l1 := hBt.cell hIL hL
    by_cases hlt : k < m
    · have e0 := hBt.cell hgI (hc k hlt)
      by_cases h48 : 48 ≤ d k
      · by_cases h57 : d k ≤ 57
        · go_wp2
          go_roundw
          case rel => exact ⟨k + 1, by omega, by omega, RunS HP.out ⟨h48, h57⟩, hBt.set 0 _, hIk.set (q := k + 1) (by omega)⟩
          case measure =>
            have h1 := (hIk.set (y := (k : Int) + 1) (q := k + 1) (by omega)).pos
            have h2 := hIk.pos
            simp only [h2] at *
            rw [h1]
            omega
        · go_wp2
          go_ret
          exact ⟨k, _, ⟨hk, hkm, HP.out, fun _ h => by have := h.2; omega⟩, rfl, fun _ => rfl, hBt, hIk⟩
      · go_wp2
        go_ret
        exact ⟨k, _, ⟨hk, hkm, HP.out, fun _ h => by have := h.1; omega⟩, rfl, fun _ => rfl, hBt, hIk⟩
    · by_cases hcx : c = x
      · subst hcx
        go_wp2
        go_ret
        exact ⟨k, p, ⟨hk, hkm, HP.out, fun h => absurd h hlt⟩, by simp, fun h => absurd h (Nat.lt_irrefl _), hBt, hIk⟩
      · go_wp2
        go_ret
        exact ⟨k, _, ⟨hk, hkm, HP.out, fun h => absurd h hlt⟩, rfl, fun _ => rfl, hBt, hIk⟩

end Go.Proofs.Qxb6612943a
