import Derived.Test.Qxb6612943aS1
namespace Go.Proofs.Qxb6612943a
open Go.RowKit
set_option linter.unusedVariables false
set_option linter.unusedSimpArgs false

/-! str -/
def SPost (S g n : Nat) (d : Nat → Int) (e1 : Nat) (w : World) (e : Ending) (w' : World) : Prop :=
  (∃ v, e = .returned (.tuple #[v, .bool true])) ∧ But S w w' ∧ Sc w' S g n d e1

set_option maxRecDepth 100000 in
set_option maxHeartbeats 1000000 in
theorem str_any (S g n : Nat) (d : Nat → Int) (p e1 : Nat) (w : World) (hS : Sc w S g n d p) (hB : Bt n d) (hQ : ∃ f, Q d n f (p + 1) e1) :
    Calls Try.prog 34 #[.pointer (some ⟨S, 0, none⟩)] w (SPost S g n d e1 w) := by
  have hn := hB.2.2
  have x0 := ix_head g n n
  have c0 := hS.c0
  have c1 := hS.c1
  have hpn := hS.le
  have hfr := hS.free 1
  go_enter Try.func34, Try.ntmps34
  go_wp2_with fail
  go_loop [5] (fun s5 => ∃ j : Nat, p + 1 ≤ j ∧ s5 = .int .i64 j ∧ ∃ f, Q d n f j e1) (fun s5 => n - (intOf s5).toNat)
  case atStart => exact ⟨p + 1, Nat.le_refl _, by go_num, hQ⟩
  case round =>
    obtain ⟨j, hj, rfl, f, hq⟩ := hrel
    have hle := hq.le
    cases f with
    | zero => exact hq.elim
    | succ f =>
    obtain ⟨hjn, hq⟩ := hq
    have e0 := hS.cl j hjn
    clear hQ
    rcases hq with ⟨h34, he⟩ | ⟨h92, hq⟩ | ⟨h34, h92, hq⟩
    · have t1 : (d j == 92) = false := by simp [h34]
      have t2 : (d j == 34) = true := by simp [h34]
      have HE := Hid.mk he
      have e1' : ∀ u, (w.setCell ⟨S, 1, none⟩ u).cell? ⟨S, 0, none⟩ = some (.slice (some ⟨g, 0, none⟩) n n) := fun u => (World.cell?_setCell_other _ _ _ _ (by intro e; injection e with _ e; omega)).trans c0
      clear h34 he
      go_wp2
      go_ret2
      exact ⟨⟨_, rfl⟩, (But.refl _ _).set 1 _, hS.set' (by rw [HE.out]; omega) (by rw [HE.out]; omega)⟩
    · have t1 : (d j == 92) = true := by simp [h92]
      have hle2 := hq.le
      have HQ := Hid.mk hq
      clear h92 hq
      go_wp2
      go_round
      case rel => exact ⟨j + 2, by omega, by go_num, f, HQ.out⟩
      case measure => simp [intOf]; omega
    · have t1 : (d j == 92) = false := by simp [h92]
      have t2 : (d j == 34) = false := by simp [h34]
      have hle2 := hq.le
      have HQ := Hid.mk hq
      clear h92 h34 hq
      go_wp2
      go_round
      case rel => exact ⟨j + 1, by omega, by go_num, f, HQ.out⟩
      case measure => simp [intOf]; omega

end Go.Proofs.Qxb6612943a
