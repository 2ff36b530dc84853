import Derived.Test.Qxb6614073aRows
import Derived.Test.Qxb6614073aArr
import Derived.Test.Qxb6614073aPlain
namespace Go.Proofs.Qxb6614073a
open Go.RowKit
set_option linter.unusedVariables false
set_option linter.unusedSimpArgs false

/-! The byte bounds -/
set_option maxHeartbeats 400000 in
theorem bytes13 (a0 a1 a2 : Option Addr) (n0 n1 n2 c0 c1 c2 : Nat) (w : World) (h0 : n0 ≤ maxLen) (h1 : n1 ≤ maxLen) (h2 : n2 ≤ maxLen) :
    Calls Try.prog 13 #[.slice a0 n0 c0, .slice a1 n1 c1, .slice a2 n2 c2] w fun e w' => ∃ b, e = .returned (.bool b) ∧ w' = w := by
  unfold maxLen at h0 h1 h2
  go_enter Try.func13, Try.ntmps13
  go_wp2
  all_goals (go_ret; exact ⟨_, rfl, rfl⟩)

set_option maxHeartbeats 400000 in
theorem bytes5 (a0 a1 a2 : Option Addr) (n0 n1 n2 c0 c1 c2 : Nat) (s l : Int) (w : World) (h0 : n0 ≤ maxLen) (h1 : n1 ≤ maxLen) (h2 : n2 ≤ maxLen) :
    Calls Try.prog 5 #[.slice a0 n0 c0, .slice a1 n1 c1, .slice a2 n2 c2, .int .u64 s, .int .i64 l] w fun e w' => ∃ b, e = .returned (.bool b) ∧ w' = w := by
  unfold maxLen at h0 h1 h2
  go_enter Try.func5, Try.ntmps5
  go_wp2
  all_goals (go_ret; exact ⟨_, rfl, rfl⟩)

/-! zzSpace -/

def Space (n : Nat) (r s : Nat → Nat) (p : Nat) : Prop :=
  (∀ j, j < n → 1 ≤ r j ∧ r j ≤ 65536 ∧ s j = pr r j) ∧ p = pr r n ∧ (∀ j, j ≤ n → pr r j ≤ 65536)

def SpPost (m n : Nat) (r s : Nat → Nat) (w : World) (e : Ending) (w' : World) : Prop :=
  w' = w ∧ ∃ p ok, e = .returned (.tuple #[.int .u64 (p : Nat), .bool ok]) ∧ (ok = true → m = n ∧ Space n r s p)

theorem spPost_no {m n : Nat} {r s : Nat → Nat} {w : World} : SpPost m n r s w (.returned (.tuple #[.int .u64 0, .bool false])) w := ⟨rfl, 0, false, rfl, fun h => by cases h⟩

theorem space_succ {k : Nat} {r s : Nat → Nat} (h : Space k r s (pr r k)) (h1 : 1 ≤ r k) (h2 : r k ≤ 65536) (h3 : s k = pr r k) (h4 : pr r k * r k ≤ 65536) : Space (k + 1) r s (pr r (k + 1)) := by
  obtain ⟨g1, _, g3⟩ := h
  refine ⟨fun j hj => ?_, rfl, fun j hj => ?_⟩
  · by_cases e : j = k
    · subst e; exact ⟨h1, h2, h3⟩
    · exact g1 j (by omega)
  · by_cases e : j = k + 1
    · subst e; exact h4
    · exact g3 j (by omega)

/-- WHAT A CONTRACT IS TOLD OF A SLICE: nil and empty, or it begins at the head of block g. -/
def At (a : Option Addr) (g n : Nat) : Prop := a = some ⟨g, 0, none⟩ ∨ (a = none ∧ Hid (n = 0))

theorem At.pos {a : Option Addr} {g n : Nat} (h : At a g n) (hn : 0 < n) : a = some ⟨g, 0, none⟩ := by
  rcases h with h | ⟨_, h⟩
  · exact h
  · have := h.out; omega

set_option maxHeartbeats 400000 in
theorem space_any (a0 a1 : Option Addr) (b0 b1 : Nat) (n m c0 c1 : Nat) (r s : Nat → Nat) (w : World) (h0 : n ≤ 4096) (h1 : m ≤ 4096) (k0 : At a0 b0 n) (k1 : At a1 b1 m)
    (hr : ∀ i, i < n → w.cell? ⟨b0, i, none⟩ = some (.int .u64 (r i))) (hs : ∀ i, i < m → w.cell? ⟨b1, i, none⟩ = some (.int .u64 (s i))) :
    Calls Try.prog 6 #[.slice a0 n c0, .slice a1 m c1] w (SpPost m n r s w) := by
  by_cases hmn : m = n
  case neg =>
    clear k0 k1
    go_enter Try.func6, Try.ntmps6
    go_wp2
    go_ret2
    exact spPost_no
  subst hmn
  rcases k0 with rfl | ⟨rfl, hz⟩ <;> rcases k1 with rfl | ⟨rfl, hz⟩
  all_goals
    go_enter Try.func6, Try.ntmps6
    go_wp2
    go_loop [6, 7] (fun p i => ∃ k : Nat, k ≤ m ∧ i = .int .i64 k ∧ p = .int .u64 (pr r k : Nat) ∧ Space k r s (pr r k)) (fun _ i => m - (intOf i).toNat)
    case atStart => exact ⟨0, Nat.zero_le _, rfl, rfl, by simp [Space, pr]⟩
    case round =>
      obtain ⟨k, hk, rfl, rfl, hsp⟩ := hrel
      by_cases hlt : k < m
      · first | (exfalso; have := hz.out; omega) | skip
        all_goals
          have e1 := hr k hlt
          have e2 := hs k hlt
          by_cases t1 : r k = 0
          · have t1' : ((r k : Int) == 0) = true := by simp [t1]
            clear t1
            go_wp2
            go_ret2
            exact spPost_no
          have t1' : ((r k : Int) == 0) = false := by simp [t1]
          by_cases t2 : 65536 < r k
          · go_wp2
            go_ret2
            exact spPost_no
          by_cases t3 : s k = pr r k
          · have t3' : ((s k : Int) != (pr r k : Int)) = false := by simp [t3]
            have hp : pr r k ≤ 65536 := hsp.2.2 k (Nat.le_refl _)
            have hm : pr r k * r k ≤ 65536 * 65536 := Nat.mul_le_mul hp (by omega)
            have hm' : (pr r k : Int) * (r k : Int) = ((pr r k * r k : Nat) : Int) := by simp
            have hlo : 0 ≤ (pr r k : Int) * (r k : Int) := by rw [hm']; omega
            have hhi : (pr r k : Int) * (r k : Int) ≤ 65536 * 65536 := by rw [hm']; omega
            by_cases t4 : 65536 < (pr r k : Int) * (r k : Int)
            · clear hm' hm t3
              go_wp2
              go_ret2
              exact spPost_no
            · have hsp' := space_succ hsp (by omega) (by omega) t3 (by omega)
              clear hm' hm t3 hsp
              go_wp2
              go_round
              case rel => exact ⟨k + 1, by omega, by go_num, by simp [pr], hsp'⟩
              case measure => simp [intOf]; omega
          · have t3' : ((s k : Int) != (pr r k : Int)) = true := by simp; omega
            clear t3
            go_wp2
            go_ret2
            exact spPost_no
      · have hkm : k = m := by omega
        have hfin : Space m r s (pr r k) := hkm ▸ hsp
        clear hkm hsp
        go_wp2
        go_ret2
        exact ⟨rfl, _, _, rfl, fun _ => ⟨rfl, hfin⟩⟩

/-! zzAscendingAttrs -/
def Asc (m : Nat) (A : Nat → Int) (n : Nat) : Prop := ∀ j, j < m → 0 ≤ A j ∧ A j < n ∧ (0 < j → A (j - 1) < A j)

def AscPost (m : Nat) (A : Nat → Int) (n : Nat) (w : World) (e : Ending) (w' : World) : Prop :=
  w' = w ∧ ∃ ok, e = .returned (.bool ok) ∧ (ok = true → Asc m A n)

theorem ascPost_no {m n : Nat} {A : Nat → Int} {w : World} : AscPost m A n w (.returned (.bool false)) w := ⟨rfl, false, rfl, fun h => by cases h⟩

theorem asc_succ {k n : Nat} {A : Nat → Int} (h : Asc k A n) (h1 : 0 ≤ A k) (h2 : A k < n) (h3 : 0 < k → A (k - 1) < A k) : Asc (k + 1) A n := by
  intro j hj
  by_cases e : j = k
  · subst e; exact ⟨h1, h2, h3⟩
  · exact h j (by omega)

set_option maxHeartbeats 400000 in
theorem asc_any (a0 : Option Addr) (b0 : Nat) (m c0 n : Nat) (A : Nat → Int) (w : World) (h0 : m ≤ 4096) (hn : n ≤ 4096) (k0 : At a0 b0 m)
    (hr : ∀ i, i < m → w.cell? ⟨b0, i, none⟩ = some (.int .i64 (A i))) :
    Calls Try.prog 7 #[.slice a0 m c0, .int .i64 n] w (AscPost m A n w) := by
  rcases k0 with rfl | ⟨rfl, hz⟩
  all_goals
    go_enter Try.func7, Try.ntmps7
    go_wp2
    go_loop [5] (fun i => ∃ k : Nat, k ≤ m ∧ i = .int .i64 k ∧ Asc k A n) (fun i => m - (intOf i).toNat)
    case atStart => exact ⟨0, Nat.zero_le _, rfl, fun j hj => by omega⟩
    case round =>
      obtain ⟨k, hk, rfl, hsp⟩ := hrel
      by_cases hlt : k < m
      · first | (exfalso; have := hz.out; omega) | skip
        all_goals
          have e1 := hr k hlt
          by_cases t1 : A k < 0
          · go_wp2
            go_ret
            exact ascPost_no
          by_cases t2 : (n : Int) ≤ A k
          · go_wp2
            go_ret
            exact ascPost_no
          by_cases t3 : 0 < k
          · obtain ⟨k', rfl⟩ : ∃ k', k = k' + 1 := ⟨k - 1, by omega⟩
            have e2 := hr k' (by omega)
            have e3 : ((k' : Int) + 1 - 1).toNat = k' := by omega
            by_cases t4 : A (k' + 1) ≤ A k'
            · go_wp2
              go_ret
              exact ascPost_no
            · have hsp' := asc_succ hsp (by omega) (by omega) (by intro _; simp; omega)
              clear hsp
              go_wp2
              go_round
              case rel => exact ⟨k' + 1 + 1, by omega, by go_num, hsp'⟩
              case measure => simp [intOf]; omega
          · have hsp' := asc_succ hsp (by omega) (by omega) (by intro h; omega)
            clear hsp
            go_wp2
            go_round
            case rel => exact ⟨k + 1, by omega, by go_num, hsp'⟩
            case measure => simp [intOf]; omega
      · have hkm : k = m := by omega
        have hfin : Asc m A n := hkm ▸ hsp
        clear hkm hsp
        go_wp2
        go_ret
        exact ⟨rfl, _, rfl, fun _ => hfin⟩

end Go.Proofs.Qxb6614073a
