import Derived.Test.Qxb6612943aR3
namespace Go.Proofs.Qxb6612943a
open Go.RowKit
set_option linter.unusedVariables false
set_option linter.unusedSimpArgs false

theorem Num.nodl {d : Nat → Int} {n i e : Nat} {inb : Bool} (h : Num d n i e inb) : ∀ k, i ≤ k → k < e → ¬ dl (d k) := by
  obtain ⟨s, a, b, hs, h1, h2, h3, h4, h5, h6, h7, h8, h9⟩ := h
  have ddl : ∀ c, dg c → ¬ dl c := by intro c hc; unfold dg at hc; unfold dl ws; omega
  intro k hk hke
  by_cases c1 : k < s
  · have hh : d i = 45 := by
      rw [hs] at c1
      by_cases hc : d i = 45
      · exact hc
      · rw [if_neg hc] at c1; omega
    rw [hs, if_pos hh] at c1
    obtain rfl : k = i := by omega
    rw [hh]; unfold dl ws; omega
  by_cases c2 : k < a
  · exact ddl _ (h5 k (by omega) c2)
  by_cases c3 : k < b
  · rcases h8 with ⟨k1, _, k3, _⟩ | ⟨_, k2⟩
    · by_cases c4 : k = a
      · subst c4; rw [k1]; unfold dl ws; omega
      · exact ddl _ (k3.2.2.1 k (by omega) c3)
    · omega
  rcases h9 with ⟨_, k2, k3, _⟩ | ⟨_, k2, _⟩
  · by_cases c4 : k = b
    · subst c4
      rcases k2 with k2 | k2 <;> rw [k2] <;> unfold dl ws <;> omega
    · by_cases c5 : k < xs d n b
      · unfold xs at c5
        by_cases hc : b + 1 < n ∧ (d (b + 1) = 43 ∨ d (b + 1) = 45)
        · rw [if_pos hc] at c5
          obtain rfl : k = b + 1 := by omega
          rcases hc.2 with k2 | k2 <;> rw [k2] <;> unfold dl ws <;> omega
        · rw [if_neg hc] at c5; omega
      · exact ddl _ (k3.2.2.1 k (by omega) hke)
  · omega

theorem elems {f : Nat} (ih : CN f) (w : World) (S g n : Nat) (d : Nat → Int) (p i e : Nat) (b : Int) (B : Nat) (hS : Sc w S g n d p) (hBt : Bt n d) (hB : Px w B S) (hr : Run ws d n p i) (hi : i < n) (hd : d i = 91) (j : Nat) (hj : Run ws d n (i + 1) j) (hjn : j < n)
    (hit : (d j = 93 ∧ e = j + 1 ∧ b = -1) ∨ (d j ≠ 93 ∧ G d n f 93 j e b)) :
    Calls Try.prog 27 #[.pointer (some ⟨S, 0, none⟩), .func (.func 28) #[] #[.pointer (some ⟨B, 0, none⟩)]] w (CPost S g n d e b w) := by
  have HC := Hid.mk (seq_arr ih w S g n d p i e b B hS hBt hB hr hi hd j hj hjn hit)
  clear hit hj hd hr
  go_enter Try.func27, Try.ntmps27
  go_wp2_with fail
  refine HC.out.mono ?_
  rintro en w1 ⟨rfl, h1, h2⟩
  go_wp2
  go_ret
  exact ⟨rfl, h1, h2⟩

theorem two_blocks (w : World) (o o' : Obj) : Below w.heap.size w ((w.alloc o).alloc o') ∧ ((w.alloc o).alloc o').heap[w.heap.size]? = some o ∧ ((w.alloc o).alloc o').heap[w.heap.size + 1]? = some o' := by
  have s1 : (w.alloc o).heap.size = w.heap.size + 1 := by simp
  refine ⟨((Below.refl _ _).alloc (Nat.le_refl _) _).alloc (by simp) _, ?_, ?_⟩
  · rw [Below.heap_alloc _ _ _ (by rw [s1]; omega)]
    exact heap_alloc_new w _
  · rw [← s1]
    exact heap_alloc_new _ _

set_option maxRecDepth 100000 in
set_option maxHeartbeats 1000000 in
theorem membs {f : Nat} (ih : CN f) (w : World) (S g n : Nat) (d : Nat → Int) (p i e : Nat) (b : Int) (B0 : Nat) (hS : Sc w S g n d p) (hBt : Bt n d) (hB0 : Px w B0 S) (hr : Run ws d n p i) (hi : i < n) (hd : d i = 123) (j : Nat) (hj : Run ws d n (i + 1) j) (hjn : j < n)
    (hit : (d j = 125 ∧ e = j + 1 ∧ b = -1) ∨ (d j ≠ 125 ∧ G d n f 125 j e b)) :
    Calls Try.prog 25 #[.pointer (some ⟨S, 0, none⟩), .func (.func 26) #[] #[.pointer (some ⟨B0, 0, none⟩)]] w (CPost S g n d e b w) := by
  obtain ⟨hb, k1, k2⟩ := two_blocks w (.cells #[.pointer (some ⟨S, 0, none⟩)] 26) (.cells #[.func (.func 26) #[] #[.pointer (some ⟨B0, 0, none⟩)]] 50)
  have hlt := hS.lt
  have hB : Px ((w.alloc (.cells #[.pointer (some ⟨S, 0, none⟩)] 26)).alloc (.cells #[.func (.func 26) #[] #[.pointer (some ⟨B0, 0, none⟩)]] 50)) w.heap.size S := ⟨by omega, cell_of_row _ _ 0 _ _ _ k1⟩
  have hM : Mx ((w.alloc (.cells #[.pointer (some ⟨S, 0, none⟩)] 26)).alloc (.cells #[.func (.func 26) #[] #[.pointer (some ⟨B0, 0, none⟩)]] 50)) (w.heap.size + 1) B0 S := ⟨by omega, cell_of_row _ _ 0 _ _ _ k2⟩
  have HC := Hid.mk (seq_obj ih _ S g n d p i e b w.heap.size (w.heap.size + 1) B0 (hS.kept hb) hBt hB hM (hB0.but (Below.but hb)) hr hi hd j hj hjn hit)
  have HB := Hid.mk hb
  have c0 := hB.2
  clear hit hj hd hr hb k1 k2 hM hB
  go_enter Try.func25, Try.ntmps25
  go_wp2_with fail
  refine HC.out.mono ?_
  rintro en w1 ⟨rfl, h1, h2⟩
  go_wp2
  go_ret
  exact ⟨rfl, (Below.but HB.out).trans h1, h2⟩

end Go.Proofs.Qxb6612943a
