import Derived.Test.Qxb6614073aW4
namespace Go.Proofs.Qxb6614073a
open Go.RowKit
set_option linter.unusedVariables false
set_option linter.unusedSimpArgs false

theorem three_new (w : World) (o1 o2 o3 : Obj) : (((w.alloc o1).alloc o2).alloc o3).heap[w.heap.size]? = some o1 ∧ (((w.alloc o1).alloc o2).alloc o3).heap[w.heap.size + 1]? = some o2 ∧ (((w.alloc o1).alloc o2).alloc o3).heap[w.heap.size + 1 + 1]? = some o3 ∧
    Below w.heap.size w (((w.alloc o1).alloc o2).alloc o3) ∧ (((w.alloc o1).alloc o2).alloc o3).heap.size = w.heap.size + 3 := by
  refine ⟨?_, ?_, ?_, ?_, by simp⟩
  · rw [Below.heap_alloc _ _ _ (by simp; omega), Below.heap_alloc _ _ _ (by simp)]
    exact Go.heap_alloc_new w o1
  · rw [Below.heap_alloc _ _ _ (by simp)]
    have h := Go.heap_alloc_new (w.alloc o1) o2
    simpa using h
  · have h := Go.heap_alloc_new ((w.alloc o1).alloc o2) o3
    simpa using h
  · exact (((Below.refl _ _).alloc (Nat.le_refl _) _).alloc (by simp) _).alloc (by simp; omega) _

set_option maxRecDepth 100000 in
set_option maxHeartbeats 1000000 in
theorem zzexpand_any (b0 b1 b2 n m c0 c1 c2 : Nat) (a0 a1 a2 : Option Addr) (r A : Nat → Nat) (w : World) (sub : Nat) (lim : Int) (g : Good n r m A) (k0 : At a0 b0 n) (k1 : At a1 b1 n) (k2 : At a2 b2 m) (hsub : sub ≤ 1000000)
    (hr : ∀ i, i < n → w.cell? ⟨b0, i, none⟩ = some (.int .u64 (r i))) (hst : ∀ i, i < n → w.cell? ⟨b1, i, none⟩ = some (.int .u64 (pr r i : Nat))) (ha : ∀ i, i < m → w.cell? ⟨b2, i, none⟩ = some (.int .i64 (A i))) :
    Calls Try.prog 11 #[.slice a0 n c0, .slice a1 n c1, .slice a2 m c2, .int .u64 sub, .int .i64 lim] w fun e w' => ∃ v, e = .returned v ∧ w'.ownsRow w.heap.size 24 1 v (res n r (fixF A m) (wantF r A sub m) lim).length (U (res n r (fixF A m) (wantF r A sub m) lim)) ∧ Below w.heap.size w w' := by
  go_enter Try.func11, Try.ntmps11
  obtain ⟨W, hW⟩ : ∃ W, W = (((w.alloc (.cells #[.int .i64 lim] 3)).alloc (.cells #[.slice none 0 0, .slice none 0 0, .slice a0 n c0, .slice a1 n c1, .slice none 0 0, .int .u64 0] 42)).alloc (.cells #[.slice none 0 0] 22)) := ⟨_, rfl⟩
  obtain ⟨t1, t2, t3, t4, t5⟩ := three_new w (.cells #[.int .i64 lim] 3) (.cells #[.slice none 0 0, .slice none 0 0, .slice a0 n c0, .slice a1 n c1, .slice none 0 0, .int .u64 0] 42) (.cells #[.slice none 0 0] 22)
  rw [← hW] at t1 t2 t3 t4 t5
  have lt0 : ∀ i, i < n → b0 < w.heap.size := fun i hi => World.block_lt_of_cell? _ _ (hr i hi)
  have lt1 : ∀ i, i < n → b1 < w.heap.size := fun i hi => World.block_lt_of_cell? _ _ (hst i hi)
  have hcall := expand_any (w.heap.size + 1) b0 b1 b2 n m c0 c1 c2 (w.heap.size + 1 + 1) w.heap.size a0 a1 a2 r A W sub lim g
    ⟨by rw [cell_of_row W _ 2 _ _ _ t2]; rfl, by rw [cell_of_row W _ 3 _ _ _ t2]; rfl⟩ k0 k1 k2 hsub
    (fun i hi => (t4.cell (p := ⟨b0, i, none⟩) (lt0 i hi)).trans (hr i hi)) (fun i hi => (t4.cell (p := ⟨b1, i, none⟩) (lt1 i hi)).trans (hst i hi))
    (fun i hi => (t4.cell (p := ⟨b2, i, none⟩) (World.block_lt_of_cell? _ _ (ha i hi))).trans (ha i hi)) t3 (by rw [cell_of_row W _ 0 _ _ _ t1]; rfl) (by omega) (by omega) (fun h => by have := lt0 0 h; omega) (fun h => by have := lt1 0 h; omega)
  have HC := hide hcall
  clear hcall t1 t2 t3 hr hst ha
  go_wp2_with fail
  rw [← hW]
  clear hW
  refine HC.out.mono ?_
  rintro e w1 ⟨rfl, ⟨v, hO⟩, hV⟩
  have hrow : w1.ownsRow w.heap.size 24 1 v (res n r (fixF A m) (wantF r A sub m) lim).length (U (res n r (fixF A m) (wantF r A sub m) lim)) := (hO.mono (by omega)).own
  have hB : Below w.heap.size w w1 := t4.trans ⟨hV.os, hV.tape, hV.output, hV.size, fun k hk => hV.block k (by omega) (by omega)⟩
  obtain ⟨ao, cap, hv⟩ := owns_shape hrow
  have c0 := cell_of_row w1 _ 0 _ _ _ hO.at_
  simp only [List.getElem?_toArray, List.getElem?_cons_zero] at c0
  rw [hv] at c0 hrow
  have HR := hide hrow
  clear hrow hO hV hv t4 t5 lt0 lt1
  go_wp2
  go_ret
  exact ⟨_, rfl, HR.out, hB⟩

end Go.Proofs.Qxb6614073a
