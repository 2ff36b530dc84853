import Derived.Test.Qxb6614073aW2
namespace Go.Proofs.Qxb6614073a
open Go.RowKit
set_option linter.unusedVariables false
set_option linter.unusedSimpArgs false

theorem info24 : (Try.prog.info? 24).map (fun i => (i.zero, i.size, i.bytes)) = some (some (.int .u64 0), 1, 8) := by kernel_rfl
theorem info3 : (Try.prog.info? 3).map (fun i => (i.zero, i.size, i.bytes)) = some (some (.int .i64 0), 1, 8) := by kernel_rfl
theorem info4 : (Try.prog.info? 4).map (fun i => (i.zero, i.size, i.bytes)) = some (some (.bool false), 1, 1) := by kernel_rfl

/-- A list of numbers as cells. -/
def U (L : List Nat) : List Value := L.map (fun x : Nat => Value.int .u64 (x : Int))
theorem U_len (L : List Nat) : (U L).length = L.length := by simp [U]
theorem U_snoc (L : List Nat) (t : Nat) : U (L ++ [t]) = U L ++ [.int .u64 (t : Nat)] := by simp [U]

/-- Below BB nothing but block OUT may have turned. -/
structure VF (OUT BB : Nat) (w w' : World) : Prop where
  os : w'.os = w.os
  tape : w'.tape = w.tape
  output : w'.output = w.output
  size : w.heap.size ≤ w'.heap.size
  block : ∀ k, k < BB → k ≠ OUT → w'.heap[k]? = w.heap[k]?

theorem VF.refl (OUT BB : Nat) (w : World) : VF OUT BB w w := ⟨rfl, rfl, rfl, Nat.le_refl _, fun _ _ _ => rfl⟩
theorem VF.trans {OUT BB : Nat} {a b c : World} (h : VF OUT BB a b) (k : VF OUT BB b c) : VF OUT BB a c :=
  ⟨k.os.trans h.os, k.tape.trans h.tape, k.output.trans h.output, Nat.le_trans h.size k.size, fun i hi hn => (k.block i hi hn).trans (h.block i hi hn)⟩

/-- The variable 'out' in block OUT, and what it owns. -/
structure Out (w : World) (OUT BB : Nat) (v : Value) (L : List Nat) : Prop where
  at_ : w.heap[OUT]? = some (.cells #[v] 22 (0, 0))
  own : w.ownsRow BB 24 1 v L.length (U L)

theorem owns_shape {w : World} {BB e n : Nat} {v : Value} {xs : List Value} (h : w.ownsRow BB e 1 v n xs) : ∃ ao cap, v = .slice ao n cap := by
  rcases h.2 with ⟨rfl, rfl⟩ | ⟨g, cap, cur, rfl, _⟩
  · exact ⟨none, 0, rfl⟩
  · exact ⟨_, cap, rfl⟩

theorem visit_grow {w w1 : World} {BB e n : Nat} {v : Value} {xs : List Value} {o : Obj} (hown : w.ownsRow BB e 1 v n xs) (hB : BB ≤ w.heap.size) (hgrow : (w.alloc o).grownBy w1 v.ownBlock) : Below BB w w1 :=
  ((Below.refl _ _).alloc hB o).grown hgrow (by simp; omega) (fun k hk => (hown.lt k hk).1)

theorem visit_out {w w1 : World} {OUT BB t : Nat} {v v' : Value} {L : List Nat} (ho : OUT < BB) (hown' : w1.ownsRow BB 24 1 v' (L.length + 1) (U L ++ [.int .u64 (t : Nat)])) (hbel : Below BB w w1)
    (hO1 : w1.heap[OUT]? = some (.cells #[v] 22 (0, 0))) : Out (w1.setCell ⟨OUT, 0, none⟩ v') OUT BB v' (L ++ [t]) ∧ VF OUT BB w (w1.setCell ⟨OUT, 0, none⟩ v') := by
  refine ⟨⟨?_, ?_⟩, ?_⟩
  · simpa using heap_setCell_same w1 OUT 0 _ 22 v' hO1
  · rw [U_snoc, List.length_append]
    exact ownsRow_setCell_below hown' ho _
  · exact ⟨hbel.os, hbel.tape, hbel.output, by simpa using hbel.size, fun k hk hn => (heap_setCell_other w1 _ k v' hn).trans (hbel.block k hk)⟩

theorem hide {p : Prop} (h : p) : Hid p := h

set_option maxHeartbeats 400000 in
theorem visit_any (OUT LIM BB t : Nat) (lim : Int) (v : Value) (L : List Nat) (w : World) (h : Out w OUT BB v L) (hl : w.cell? ⟨LIM, 0, none⟩ = some (.int .i64 lim)) (hne : LIM ≠ OUT) (ho : OUT < BB) (hlb : LIM < BB)
    (hB : BB ≤ w.heap.size) (hL : L.length ≤ 70000) :
    Calls Try.prog 16 #[.int .u64 t, .pointer (some ⟨OUT, 0, none⟩), .pointer (some ⟨LIM, 0, none⟩)] w fun e w' => e = .returned (.bool (decide ((L.length : Int) + 1 < lim))) ∧ ∃ v', Out w' OUT BB v' (L ++ [t]) ∧ VF OUT BB w w' := by
  obtain ⟨hat, hown⟩ := h
  obtain ⟨ao, cap, rfl⟩ := owns_shape hown
  have c0 := cell_of_row w OUT 0 _ _ _ hat
  simp only [List.getElem?_toArray, List.getElem?_cons_zero] at c0
  obtain ⟨i0, hi, hz0, hz1, hz2⟩ := info_parts info24
  have hownA := hown.alloc (.cells #[.int .u64 (t : Nat)] 24)
  have HA : Hid (w.heap[OUT]? = some (.cells #[.slice ao L.length cap] 22 (0, 0))) := hat
  clear hat
  go_enter Try.func16, Try.ntmps16
  go_wp2_with (first
    | (at_builtin; refine wpList_append_own _ rfl _ _ 22 rfl BB 24 i0 (.int .u64 0) 1 8 Try.underlying22 hi hz0 hz1 hz2 rfl (by decide) _ _ _ rfl hownA ⟨w.heap.size, 0, none⟩ 1 1 [.int .u64 (t : Nat)] rfl rfl (cell_one_new _ _ _) ?c2 ?c3 ?c4 ?c5 ?_))
  case c2 => intro u hu; simp at hu; subst hu; rfl
  case c3 => unfold maxLen; omega
  case c4 => omega
  case c5 => simp; omega
  intro v' w1 hown' hgrow _
  have hbel := visit_grow hown hB hgrow
  obtain ⟨ao', cap', hv'⟩ := owns_shape hown'
  have hO1 : w1.heap[OUT]? = some (.cells #[.slice ao L.length cap] 22 (0, 0)) := (hbel.block OUT ho).trans HA.out
  have R := visit_out (t := t) ho hown' hbel hO1
  have c1 : w1.cell? ⟨OUT, 0, none⟩ = some (.slice ao L.length cap) := (hbel.cell (p := ⟨OUT, 0, none⟩) ho).trans c0
  have c2 : w1.frozen? ⟨OUT, 0, none⟩ = false := frozen_of_row w1 OUT 0 _ _ hO1
  have c3 : w1.cell? ⟨LIM, 0, none⟩ = some (.int .i64 lim) := (hbel.cell (p := ⟨LIM, 0, none⟩) hlb).trans hl
  have c4 : ∀ u, (w1.setCell ⟨OUT, 0, none⟩ u).cell? ⟨LIM, 0, none⟩ = some (.int .i64 lim) := fun u => (World.cell?_setCell_other _ _ _ _ (by intro e; injection e with e; exact hne e.symm)).trans c3
  have c5 : ∀ u, (w1.setCell ⟨OUT, 0, none⟩ u).cell? ⟨OUT, 0, none⟩ = some u := fun u => World.cell?_setCell_same _ _ _ c1
  have HR := hide R
  clear R hown' hgrow hbel hO1 hownA hown c0 hl
  rw [hv'] at HR ⊢
  clear hv'
  go_wp2
  go_ret
  exact ⟨rfl, _, HR.out⟩

end Go.Proofs.Qxb6614073a
