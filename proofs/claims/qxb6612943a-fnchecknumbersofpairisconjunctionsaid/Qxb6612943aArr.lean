import Derived.WalkKit
import Derived.WalkSpells
import Derived.WalkLawsBesides
import Derived.Deep.QuietTactic
import Derived.BigQuiet
/-!
ARRAYS OF THE CALL's OWN AS FUNCTIONS: 'Arr w g e n f': block g of the world w is a row of cells of type e, not frozen, and its first n cells are f 0, f 1, ..
-/
namespace Go.Proofs.Qxb6612943a
open Go.RowKit
set_option linter.unusedVariables false
set_option linter.unusedSimpArgs false

def Arr (w : World) (g : Nat) (e : TypeId) (n : Nat) (f : Nat → Value) : Prop :=
  ∃ cur : Array Value, w.heap[g]? = some (.cells cur e (0, 0)) ∧ n ≤ cur.size ∧ ∀ i, i < n → cur[i]? = some (f i)

theorem Arr.cell {w : World} {g e n : Nat} {f : Nat → Value} (h : Arr w g e n f) {i : Nat} (hi : i < n) : w.cell? ⟨g, i, none⟩ = some (f i) := by
  obtain ⟨cur, hg, _, hf⟩ := h
  rw [cell_of_row w g i cur e (0, 0) hg]
  exact hf i hi

theorem Arr.free {w : World} {g e n : Nat} {f : Nat → Value} (h : Arr w g e n f) (i : Nat) : w.frozen? ⟨g, i, none⟩ = false := by
  obtain ⟨cur, hg, _⟩ := h
  exact frozen_of_row w g i cur e hg

theorem Arr.lt {w : World} {g e n : Nat} {f : Nat → Value} (h : Arr w g e n f) : g < w.heap.size := by
  obtain ⟨cur, hg, _⟩ := h
  exact (Array.getElem?_eq_some_iff.1 hg).1

theorem Arr.of_block {w w' : World} {g e n : Nat} {f : Nat → Value} (h : Arr w g e n f) (hb : w'.heap[g]? = w.heap[g]?) : Arr w' g e n f := by
  obtain ⟨cur, hg, r⟩ := h
  exact ⟨cur, hb.trans hg, r⟩

theorem Arr.below {w w' : World} {g e n : Nat} {f : Nat → Value} (h : Arr w g e n f) {B : Nat} (hb : Below B w w') (hg : g < B) : Arr w' g e n f := h.of_block (hb.block g hg)

theorem Arr.kept {w w' : World} {g e n : Nat} {f : Nat → Value} (h : Arr w g e n f) (hb : Below w.heap.size w w') : Arr w' g e n f := h.of_block (hb.block g h.lt)

theorem Arr.drewN {w : World} {g e n : Nat} {f : Nat → Value} (h : Arr w g e n f) (q : Nat) : Arr (w.drewN q) g e n f := h

theorem Arr.alloc {w : World} {g e n : Nat} {f : Nat → Value} (h : Arr w g e n f) (o : Obj) : Arr (w.alloc o) g e n f := h.of_block (Below.heap_alloc w o g h.lt)

theorem Arr.setCell_other {w : World} {g e n : Nat} {f : Nat → Value} (h : Arr w g e n f) {a : Addr} (ha : g ≠ a.block) (u : Value) : Arr (w.setCell a u) g e n f :=
  h.of_block (heap_setCell_other w a g u ha)

theorem Arr.setCell {w : World} {g e n : Nat} {f : Nat → Value} (h : Arr w g e n f) (i : Nat) (u : Value) : Arr (w.setCell ⟨g, i, none⟩ u) g e n (fun j => if j = i then u else f j) := by
  obtain ⟨cur, hg, hn, hf⟩ := h
  refine ⟨cur.setIfInBounds i u, heap_setCell_same w g i cur e u hg, by simpa using hn, fun j hj => ?_⟩
  simp only [Array.getElem?_setIfInBounds]
  by_cases hji : i = j
  · subst hji
    simp
    omega
  · rw [if_neg hji, if_neg (by omega)]
    exact hf j hj

theorem Arr.congr {w : World} {g e n : Nat} {f f' : Nat → Value} (h : Arr w g e n f) (hf : ∀ i, i < n → f i = f' i) : Arr w g e n f' := by
  obtain ⟨cur, hg, hn, hc⟩ := h
  exact ⟨cur, hg, hn, fun i hi => (hc i hi).trans (by rw [hf i hi])⟩

theorem Arr.new (w : World) (cs : Array Value) (e n : Nat) (f : Nat → Value) (hn : n ≤ cs.size) (hf : ∀ i, i < n → cs[i]? = some (f i)) : Arr (w.alloc (.cells cs e)) w.heap.size e n f :=
  ⟨cs, heap_alloc_new w _, hn, hf⟩

/-- Out of what 'make' and 'append' leave. -/
theorem Arr.of_owns {w : World} {base e : Nat} {n cap g : Nat} {xs : List Value} {f : Nat → Value} (h : w.ownsRow base e 1 (.slice (some ⟨g, 0, none⟩) n cap) n xs) (hf : ∀ i, i < n → xs[i]? = some (f i)) : Arr w g e n f := by
  rcases h.2 with ⟨h', _⟩ | ⟨g', cap', cur, h', _, hg, hnc, _, hcs, htake⟩
  · simp at h'
  · simp only [Value.slice.injEq, Option.some.injEq, Addr.mk.injEq, and_true, true_and] at h'
    obtain ⟨rfl, rfl⟩ := h'
    refine ⟨cur, hg, by omega, fun i hi => ?_⟩
    have hx := hf i hi
    rw [← htake, List.getElem?_take, if_pos (by omega)] at hx
    simpa using hx

/-- Only block D may have turned (and the count of draws). -/
structure Only (D : Nat) (w w' : World) : Prop where
  os : w'.os = w.os
  tape : w'.tape = w.tape
  output : w'.output = w.output
  size : w'.heap.size = w.heap.size
  block : ∀ k, k ≠ D → w'.heap[k]? = w.heap[k]?

theorem Only.refl (D : Nat) (w : World) : Only D w w := ⟨rfl, rfl, rfl, rfl, fun _ _ => rfl⟩
theorem Only.trans {D : Nat} {a b c : World} (h : Only D a b) (k : Only D b c) : Only D a c :=
  ⟨k.os.trans h.os, k.tape.trans h.tape, k.output.trans h.output, k.size.trans h.size, fun i hi => (k.block i hi).trans (h.block i hi)⟩
theorem Only.setCell {D : Nat} {a w : World} (h : Only D a w) (i : Nat) (u : Value) : Only D a (w.setCell ⟨D, i, none⟩ u) :=
  h.trans ⟨rfl, rfl, rfl, by simp, fun k hk => heap_setCell_other w _ k u hk⟩
theorem Only.drewN {D : Nat} {a w : World} (h : Only D a w) (q : Nat) : Only D a (w.drewN q) := ⟨h.os, h.tape, h.output, h.size, h.block⟩
theorem Only.below {D B : Nat} {w w' : World} (h : Only D w w') (hB : B ≤ D) : Below B w w' := ⟨h.os, h.tape, h.output, Nat.le_of_eq h.size.symm, fun k hk => h.block k (by omega)⟩
theorem Arr.only {w w' : World} {g e n D : Nat} {f : Nat → Value} (h : Arr w g e n f) (ho : Only D w w') (hg : g ≠ D) : Arr w' g e n f := h.of_block (ho.block g hg)

/-- Nothing has turned but the count of draws. -/
def Dr (w w' : World) : Prop := ∃ q, w' = w.drewN q
theorem Dr.refl (w : World) : Dr w w := ⟨0, rfl⟩
theorem Dr.cell {w w' : World} (h : Dr w w') {a : Addr} {v : Value} (hc : w.cell? a = some v) : w'.cell? a = some v := by obtain ⟨q, rfl⟩ := h; exact hc
theorem Dr.drewN {w w' : World} (h : Dr w w') (q : Nat) : Dr w (w'.drewN q) := by obtain ⟨p, rfl⟩ := h; exact ⟨p + q, by rw [World.drewN_drewN]⟩
theorem Dr.trans {a b c : World} (h : Dr a b) (k : Dr b c) : Dr a c := by obtain ⟨p, rfl⟩ := k; exact h.drewN p
theorem Dr.below {w w' : World} (h : Dr w w') (B : Nat) : Below B w w' := by obtain ⟨q, rfl⟩ := h; exact ⟨rfl, rfl, rfl, Nat.le_refl _, fun _ _ => rfl⟩
theorem Dr.size {w w' : World} (h : Dr w w') : w'.heap.size = w.heap.size := by obtain ⟨q, rfl⟩ := h; rfl
theorem Arr.dr {w w' : World} {g e n : Nat} {f : Nat → Value} (h : Arr w g e n f) (hd : Dr w w') : Arr w' g e n f := by obtain ⟨q, rfl⟩ := hd; exact h

theorem Below.drewN {B : Nat} {a w : World} (h : Below B a w) (n : Nat) : Below B a (w.drewN n) := below_drewN h n

end Go.Proofs.Qxb6612943a
