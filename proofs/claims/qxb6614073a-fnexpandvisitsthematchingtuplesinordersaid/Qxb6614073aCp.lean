import Derived.Test.Qxb6614073aW5
import Derived.Deep.CutRange
namespace Go.Proofs.Qxb6614073a
open Go.RowKit
set_option linter.unusedVariables false
set_option linter.unusedSimpArgs false

/-- WHAT THE WALK IS TOLD OF A SLICE OF INTEGERS THAT CAME IN. -/
def Came (k : IntKind) (w : World) (a : Option Addr) (n : Nat) (f : Nat → Int) : Prop :=
  n ≤ maxLen ∧ ((a = none ∧ n = 0) ∨ ∃ x, a = some x ∧ ∀ i, i < n → w.cell? (x.add i) = some (.int k (f i)))

/-- A slice that is nil and empty, or a copy of the call's own. -/
def Cp (k : IntKind) (e : TypeId) (B : Nat) (wc : World) (v : Value) (n : Nat) (f : Nat → Int) : Prop :=
  ∃ a g c, v = .slice a n c ∧ At a g n ∧ (0 < n → B ≤ g ∧ Arr wc g e n (fun i => .int k (f i)))

theorem Cp.kept {k : IntKind} {e : TypeId} {B n : Nat} {w w' : World} {v : Value} {f : Nat → Int} (h : Cp k e B w v n f) (hb : Below w.heap.size w w') : Cp k e B w' v n f := by
  obtain ⟨a, g, c, h1, h2, h3⟩ := h
  exact ⟨a, g, c, h1, h2, fun hn => ⟨(h3 hn).1, (h3 hn).2.kept hb⟩⟩

theorem Cp.nil {k : IntKind} {e : TypeId} {B n : Nat} {w : World} {f : Nat → Int} (hn : n = 0) (c : Nat) : Cp k e B w (.slice none n c) n f :=
  ⟨none, 0, c, rfl, .inr ⟨rfl, hn⟩, fun h => by omega⟩

theorem copy_run {w1 : World} {g n e cap : Nat} {T : TypeId} {x : Addr} {k : IntKind} {z : Nat → Int} {f0 : Nat → Value} (hu : Try.prog.underlying T = some (.slice e)) (hs : (Try.prog.info? e).map (·.size) = some 1)
    (hA : Arr w1 g e n f0) (hc : ∀ i, i < n → w1.cell? (x.add i) = some (.int k (z i))) :
    ∃ w2, (∀ ty, (Builtin.copy_ #[T, T] ty #[.slice (some ⟨g, 0, none⟩) n n, .slice (some x) n cap]).run Try.prog w1 = .ok (.int .i64 (n : Nat)) w2) ∧ Arr w2 g e n (fun i => .int k (z i)) ∧ Only g w1 w2 := by
  obtain ⟨cur, hg, hn, _⟩ := hA
  have hlen : ((List.range n).map (fun i => Value.int k (z i))).length = n := by simp
  have hr := fun ty => run_copy_row (P := Try.prog) w1 T T ty e g 0 n n x n cap cur e ((List.range n).map (fun i => Value.int k (z i))) hu hs hg (by simp) (by
    intro j v hj
    have hjn : j < n := by
      have := (List.getElem?_eq_some_iff.1 hj).1
      simpa using this
    rw [hc j hjn]
    simpa [hjn] using hj) (by rw [hlen]; omega) (by
    intro v hv
    obtain ⟨_, _, rfl⟩ := List.mem_map.1 hv
    rfl)
  simp only [hlen] at hr
  refine ⟨_, hr, ?_, ⟨rfl, rfl, rfl, by simp, fun k hk => setRow_other w1 g k _ hk⟩⟩
  refine ⟨_, setRow_heap w1 g _ _ e _ hg, by simp, fun i hi => ?_⟩
  simp only [List.take_zero, List.nil_append, List.getElem?_toArray]
  rw [List.getElem?_append_left (by simpa using hi)]
  simp [hi]

theorem Only.grown {g : Nat} {w1 w2 w : World} (h : Only g w1 w2) (hb : Below w.heap.size w w1) (hg : w.heap.size ≤ g) : Below w.heap.size w w2 := hb.trans (h.below hg)

theorem good_of {n m p : Nat} {r s : Nat → Nat} {A : Nat → Int} (hsp : Space n r s p) (hasc : Asc m A n) (hn : n ≤ 4096) (hm : m ≤ 4096) :
    ∃ A' : Nat → Nat, Good n r m A' ∧ (∀ j, j < m → A j = (A' j : Nat)) ∧ (∀ j, j < n → s j = pr r j) := by
  refine ⟨fun j => (A j).toNat, ⟨hn, hm, fun j hj => (hsp.1 j hj).1, fun j hj => (hsp.1 j hj).2.1, hsp.2.2, fun j hj => ?_, fun j hj => ?_⟩, fun j hj => ?_, fun j hj => (hsp.1 j hj).2.2⟩
  · have := hasc j hj; omega
  · have h1 := hasc j (by omega)
    have h2 := hasc (j + 1) hj
    have h3 := h2.2.2 (by omega)
    simp only [Nat.add_sub_cancel] at h3
    omega
  · have := hasc j hj; show A j = ((A j).toNat : Int); omega

/-- A row of the call's own, as a slice. -/
theorem row_at {w : World} {base cap : Nat} {ao : Option Addr} {L : List Nat} (h : w.ownsRow base 24 1 (.slice ao L.length cap) L.length (U L)) :
    ∃ gg, At ao gg L.length ∧ (0 < L.length → base ≤ gg ∧ Arr w gg 24 L.length (fun i => .int .u64 (L.getD i 0 : Nat))) := by
  rcases h.2 with ⟨h1, h2⟩ | ⟨g, cap', cur, h1, hb, _⟩
  · injection h1 with h1 _ _
    exact ⟨0, .inr ⟨h1, h2⟩, fun h => by omega⟩
  · injection h1 with h1 _ h3
    subst h1; subst h3
    refine ⟨g, .inl rfl, fun _ => ⟨hb, Arr.of_owns h (fun i hi => ?_)⟩⟩
    simp [U, hi]

end Go.Proofs.Qxb6614073a
