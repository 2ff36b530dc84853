import Derived.Test.Qxb6612943aR5
import Derived.Deep.CutRange
namespace Go.Proofs.Qxb6612943a
open Go.RowKit
set_option linter.unusedVariables false
set_option linter.unusedSimpArgs false

theorem info5 : (Try.prog.info? 5).map (fun i => (i.zero, i.size, i.bytes)) = some (some (.int .u8 0), 1, 1) := by kernel_rfl
theorem made_arr {w w1 : World} {e n : Nat} {z : Value} (hown : w1.ownsRow w.heap.size e 1 (.slice (some ⟨w.heap.size, 0, none⟩) n n) n (madeCells #[z] n).toList) :
    Arr w1 w.heap.size e n (fun _ => z) := by
  refine Arr.of_owns hown (fun i hi => ?_)
  rw [toList_madeCells_one]
  simp [hi]
theorem below_none {w w1 : World} (h : w.grownBy w1 none) : Below w.heap.size w w1 := (Below.refl _ _).grown h (Nat.le_refl _) (fun k hk => by cases hk)

/-- WHAT THE WALK IS TOLD OF A TEXT THAT CAME IN. -/
def Came (w : World) (a : Option Addr) (n : Nat) (d : Nat → Int) : Prop :=
  n ≤ maxLen ∧ ((a = none ∧ n = 0) ∨ ∃ x, a = some x ∧ ∀ i, i < n → w.cell? (x.add i) = some (.int .u8 (d i)))

/-- A text that is nil and empty, or a copy of the call's own. -/
def Cp (B : Nat) (wc : World) (v : Value) (n : Nat) (d : Nat → Int) : Prop :=
  (v = .slice none 0 0 ∧ n = 0) ∨ (∃ c, v = .slice none n c ∧ n = 0) ∨ ∃ g, v = .slice (some ⟨g, 0, none⟩) n n ∧ B ≤ g ∧ Arr wc g 5 n (fun i => .int .u8 (d i))

theorem copy_run {w1 : World} {g n e cap : Nat} {T : TypeId} {x : Addr} {k : IntKind} {z : Nat → Int} {f0 : Nat → Value} (hu : Try.prog.underlying T = some (.slice e)) (hs : (Try.prog.info? e).map (·.size) = some 1)
    (hA : Arr w1 g e n f0) (hc : ∀ i, i < n → w1.cell? (x.add i) = some (.int k (z i))) :
    ∃ w2, (∀ ty, (Builtin.copy_ #[T, T] ty #[.slice (some ⟨g, 0, none⟩) n n, .slice (some x) n cap]).run Try.prog w1 = .ok (.int .i64 (n : Nat)) w2) ∧ Arr w2 g e n (fun i => .int k (z i)) ∧ Only g w1 w2 := by
  obtain ⟨cur, hg, hn, _⟩ := hA
  have hlen : ((List.range n).map (fun i => Value.int k (z i))).length = n := by simp
  have hr := fun ty => run_copy_row (P := Try.prog) w1 T T ty e g 0 n n x n cap cur e ((List.range n).map (fun i => Value.int k (z i))) hu hs hg (by simp) (by
    intro j v hj
    have hjn : j < n := by
      have := (List.getElem?_eq_some_iff.1 hj).1
      simpa using this
    rw [hc j hjn]
    simpa [hjn] using hj) (by rw [hlen]; omega) (by
    intro v hv
    obtain ⟨_, _, rfl⟩ := List.mem_map.1 hv
    rfl)
  simp only [hlen] at hr
  refine ⟨_, hr, ?_, ⟨rfl, rfl, rfl, by simp, fun k hk => setRow_other w1 g k _ hk⟩⟩
  refine ⟨_, setRow_heap w1 g _ _ e _ hg, by simp, fun i hi => ?_⟩
  simp only [List.take_zero, List.nil_append, List.getElem?_toArray]
  rw [List.getElem?_append_left (by simpa using hi)]
  simp [hi]

theorem Only.grown {g : Nat} {w1 w2 w : World} (h : Only g w1 w2) (hb : Below w.heap.size w w1) (hg : w.heap.size ≤ g) : Below w.heap.size w w2 := hb.trans (h.below hg)

/-- A text as the walks of the grammar want it. -/
theorem Cp.tx {B : Nat} {wc : World} {v : Value} {n : Nat} {d : Nat → Int} (h : Cp B wc v n d) (h0 : ∀ i, 0 ≤ d i) (h1 : ∀ i, d i ≤ 255) (hn : n ≤ 1048579) :
    ∃ a c g, v = .slice a n c ∧ Tx wc a n c g d ∧ (0 < n → a = some ⟨g, 0, none⟩ ∧ c = n ∧ B ≤ g ∧ Arr wc g 5 n (fun i => .int .u8 (d i))) := by
  rcases h with ⟨rfl, rfl⟩ | ⟨c, rfl, rfl⟩ | ⟨g, rfl, hB, hA⟩
  · exact ⟨none, 0, 0, rfl, ⟨fun i w' hi => absurd hi (by omega), fun i hi => absurd hi (by omega), h0, h1, hn⟩, fun h => absurd h (by omega)⟩
  · exact ⟨none, c, 0, rfl, ⟨fun i w' hi => absurd hi (by omega), fun i hi => absurd hi (by omega), h0, h1, hn⟩, fun h => absurd h (by omega)⟩
  · exact ⟨some ⟨g, 0, none⟩, n, g, rfl, ⟨ix_head g n n, fun i hi => hA.cell hi, h0, h1, hn⟩, fun _ => ⟨rfl, rfl, hB, hA⟩⟩
theorem Tx.kept {w w' : World} {a : Option Addr} {n c g : Nat} {d : Nat → Int} (h : Tx w a n c g d) (hb : Below w.heap.size w w') : Tx w' a n c g d :=
  ⟨h.ix, fun i hi => (hb.cell (World.block_lt_of_cell? _ _ (h.cl i hi))).trans (h.cl i hi), h.lo, h.hi, h.big⟩

/-! ZZnewJSONScanner, ZZcheckNumbers, ZZjsonScannerPos -/
def NwPost (g n : Nat) (d : Nat → Int) (p : Nat) (w : World) (e : Ending) (w' : World) : Prop := ∃ S, e = .returned (.pointer (some ⟨S, 0, none⟩)) ∧ w.heap.size ≤ S ∧ Below w.heap.size w w' ∧ Sc w' S g n d p

theorem new_any (g n : Nat) (d : Nat → Int) (p : Nat) (w : World) (hc : ∀ i, i < n → w.cell? ⟨g, i, none⟩ = some (.int .u8 (d i))) (hn : 0 < n) (hp : p ≤ n) :
    Calls Try.prog 8 #[.slice (some ⟨g, 0, none⟩) n n, .int .i64 p] w (NwPost g n d p w) := by
  have hg : g < w.heap.size := World.block_lt_of_cell? _ _ (hc 0 hn)
  obtain ⟨hb, k⟩ := one_block w (.cells #[.slice (some ⟨g, 0, none⟩) n n, .int .i64 p] 36)
  have HB := Hid.mk (And.intro hb k)
  clear hb k
  go_enter Try.func8, Try.ntmps8
  go_wp2
  go_ret
  exact ⟨_, rfl, Nat.le_refl _, HB.out.1, HB.out.2, fun i hi => (HB.out.1.cell hg).trans (hc i hi), by omega, hp⟩

theorem check9 (w : World) (S g n : Nat) (d : Nat → Int) (p i e f : Nat) (b : Int) (hS : Sc w S g n d p) (hBt : Bt n d) (hr : Run ws d n p i) (hG : G d n f 0 i e b) (hD : Dl d n e) :
    Calls Try.prog 9 #[.pointer (some ⟨S, 0, none⟩)] w (CPost S g n d e b w) := by
  have HC := Hid.mk (check_any f w S g n d p i e b hS hBt hr hG hD)
  clear hG hD hr
  go_enter Try.func9, Try.ntmps9
  go_wp2_with fail
  refine HC.out.mono ?_
  rintro en w1 ⟨rfl, h1, h2⟩
  go_wp2
  go_ret
  exact ⟨rfl, h1, h2⟩

theorem pos10 (w : World) (S g n : Nat) (d : Nat → Int) (p : Nat) (hS : Sc w S g n d p) : Calls Try.prog 10 #[.pointer (some ⟨S, 0, none⟩)] w fun e w' => e = .returned (.int .i64 p) ∧ w' = w := by
  have c1 := hS.c1
  go_enter Try.func10, Try.ntmps10
  go_wp2
  go_ret
  exact ⟨rfl, rfl⟩

/-- The grammar's word on where a value ends and where its first number out of bounds ends. -/
theorem G.bnd {d : Nat → Int} {n : Nat} : ∀ {f : Nat} {t : Int} {i e : Nat} {b : Int}, G d n f t i e b → b = -1 ∨ (0 ≤ b ∧ b ≤ n)
  | 0, _, _, _, _, h => h.elim
  | f + 1, t, i, e, b, h => by
    rcases h with ⟨_, hi, h⟩ | ⟨_, v, e1, b1, k, hp, hv, hk, hkn, h⟩
    · rcases h with ⟨_, _, h⟩ | ⟨_, inb, hN, h⟩ | ⟨_, _, _, _, h⟩ | ⟨_, j, hj, hjn, h⟩
      · exact .inl h
      · have := hN.le
        cases inb
        · exact .inr (by rw [h]; simp; omega)
        · exact .inl (by rw [h]; simp)
      · exact .inl h
      · rcases h with ⟨_, _, h⟩ | ⟨_, hg⟩
        · exact .inl h
        · exact hg.bnd
    · have h1 := hv.bnd
      rcases h with ⟨_, m, b2, hm, hg, hb⟩ | ⟨_, _, hb⟩
      · have h2 := hg.bnd
        rw [hb]; split
        · exact h2
        · exact h1
      · rw [hb]; exact h1

theorem same_ok {e : Nat} {b : Int} (hb : b = -1 ∨ 0 ≤ b) : (if 0 ≤ b then (!decide (b < 0) && decide ((stop e b : Int) = b)) else (decide (b < 0) && decide ((stop e b : Int) = (e : Int)))) = true := by
  unfold stop
  rcases hb with rfl | hb
  · simp
  · have h1 : ¬ b < 0 := by omega
    rw [if_pos hb, if_neg h1]
    simp [hb, h1]
    omega


end Go.Proofs.Qxb6612943a
