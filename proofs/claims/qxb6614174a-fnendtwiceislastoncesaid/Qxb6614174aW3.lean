import Derived.Test.Qxb6614174aW2
import Derived.BigQuiet
namespace Go.Proofs.Qxb6614174a
open Go.RowKit
set_option linter.unusedVariables false
set_option linter.unusedSimpArgs false

/-- The runner behind pointer R holds the map r. -/
def Rn (w : World) (R r : Nat) : Prop := w.cell? ⟨R, 43, none⟩ = some (.map (some r))

set_option maxRecDepth 100000 in
set_option maxHeartbeats 1000000 in
theorem runner_any (r : Nat) (w : World) :
    Calls Try.prog 6 #[.map (some r)] w fun e w' => e = .returned (.pointer (some ⟨w.heap.size, 0, none⟩)) ∧ Rn w' w.heap.size r ∧ Below w.heap.size w w' := by
  go_enter Try.func6, Try.ntmps6
  go_wp2
  go_ret
  exact ⟨rfl, cell_of_row _ _ 43 _ _ _ (Go.heap_alloc_new w _), (Below.refl _ _).alloc (Nat.le_refl _) _⟩

theorem states_any (R r : Nat) (w : World) (h : Rn w R r) :
    Calls Try.prog 9 #[.pointer (some ⟨R, 0, none⟩)] w fun e w' => e = .returned (.map (some r)) ∧ w' = w := by
  unfold Rn at h
  go_enter Try.func9, Try.ntmps9
  go_wp2
  go_ret
  exact ⟨rfl, rfl⟩

/-- Of the blocks below B none but r has turned. -/
structure But (r B : Nat) (w w' : World) : Prop where
  os : w'.os = w.os
  tape : w'.tape = w.tape
  output : w'.output = w.output
  size : w.heap.size ≤ w'.heap.size
  block : ∀ k, k < B → k ≠ r → w'.heap[k]? = w.heap[k]?

def endE (o : Option Ent) (f : Bool) (t : Int) : Ent := { o.getD zeroE with st := dead, f := f, e := t }

theorem run_look1 {w : World} {r : Nat} {L : List (ByteArray × Ent)} (h : Mp Ent.v w r L) (s : ByteArray) (x : Ent) (hx : (look L s).getD zeroE = x) :
    (Instr.lookup 27 (.map (some r)) (.string s) false).run Try.prog w = .ok (.agg #[.string x.st, .bool x.f, .int .u64 (tW x.s), .int .i64 (tE x.s), .pointer none, .int .u64 (tW x.e), .int .i64 (tE x.e), .pointer none, .slice x.a x.n x.c]) w := by
  have h1 := h.run_look und27 und9 (zero41 w) s false
  subst hx
  cases hl : look L s with
  | none => rw [hl] at h1; exact h1
  | some v => rw [hl] at h1; exact h1

set_option maxRecDepth 100000 in
set_option maxHeartbeats 1000000 in
theorem end_any (R r : Nat) (L : List (ByteArray × Ent)) (name : ByteArray) (f : Bool) (t : Int) (w : World) (hR : Rn w R r) (hM : Mp Ent.v w r L) :
    Calls Try.prog 11 #[.pointer (some ⟨R, 0, none⟩), .string name, .bool f, .agg #[.int .u64 (tW t), .int .i64 (tE t), .pointer none]] w fun e w' => e = .returned (.tuple #[]) ∧ Mp Ent.v w' r (upd L name (endE (look L name) f t)) ∧ But r w.heap.size w w' := by
  unfold Rn at hR
  obtain ⟨x, hx⟩ : ∃ x, (look L name).getD zeroE = x := ⟨_, rfl⟩
  have hlk := fun o => run_look1 (hM.kept ((Below.refl _ _).alloc (Nat.le_refl _) o)) name x hx
  have HX := Hid.mk hx
  have hRl : R < w.heap.size := World.block_lt_of_cell? _ _ hR
  have hrl := hM.lt
  clear hx
  go_enter Try.func11, Try.ntmps11
  have hBel : ∀ o1 o2, Below w.heap.size w (((w.alloc o1).alloc o2).drew.drew) := fun o1 o2 => (((Below.refl _ _).alloc (Nat.le_refl _) o1).alloc (by simp) o2).drew.drew
  obtain ⟨w3, hmu, hM3, hO3⟩ := run_upd_ent (hM.kept (hBel (.cells #[.int .u64 (tW t), .int .i64 (tE t), .pointer none] 35) (.cells #[.string ⟨#[100, 101, 97, 100]⟩, .bool f, .int .u64 (tW x.s), .int .i64 (tE x.s), .pointer none, .int .u64 (tW t), .int .i64 (tE t), .pointer none, .slice x.a x.n x.c] 41))) name { x with st := dead, f := f, e := t }
  have hfin : Mp Ent.v w3 r (upd L name (endE (look L name) f t)) ∧ But r w.heap.size w w3 := by
    refine ⟨by unfold endE; rw [HX.out]; exact hM3, ?_⟩
    have hb := hBel (.cells #[.int .u64 (tW t), .int .i64 (tE t), .pointer none] 35) (.cells #[.string ⟨#[100, 101, 97, 100]⟩, .bool f, .int .u64 (tW x.s), .int .i64 (tE x.s), .pointer none, .int .u64 (tW t), .int .i64 (tE t), .pointer none, .slice x.a x.n x.c] 41)
    exact ⟨hO3.os.trans hb.os, hO3.tape.trans hb.tape, hO3.output.trans hb.output, by have h1 := hb.size; have h2 := hO3.size; omega, fun k hk hn => (hO3.block k hn).trans (hb.block k hk)⟩
  have HF := Hid.mk hfin
  clear hfin hM3 hO3 hBel hM
  unfold dead at hmu
  go_wp2_with fail
  go_region
  go_wp2
  go_region
  go_wp2
  go_end0
  exact ⟨rfl, HF.out⟩

end Go.Proofs.Qxb6614174a
