import Derived.Test.Qxb6612943aC3
namespace Go.Proofs.Qxb6612943a
open Go.RowKit
set_option linter.unusedVariables false
set_option linter.unusedSimpArgs false

/-! jsonText -/
def TPost (n i : Nat) (d : Nat → Int) (w : World) (e : Ending) (w' : World) : Prop :=
  Dr w w' ∧ ∃ (e1 : Nat) (ok : Bool) (b : Int), e = .returned (.tuple #[.int .i64 e1, .bool ok, .int .i64 b]) ∧ (ok = true → ∃ i0 f, Run ws d n i i0 ∧ G d n f 0 i0 e1 b ∧ Run ws d n e1 n)
theorem TPost.no {n i : Nat} {d : Nat → Int} {w w' : World} (h : Dr w w') (j : Nat) (x : Int) : TPost n i d w (.returned (.tuple #[.int .i64 j, .bool false, .int .i64 x])) w' := ⟨h, j, false, x, rfl, fun h => by cases h⟩

set_option maxRecDepth 100000 in
set_option maxHeartbeats 1000000 in
theorem text_any (a : Option Addr) (n c g : Nat) (d : Nat → Int) (i : Nat) (w : World) (hT : Tx w a n c g d) (hi : i ≤ n) :
    Calls Try.prog 7 #[.slice a n c, .int .i64 i] w (TPost n i d w) := by
  have hn := hT.big
  go_enter Try.func7, Try.ntmps7
  go_wp2_with fail
  refine (skipWS_any a n c g d i w hT hi).mono ?_
  rintro e w ⟨rfl, i0, rfl, hr⟩
  have hr2 := hr.2.1
  have HR := Hid.mk hr
  clear hr
  go_wp2_with fail
  refine (value_any a n c g d _ i0 (Nat.le_refl _) hr2 w hT).mono ?_
  rintro e w1 ⟨hD, e1, ok, b, rfl, hok⟩
  have HO := Hid.mk hok
  clear hok
  cases ok with
  | false =>
    go_wp2
    go_ret3
    exact TPost.no hD _ _
  | true =>
    have HG := Hid.mk (HO.out rfl)
    have he := HG.out.2.1
    clear HO
    go_wp2_with fail
    refine (skipWS_any a n c g d e1 w1 (hT.dr hD) he).mono ?_
    rintro e w1 ⟨rfl, r, rfl, hk⟩
    by_cases hrn : r = n
    · have t1 : ((r : Int) != n) = false := by simp [hrn]
      obtain ⟨f, hf⟩ := HG.out.2.2
      have HF : Hid (∃ i0 f, Run ws d n i i0 ∧ G d n f 0 i0 e1 b ∧ Run ws d n e1 n) := ⟨i0, f, HR.out, hf, hrn ▸ hk⟩
      clear hk hf hrn
      go_wp2
      go_ret3
      exact ⟨hD, e1, true, b, rfl, fun _ => HF.out⟩
    · have t1 : ((r : Int) != n) = true := by simp; omega
      clear hk hrn
      go_wp2
      go_ret3
      exact TPost.no hD _ _

/-! THE SCANNER: block S holds the slice of the text (block g) and the place p. -/
structure Sc (w : World) (S g n : Nat) (d : Nat → Int) (p : Nat) : Prop where
  blk : w.heap[S]? = some (.cells #[.slice (some ⟨g, 0, none⟩) n n, .int .i64 p] 36 (0, 0))
  cl : ∀ i, i < n → w.cell? ⟨g, i, none⟩ = some (.int .u8 (d i))
  ne : g ≠ S
  le : p ≤ n

def Bt (n : Nat) (d : Nat → Int) : Prop := (∀ i, 0 ≤ d i) ∧ (∀ i, d i ≤ 255) ∧ n ≤ 1048579

/-- Of what was there, only block S may have turned. -/
structure But (S : Nat) (w w' : World) : Prop where
  os : w'.os = w.os
  tape : w'.tape = w.tape
  output : w'.output = w.output
  size : w.heap.size ≤ w'.heap.size
  block : ∀ k, k < w.heap.size → k ≠ S → w'.heap[k]? = w.heap[k]?

theorem But.refl (S : Nat) (w : World) : But S w w := ⟨rfl, rfl, rfl, Nat.le_refl _, fun _ _ _ => rfl⟩
theorem But.trans {S : Nat} {a b c : World} (h : But S a b) (k : But S b c) : But S a c :=
  ⟨k.os.trans h.os, k.tape.trans h.tape, k.output.trans h.output, Nat.le_trans h.size k.size, fun i h1 h2 => (k.block i (Nat.lt_of_lt_of_le h1 h.size) h2).trans (h.block i h1 h2)⟩
theorem But.drewN {S : Nat} {a b : World} (h : But S a b) (q : Nat) : But S a (b.drewN q) := ⟨h.os, h.tape, h.output, h.size, h.block⟩
theorem But.undrewN {S q : Nat} {a b : World} (h : But S (a.drewN q) b) : But S a b := ⟨h.os, h.tape, h.output, h.size, h.block⟩
theorem But.set {S : Nat} {a b : World} (h : But S a b) (j : Nat) (u : Value) : But S a (b.setCell ⟨S, j, none⟩ u) :=
  h.trans ⟨rfl, rfl, rfl, by simp, fun k _ hk => heap_setCell_other b _ k u hk⟩
theorem But.alloc {S : Nat} {a b : World} (h : But S a b) (o : Obj) : But S a (b.alloc o) :=
  h.trans ⟨rfl, rfl, rfl, by simp, fun k hk _ => Below.heap_alloc b o k hk⟩
theorem But.below {S B : Nat} {a b : World} (h : But S a b) (hS : B ≤ S) (hB : B ≤ a.heap.size) : Below B a b := ⟨h.os, h.tape, h.output, h.size, fun k hk => h.block k (by omega) (by omega)⟩
theorem But.cell {S : Nat} {a b : World} (h : But S a b) {k j : Nat} {v : Value} (hk : k ≠ S) (hc : a.cell? ⟨k, j, none⟩ = some v) : b.cell? ⟨k, j, none⟩ = some v := by
  have hlt := World.block_lt_of_cell? _ _ hc
  have := h.block k hlt hk
  unfold World.cell? at hc ⊢
  simp only [this]
  exact hc
theorem Below.but {S : Nat} {a b : World} (h : Below a.heap.size a b) : But S a b := ⟨h.os, h.tape, h.output, h.size, fun k hk _ => h.block k hk⟩

theorem Sc.c0 {w : World} {S g n p : Nat} {d : Nat → Int} (h : Sc w S g n d p) : w.cell? ⟨S, 0, none⟩ = some (.slice (some ⟨g, 0, none⟩) n n) := cell_of_row w S 0 _ _ _ h.blk
theorem Sc.c1 {w : World} {S g n p : Nat} {d : Nat → Int} (h : Sc w S g n d p) : w.cell? ⟨S, 1, none⟩ = some (.int .i64 p) := cell_of_row w S 1 _ _ _ h.blk
theorem Sc.free {w : World} {S g n p : Nat} {d : Nat → Int} (h : Sc w S g n d p) (j : Nat) : w.frozen? ⟨S, j, none⟩ = false := frozen_of_row w S j _ _ h.blk
theorem Sc.lt {w : World} {S g n p : Nat} {d : Nat → Int} (h : Sc w S g n d p) : S < w.heap.size := (Array.getElem?_eq_some_iff.1 h.blk).1
theorem Sc.drewN {w : World} {S g n p : Nat} {d : Nat → Int} (h : Sc w S g n d p) (q : Nat) : Sc (w.drewN q) S g n d p := ⟨h.blk, h.cl, h.ne, h.le⟩
theorem Sc.set {w : World} {S g n p : Nat} {d : Nat → Int} (h : Sc w S g n d p) {q : Nat} (hq : q ≤ n) : Sc (w.setCell ⟨S, 1, none⟩ (.int .i64 (q : Int))) S g n d q :=
  ⟨heap_setCell_same w S 1 _ _ _ h.blk, fun i hi => (World.cell?_setCell_other _ _ _ _ (by intro e; injection e with e; exact h.ne e.symm)).trans (h.cl i hi), h.ne, hq⟩
theorem Sc.set' {w : World} {S g n p : Nat} {d : Nat → Int} (h : Sc w S g n d p) {x : Int} {q : Nat} (hx : x = q) (hq : q ≤ n) : Sc (w.setCell ⟨S, 1, none⟩ (.int .i64 x)) S g n d q := by subst hx; exact h.set hq
theorem Sc.kept {w w' : World} {S g n p : Nat} {d : Nat → Int} (h : Sc w S g n d p) (hb : Below w.heap.size w w') : Sc w' S g n d p :=
  ⟨(hb.block S h.lt).trans h.blk, fun i hi => (hb.cell (World.block_lt_of_cell? _ _ (h.cl i hi))).trans (h.cl i hi), h.ne, h.le⟩

/-- Where the scanner in block S stands. -/
def pos (w : World) (S : Nat) : Nat := match w.cell? ⟨S, 1, none⟩ with
  | some v => (intOf v).toNat
  | none => 0
theorem Sc.pos {w : World} {S g n p : Nat} {d : Nat → Int} (h : Sc w S g n d p) : pos w S = p := by simp [Qxb6612943a.pos, h.c1, intOf]

theorem pos_lt {w w' : World} {S g n k : Nat} {d : Nat → Int} (h : Sc w' S g n d (k + 1)) (h0 : Sc w S g n d k) (hk : k < n) : n - Qxb6612943a.pos w' S < n - Qxb6612943a.pos w S := by rw [h.pos, h0.pos]; omega

/-- An index into a part of a block. -/
theorem ix_own (g o n c : Nat) : ∀ (i : Nat) (w : World), i < n → (Instr.indexAt 22 (.slice (some ⟨g, o, none⟩) n c) (.int .i64 (i : Int))).run Try.prog w = .ok (.pointer (some ⟨g, o + i, none⟩)) w := by
  intro i w hi
  have hs : ∀ w, (sizeOf (Try.prog.elem 22)).run Try.prog w = .ok 1 w := fun w => by kernel_rfl
  rw [run_indexAt_slice w 22 _ _ _ _ _ (by kernel_rfl), if_pos (by omega), hs]
  simp [Result.andThen, Addr.add]
theorem ix_head (g n c : Nat) : ∀ (i : Nat) (w : World), i < n → (Instr.indexAt 22 (.slice (some ⟨g, 0, none⟩) n c) (.int .i64 (i : Int))).run Try.prog w = .ok (.pointer (some ⟨g, i, none⟩)) w := by
  intro i w hi
  have := ix_own g 0 n c i w hi
  simpa using this

theorem RunW {d : Nat → Int} {x j : Nat} (h : ∀ m, x ≤ m → m < j → ws (d m)) (hj : ws (d j)) : ∀ m, x ≤ m → m < j + 1 → ws (d m) := fun m h1 h2 => by
  by_cases e : m = j
  · subst e; exact hj
  · exact h m h1 (by omega)

/-- The byte that stands next. -/
def cur (d : Nat → Int) (n r : Nat) : Int := if r < n then d r else 0

set_option maxRecDepth 100000 in
set_option maxHeartbeats 1000000 in
theorem next_any (S g n : Nat) (d : Nat → Int) (p : Nat) (w : World) (hS : Sc w S g n d p) (hB : Bt n d) :
    Calls Try.prog 24 #[.pointer (some ⟨S, 0, none⟩)] w fun e w' => ∃ r, Run ws d n p r ∧ e = .returned (.int .u8 (cur d n r)) ∧ But S w w' ∧ Sc w' S g n d r := by
  have hn := hB.2.2
  have x0 := ix_head g n n
  go_enter Try.func24, Try.ntmps24
  go_wp2_with fail
  go_loopw [3] (fun s3 wr => ∃ k, p ≤ k ∧ (∀ m, p ≤ m → m < k → ws (d m)) ∧ But S w wr ∧ Sc wr S g n d k) (fun _ wr => n - pos wr S)
  case atStart => exact ⟨p, Nat.le_refl _, fun m h1 h2 => by omega, But.refl _ _, hS⟩
  case round =>
    obtain ⟨k, hk, hP, hBt, hSk⟩ := hrel
    have HP := Hid.mk hP
    clear hP
    have c0 := hSk.c0
    have c1 := hSk.c1
    have hkn := hSk.le
    by_cases hlt : k < n
    · have e0 := hSk.cl k hlt
      have hfr := hSk.free 1
      by_cases hw : ws (d k)
      · have hw' := hw
        rcases hw with h | h | h | h
        · have HW := Hid.mk hw'
          have t0 : (d k == 32) = true := by simp [h]
          clear h hw'
          go_wp2_with fail
          go_quiet (fail)
          go_wp2_with fail
          go_quiet (fail)
          go_wp2
          go_roundw
          case rel => exact ⟨k + 1, by omega, RunW HP.out HW.out, (hBt.set 1 _).drewN _, (hSk.set' (q := k + 1) (by omega) (by omega)).drewN _⟩
          case measure => exact pos_lt ((hSk.drewN _).set' (q := k + 1) (by omega) (by omega)) hSk hlt
        · have HW := Hid.mk hw'
          have t0 : (d k == 32) = false := by simp [h]
          have t1 : (d k == 9) = true := by simp [h]
          clear h hw'
          go_wp2_with fail
          go_quiet (fail)
          go_wp2_with fail
          go_quiet (fail)
          go_wp2
          go_roundw
          case rel => exact ⟨k + 1, by omega, RunW HP.out HW.out, (hBt.set 1 _).drewN _, (hSk.set' (q := k + 1) (by omega) (by omega)).drewN _⟩
          case measure => exact pos_lt ((hSk.drewN _).set' (q := k + 1) (by omega) (by omega)) hSk hlt
        · have HW := Hid.mk hw'
          have t0 : (d k == 32) = false := by simp [h]
          have t1 : (d k == 9) = false := by simp [h]
          have t2 : (d k == 10) = true := by simp [h]
          clear h hw'
          go_wp2_with fail
          go_quiet (fail)
          go_wp2_with fail
          go_quiet (fail)
          go_wp2
          go_roundw
          case rel => exact ⟨k + 1, by omega, RunW HP.out HW.out, (hBt.set 1 _).drewN _, (hSk.set' (q := k + 1) (by omega) (by omega)).drewN _⟩
          case measure => exact pos_lt ((hSk.drewN _).set' (q := k + 1) (by omega) (by omega)) hSk hlt
        · have HW := Hid.mk hw'
          have t0 : (d k == 32) = false := by simp [h]
          have t1 : (d k == 9) = false := by simp [h]
          have t2 : (d k == 10) = false := by simp [h]
          have t3 : (d k == 13) = true := by simp [h]
          clear h hw'
          go_wp2_with fail
          go_quiet (fail)
          go_wp2_with fail
          go_quiet (fail)
          go_wp2
          go_roundw
          case rel => exact ⟨k + 1, by omega, RunW HP.out HW.out, (hBt.set 1 _).drewN _, (hSk.set' (q := k + 1) (by omega) (by omega)).drewN _⟩
          case measure => exact pos_lt ((hSk.drewN _).set' (q := k + 1) (by omega) (by omega)) hSk hlt
      · have t1 : (d k == 32) = false := by simp; intro h; exact hw (.inl h)
        have t2 : (d k == 9) = false := by simp; intro h; exact hw (.inr (.inl h))
        have t3 : (d k == 10) = false := by simp; intro h; exact hw (.inr (.inr (.inl h)))
        have t4 : (d k == 13) = false := by simp; intro h; exact hw (.inr (.inr (.inr h)))
        have HW := Hid.mk hw
        clear hw
        go_wp2_with fail
        go_quiet (fail)
        go_wp2_with fail
        go_quiet (fail)
        go_wp2
        go_ret
        exact ⟨k, ⟨hk, hkn, HP.out, fun _ => HW.out⟩, by simp [cur, hlt], hBt.drewN _, hSk.drewN _⟩
    · go_wp2_with fail
      go_quiet (fail)
      go_wp2
      go_ret
      exact ⟨k, ⟨hk, hkn, HP.out, fun h => absurd h hlt⟩, by simp [cur, hlt], hBt.drewN _, hSk.drewN _⟩

end Go.Proofs.Qxb6612943a
