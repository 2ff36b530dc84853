import Derived.Test.Qxb6614174aFin
/-!
THE THREE TABLES TOGETHER, as the law's calls go on.
-/
namespace Go.Proofs.Qxb6614174a
open Go.RowKit
set_option linter.unusedVariables false
set_option linter.unusedSimpArgs false

structure Bun (W0 w : World) (ra rb rc : Nat) (La Lb Lc : List (ByteArray × Ent)) (ga gb gc m : Nat) (ev : Nat → Int) (had : Prop) : Prop where
  ma : Mp Ent.v w ra La
  mb : Mp Ent.v w rb Lb
  mc : Mp Ent.v w rc Lc
  ev : had → EvA w ga m m ev ∧ EvA w gb m m ev ∧ EvA w gc m m ev
  ab : ra ≠ rb
  ac : ra ≠ rc
  bc : rb ≠ rc
  ga1 : had → ga ≠ ra ∧ ga ≠ rb ∧ ga ≠ rc ∧ gb ≠ ra ∧ gb ≠ rb ∧ gb ≠ rc ∧ gc ≠ ra ∧ gc ≠ rb ∧ gc ≠ rc
  old : Below W0.heap.size W0 w
  la : W0.heap.size ≤ ra
  lb : W0.heap.size ≤ rb
  lc : W0.heap.size ≤ rc

section
variable {W0 w w' : World} {ra rb rc : Nat} {La Lb Lc L' : List (ByteArray × Ent)} {ga gb gc m : Nat} {ev : Nat → Int} {had : Prop}

theorem Bun.below (h : Bun W0 w ra rb rc La Lb Lc ga gb gc m ev had) (hb : Below w.heap.size w w') : Bun W0 w' ra rb rc La Lb Lc ga gb gc m ev had :=
  ⟨h.ma.kept hb, h.mb.kept hb, h.mc.kept hb, fun hh => ⟨(h.ev hh).1.kept hb, (h.ev hh).2.1.kept hb, (h.ev hh).2.2.kept hb⟩, h.ab, h.ac, h.bc, h.ga1, h.old.trans (hb.mono h.old.size), h.la, h.lb, h.lc⟩

theorem But.old {r B : Nat} (hb : But r w.heap.size w w') (h : Below W0.heap.size W0 w) (hr : W0.heap.size ≤ r) : Below W0.heap.size W0 w' :=
  ⟨hb.os.trans h.os, hb.tape.trans h.tape, hb.output.trans h.output, Nat.le_trans h.size hb.size, fun k hk => (hb.block k (Nat.lt_of_lt_of_le hk h.size) (by omega)).trans (h.block k hk)⟩

theorem Bun.endA (h : Bun W0 w ra rb rc La Lb Lc ga gb gc m ev had) (hb : But ra w.heap.size w w') (hm : Mp Ent.v w' ra L') : Bun W0 w' ra rb rc L' Lb Lc ga gb gc m ev had :=
  ⟨hm, h.mb.of_block (hb.block rb h.mb.lt (Ne.symm h.ab)), h.mc.of_block (hb.block rc h.mc.lt (Ne.symm h.ac)),
    fun hh => ⟨(h.ev hh).1.of_block (hb.block ga (h.ev hh).1.lt (h.ga1 hh).1), (h.ev hh).2.1.of_block (hb.block gb (h.ev hh).2.1.lt (h.ga1 hh).2.2.2.1), (h.ev hh).2.2.of_block (hb.block gc (h.ev hh).2.2.lt (h.ga1 hh).2.2.2.2.2.2.1)⟩,
    h.ab, h.ac, h.bc, h.ga1, But.old (B := 0) hb h.old h.la, h.la, h.lb, h.lc⟩

theorem Bun.endB (h : Bun W0 w ra rb rc La Lb Lc ga gb gc m ev had) (hb : But rb w.heap.size w w') (hm : Mp Ent.v w' rb L') : Bun W0 w' ra rb rc La L' Lc ga gb gc m ev had :=
  ⟨h.ma.of_block (hb.block ra h.ma.lt h.ab), hm, h.mc.of_block (hb.block rc h.mc.lt (Ne.symm h.bc)),
    fun hh => ⟨(h.ev hh).1.of_block (hb.block ga (h.ev hh).1.lt (h.ga1 hh).2.1), (h.ev hh).2.1.of_block (hb.block gb (h.ev hh).2.1.lt (h.ga1 hh).2.2.2.2.1), (h.ev hh).2.2.of_block (hb.block gc (h.ev hh).2.2.lt (h.ga1 hh).2.2.2.2.2.2.2.1)⟩,
    h.ab, h.ac, h.bc, h.ga1, But.old (B := 0) hb h.old h.lb, h.la, h.lb, h.lc⟩
end

/-- What the three tables hold as they were built. -/
def Src (nm : Nat → ByteArray) (fl : Nat → Bool) (ns : Nat → Int) (n m : Nat) (name : ByteArray) (La Lb Lc : List (ByteArray × Ent)) (ga gb gc : Nat) (had : Prop) : Prop :=
  (¬ had ∧ look (bld nm fl ns n) name = none ∧ La = bld nm fl ns n ∧ Lb = bld nm fl ns n ∧ Lc = bld nm fl ns n) ∨
  (had ∧ ∃ x, look (bld nm fl ns n) name = some x ∧ La = upd (bld nm fl ns n) name { x with a := some ⟨ga, 0, none⟩, n := m, c := m } ∧ Lb = upd (bld nm fl ns n) name { x with a := some ⟨gb, 0, none⟩, n := m, c := m } ∧ Lc = upd (bld nm fl ns n) name { x with a := some ⟨gc, 0, none⟩, n := m, c := m })

theorem bun_start {w w1 w2 w3 : World} {ra rb rc n m : Nat} {nm : Nat → ByteArray} {fl : Nat → Bool} {ns ev : Nat → Int} {name : ByteArray} (h1 : Built w w1 ra nm fl ns ev n m name) (h2 : Built w1 w2 rb nm fl ns ev n m name) (h3 : Built w2 w3 rc nm fl ns ev n m name) :
    ∃ La Lb Lc ga gb gc, ∃ had : Prop, Bun w w3 ra rb rc La Lb Lc ga gb gc m ev had ∧ Src nm fl ns n m name La Lb Lc ga gb gc had := by
  obtain ⟨r1, b1, h1⟩ := h1
  obtain ⟨r2, b2, h2⟩ := h2
  obtain ⟨r3, b3, h3⟩ := h3
  have hold : Below w.heap.size w w3 := (b1.trans (b2.mono b1.size)).trans (b3.mono (Nat.le_trans b1.size b2.size))
  have s1 := b1.size
  have s2 := b2.size
  have b23 : Below w1.heap.size w1 w3 := b2.trans (b3.mono b2.size)
  rcases h1 with ⟨n1, m1⟩ | ⟨x1, ga, e1, ga1, ga2, ga3, m1⟩
  · rcases h2 with ⟨n2, m2⟩ | ⟨x2, gb, e2, _⟩
    · rcases h3 with ⟨n3, m3⟩ | ⟨x3, gc, e3, _⟩
      · have l1 := m1.lt
        have l2 := m2.lt
        refine ⟨_, _, _, 0, 0, 0, False, ⟨m1.kept b23, m2.kept b3, m3, fun h => h.elim, by omega, by omega, by omega, fun h => h.elim, hold, r1, by omega, by omega⟩, .inl ⟨fun h => h, n1, rfl, rfl, rfl⟩⟩
      · rw [n1] at e3; cases e3
    · rw [n1] at e2; cases e2
  · rcases h2 with ⟨n2, _⟩ | ⟨x2, gb, e2, gb1, gb2, gb3, m2⟩
    · rw [n2] at e1; cases e1
    · rcases h3 with ⟨n3, _⟩ | ⟨x3, gc, e3, gc1, gc2, gc3, m3⟩
      · rw [n3] at e1; cases e1
      · obtain rfl : x1 = x2 := by rw [e1] at e2; exact Option.some.inj e2
        obtain rfl : x1 = x3 := by rw [e1] at e3; exact Option.some.inj e3
        have l1 := m1.lt
        have l2 := m2.lt
        have l3 := ga3.lt
        have l4 := gb3.lt
        have l5 := gc3.lt
        refine ⟨_, _, _, ga, gb, gc, True, ⟨m1.kept b23, m2.kept b3, m3, fun _ => ⟨ga3.kept b23, gb3.kept b3, gc3⟩, by omega, by omega, by omega, fun _ => ⟨ga2, by omega, by omega, by omega, gb2, by omega, by omega, by omega, gc2⟩, hold, r1, by omega, by omega⟩, .inr ⟨trivial, x1, e1, rfl, rfl, rfl⟩⟩

theorem bun_fin {W0 w : World} {ra rb rc : Nat} {La Lb Lc : List (ByteArray × Ent)} {ga gb gc m n : Nat} {ev ns : Nat → Int} {nm : Nat → ByteArray} {fl : Nat → Bool} {name : ByteArray} {had : Prop} {f1 f2 : Bool} {t1 t2 : Int} {LA LB : List (ByteArray × Ent)} (hm : m ≤ 1048576) (hs : Src nm fl ns n m name La Lb Lc ga gb gc had)
    (hLA : LA = upd (upd La name (endE (look La name) f1 t1)) name (endE (look (upd La name (endE (look La name) f1 t1)) name) f2 t2)) (hLB : LB = upd Lb name (endE (look Lb name) f2 t2))
    (h : Bun W0 w ra rb rc LA LB Lc ga gb gc m ev had) : ∃ hd xc, Fin w LA LB Lc nm n m ev name f2 t2 hd xc := by
  rcases hs with ⟨hh, h0, rfl, rfl, rfl⟩ | ⟨hh, x, h0, ea, eb, ec⟩
  · rw [hLA, hLB]
    exact ⟨false, zeroE, fin_none h0⟩
  · rw [hLA, hLB]
    exact ⟨true, _, fin_some h0 hm (h.ev hh).1 (h.ev hh).2.1 (h.ev hh).2.2 La Lb Lc ea eb ec⟩

theorem bun_out {W0 w : World} {ra rb rc : Nat} {La Lb Lc : List (ByteArray × Ent)} {ga gb gc m n : Nat} {ev ns : Nat → Int} {nm : Nat → ByteArray} {fl : Nat → Bool} {name : ByteArray} {had : Prop} {f1 f2 : Bool} {t1 t2 : Int} (hm : m ≤ 1048576) (hs : Src nm fl ns n m name La Lb Lc ga gb gc had)
    (h : Bun W0 w ra rb rc (upd (upd La name (endE (look La name) f1 t1)) name (endE (look (upd La name (endE (look La name) f1 t1)) name) f2 t2)) (upd Lb name (endE (look Lb name) f2 t2)) Lc ga gb gc m ev had) :
    ∃ LA LB hd xc, Mp Ent.v w ra LA ∧ Mp Ent.v w rb LB ∧ Mp Ent.v w rc Lc ∧ Fin w LA LB Lc nm n m ev name f2 t2 hd xc ∧ Below W0.heap.size W0 w := by
  obtain ⟨hd, xc, hF⟩ := bun_fin hm hs rfl rfl h
  exact ⟨_, _, hd, xc, h.ma, h.mb, h.mc, hF, h.old⟩

theorem run_look_some {w : World} {r : Nat} {L : List (ByteArray × Ent)} {s : ByteArray} {x : Ent} (h : Mp Ent.v w r L) (hl : look L s = some x) :
    (Instr.lookup 27 (.map (some r)) (.string s) true).run Try.prog w = .ok (.tuple #[.agg #[.string x.st, .bool x.f, .int .u64 (tW x.s), .int .i64 (tE x.s), .pointer none, .int .u64 (tW x.e), .int .i64 (tE x.e), .pointer none, .slice x.a x.n x.c], .bool true]) w := by
  have h1 := h.run_look und27 und9 (zero41 w) s true
  rw [hl] at h1
  exact h1
theorem run_look_bare {w : World} {r : Nat} {L : List (ByteArray × Ent)} {s : ByteArray} {x : Ent} (h : Mp Ent.v w r L) (hl : look L s = some x) :
    (Instr.lookup 27 (.map (some r)) (.string s) false).run Try.prog w = .ok (.agg #[.string x.st, .bool x.f, .int .u64 (tW x.s), .int .i64 (tE x.s), .pointer none, .int .u64 (tW x.e), .int .i64 (tE x.e), .pointer none, .slice x.a x.n x.c]) w :=
  run_look1 h s x (by rw [hl]; rfl)
theorem run_look_c {w : World} {r : Nat} {L : List (ByteArray × Ent)} {s : ByteArray} {xc : Ent} {hd : Bool} (h : Mp Ent.v w r L) (hl : look L s = if hd = true then some xc else none) :
    ∃ x, (Instr.lookup 27 (.map (some r)) (.string s) true).run Try.prog w = .ok (.tuple #[.agg #[.string x.st, .bool x.f, .int .u64 (tW x.s), .int .i64 (tE x.s), .pointer none, .int .u64 (tW x.e), .int .i64 (tE x.e), .pointer none, .slice x.a x.n x.c], .bool hd]) w ∧ (hd = true → x = xc) := by
  cases hd with
  | true => exact ⟨xc, run_look_some h (by simpa using hl), fun _ => rfl⟩
  | false =>
    have h1 := h.run_look und27 und9 (zero41 w) s true
    rw [hl] at h1
    exact ⟨zeroE, h1, fun h => by cases h⟩
theorem run_len_map {w : World} {r : Nat} {L : List (ByteArray × Ent)} (h : Mp Ent.v w r L) (ty : TypeId) : (Builtin.len_ #[27] ty #[.map (some r)]).run Try.prog w = .ok (.int .i64 (L.length : Nat)) w :=
  h.run_len und27 ty

def gr (hd : Bool) : Int := if hd = true then 0 else 1

end Go.Proofs.Qxb6614174a
