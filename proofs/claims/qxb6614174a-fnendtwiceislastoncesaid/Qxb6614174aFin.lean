import Derived.Test.Qxb6614174aW4
/-!
WHAT THE LAW READS OFF THE THREE TABLES: no walk here.
-/
namespace Go.Proofs.Qxb6614174a
open Go.RowKit
set_option linter.unusedVariables false
set_option linter.unusedSimpArgs false

theorem bld_entry (nm : Nat → ByteArray) (fl : Nat → Bool) (ns : Nat → Int) (p : ByteArray) (y : Ent) : ∀ k, look (bld nm fl ns k) p = some y → y.a = none ∧ y.n = 0 ∧ y.c = 0
  | 0, h => by simp [bld, look] at h
  | k + 1, h => by
    by_cases e : p = nm k
    · subst e
      rw [bld, look_upd_same] at h
      injection h with h
      subst h
      exact ⟨rfl, rfl, rfl⟩
    · rw [bld, look_upd_other e] at h
      exact bld_entry nm fl ns p y k h

theorem bld_has (nm : Nat → ByteArray) (fl : Nat → Bool) (ns : Nat → Int) {i : Nat} : ∀ k, i < k → ∃ y, look (bld nm fl ns k) (nm i) = some y
  | 0, h => by omega
  | k + 1, h => by
    by_cases e : nm i = nm k
    · rw [bld, e, look_upd_same]; exact ⟨_, rfl⟩
    · rw [bld, look_upd_other e]
      exact bld_has nm fl ns k (by
        by_cases e2 : i = k
        · subst e2; exact absurd rfl e
        · omega)

theorem EvR.kept {w w' : World} {a : Option Addr} {n c g : Nat} {ev : Nat → Int} (h : EvR w a n c g ev) (hb : Below w.heap.size w w') : EvR w' a n c g ev := by
  refine ⟨h.ix, fun i hi => ?_⟩
  obtain ⟨a1, a2, a3, a4, a5⟩ := h.c0 i hi
  exact ⟨(hb.cell (World.block_lt_of_cell? _ _ a1)).trans a1, (hb.cell (World.block_lt_of_cell? _ _ a2)).trans a2, (hb.cell (World.block_lt_of_cell? _ _ a3)).trans a3, (hb.cell (World.block_lt_of_cell? _ _ a4)).trans a4, (hb.cell (World.block_lt_of_cell? _ _ a5)).trans a5⟩

/-- Two states that read alike. -/
structure Same (w : World) (x y : Ent) (ev : Nat → Int) : Prop where
  st : y.st = x.st
  f : y.f = x.f
  s : y.s = x.s
  e : y.e = x.e
  n : y.n = x.n
  le : x.n ≤ 1048576
  ex : ∃ g, EvR w x.a x.n x.c g ev
  ey : ∃ g, EvR w y.a y.n y.c g ev

theorem Same.kept {w w' : World} {x y : Ent} {ev : Nat → Int} (h : Same w x y ev) (hb : Below w.heap.size w w') : Same w' x y ev :=
  ⟨h.st, h.f, h.s, h.e, h.n, h.le, h.ex.elim fun g hg => ⟨g, hg.kept hb⟩, h.ey.elim fun g hg => ⟨g, hg.kept hb⟩⟩

theorem same_ent {w : World} {x y : Ent} {ev : Nat → Int} (h : Same w x y ev) :
    Calls Try.prog 10 #[.agg #[.string x.st, .bool x.f, .int .u64 (tW x.s), .int .i64 (tE x.s), .pointer none, .int .u64 (tW x.e), .int .i64 (tE x.e), .pointer none, .slice x.a x.n x.c],
        .agg #[.string y.st, .bool y.f, .int .u64 (tW y.s), .int .i64 (tE y.s), .pointer none, .int .u64 (tW y.e), .int .i64 (tE y.e), .pointer none, .slice y.a y.n y.c]] w
      fun e w' => e = .returned (.bool true) ∧ Below w.heap.size w w' := by
  obtain ⟨gx, hx⟩ := h.ex
  obtain ⟨gy, hy⟩ := h.ey
  rw [h.n] at hy
  rw [h.st, h.f, h.s, h.e, h.n]
  exact same_any x.st x.f x.s x.e x.a y.a x.n x.c y.c gx gy ev w h.le hx hy

/-- WHAT THE LAW READS: the tables a (ended twice), b (ended once), c (as built). -/
structure Fin (w : World) (La Lb Lc : List (ByteArray × Ent)) (nm : Nat → ByteArray) (n m : Nat) (ev : Nat → Int) (name : ByteArray) (f2 : Bool) (t2 : Int) (had : Bool) (xc : Ent) : Prop where
  lab : La.length = Lb.length
  lbc : Lb.length = Lc.length + (if had = true then 0 else 1)
  each : ∀ i, i < n → ∃ x y, look La (nm i) = some x ∧ look Lb (nm i) = some y ∧ Same w x y ev ∧ (nm i ≠ name → ∃ z, look Lc (nm i) = some z ∧ Same w y z ev)
  nameA : ∃ x y, look La name = some x ∧ look Lb name = some y ∧ Same w x y ev ∧ y.st = dead ∧ y.f = f2 ∧ y.e = t2 ∧ (had = false → y.s = 0 ∧ y.n = 0) ∧ (had = true → y.s = xc.s ∧ y.n = m)
  c : look Lc name = if had = true then some xc else none
  small : Lc.length ≤ n + 1

theorem Fin.kept {w w' : World} {La Lb Lc : List (ByteArray × Ent)} {nm : Nat → ByteArray} {n m : Nat} {ev : Nat → Int} {name : ByteArray} {f2 : Bool} {t2 : Int} {had : Bool} {xc : Ent} (h : Fin w La Lb Lc nm n m ev name f2 t2 had xc) (hb : Below w.heap.size w w') : Fin w' La Lb Lc nm n m ev name f2 t2 had xc := by
  refine ⟨h.lab, h.lbc, fun i hi => ?_, ?_, h.c, h.small⟩
  · obtain ⟨x, y, h1, h2, h3, h4⟩ := h.each i hi
    exact ⟨x, y, h1, h2, h3.kept hb, fun hn => (h4 hn).elim fun z hz => ⟨z, hz.1, hz.2.kept hb⟩⟩
  · obtain ⟨x, y, h1, h2, h3, h4⟩ := h.nameA
    exact ⟨x, y, h1, h2, h3.kept hb, h4⟩

theorem bld_len (nm : Nat → ByteArray) (fl : Nat → Bool) (ns : Nat → Int) : ∀ k, (bld nm fl ns k).length ≤ k
  | 0 => Nat.le_refl _
  | k + 1 => by
    have := bld_len nm fl ns k
    rw [bld, len_upd]
    split <;> omega

section
variable {w : World} {nm : Nat → ByteArray} {fl : Nat → Bool} {ns ev : Nat → Int} {n m : Nat} {name : ByteArray} {f1 f2 : Bool} {t1 t2 : Int}

theorem same_plain {p : ByteArray} {y : Ent} (h : look (bld nm fl ns n) p = some y) : Same w y y ev := by
  obtain ⟨h1, h2, h3⟩ := bld_entry nm fl ns p y n h
  have hE : EvR w y.a y.n y.c 0 ev := by rw [h1, h2]; exact EvR.none w ev _
  exact ⟨rfl, rfl, rfl, rfl, rfl, by omega, ⟨0, hE⟩, ⟨0, hE⟩⟩

/-- The task was not there. -/
theorem fin_none (h0 : look (bld nm fl ns n) name = none) :
    Fin w (upd (upd (bld nm fl ns n) name (endE (look (bld nm fl ns n) name) f1 t1)) name (endE (look (upd (bld nm fl ns n) name (endE (look (bld nm fl ns n) name) f1 t1)) name) f2 t2))
      (upd (bld nm fl ns n) name (endE (look (bld nm fl ns n) name) f2 t2)) (bld nm fl ns n) nm n m ev name f2 t2 false zeroE := by
  rw [look_upd_same, h0]
  have hE : EvR w none 0 0 0 ev := EvR.none w ev 0
  refine ⟨?_, ?_, fun i hi => ?_, ?_, by simpa using h0, by have := bld_len nm fl ns n; omega⟩
  · rw [len_upd, look_upd_same, len_upd, len_upd, h0]; simp
  · rw [len_upd, h0]; simp
  · obtain ⟨y, hy⟩ := bld_has nm fl ns n hi
    have hne : nm i ≠ name := by rintro e; rw [e, h0] at hy; cases hy
    refine ⟨y, y, ?_, ?_, same_plain hy, fun _ => ⟨y, hy, same_plain hy⟩⟩
    · rw [look_upd_other hne, look_upd_other hne]; exact hy
    · rw [look_upd_other hne]; exact hy
  · refine ⟨_, _, look_upd_same _ _ _, look_upd_same _ _ _, ⟨rfl, rfl, rfl, rfl, rfl, Nat.zero_le _, ⟨0, hE⟩, ⟨0, hE⟩⟩, rfl, rfl, rfl, fun _ => ⟨rfl, rfl⟩, fun h => by cases h⟩

/-- The task was there. -/
theorem fin_some {x : Ent} {ga gb gc : Nat} (h0 : look (bld nm fl ns n) name = some x) (hm : m ≤ 1048576) (ha : EvA w ga m m ev) (hb : EvA w gb m m ev) (hc : EvA w gc m m ev) (La1 Lb1 Lc1 : List (ByteArray × Ent))
    (ea : La1 = upd (bld nm fl ns n) name { x with a := some ⟨ga, 0, none⟩, n := m, c := m }) (eb : Lb1 = upd (bld nm fl ns n) name { x with a := some ⟨gb, 0, none⟩, n := m, c := m }) (ec : Lc1 = upd (bld nm fl ns n) name { x with a := some ⟨gc, 0, none⟩, n := m, c := m }) :
    Fin w (upd (upd La1 name (endE (look La1 name) f1 t1)) name (endE (look (upd La1 name (endE (look La1 name) f1 t1)) name) f2 t2))
      (upd Lb1 name (endE (look Lb1 name) f2 t2)) Lc1 nm n m ev name f2 t2 true { x with a := some ⟨gc, 0, none⟩, n := m, c := m } := by
  have la : look La1 name = some { x with a := some ⟨ga, 0, none⟩, n := m, c := m } := by rw [ea]; exact look_upd_same _ _ _
  have lb : look Lb1 name = some { x with a := some ⟨gb, 0, none⟩, n := m, c := m } := by rw [eb]; exact look_upd_same _ _ _
  have lc : look Lc1 name = some { x with a := some ⟨gc, 0, none⟩, n := m, c := m } := by rw [ec]; exact look_upd_same _ _ _
  have na : La1.length = (bld nm fl ns n).length := by rw [ea, len_upd, h0]; simp
  have nb : Lb1.length = (bld nm fl ns n).length := by rw [eb, len_upd, h0]; simp
  have nc : Lc1.length = (bld nm fl ns n).length := by rw [ec, len_upd, h0]; simp
  rw [look_upd_same, la, lb]
  refine ⟨?_, ?_, fun i hi => ?_, ?_, by simpa using lc, by have := bld_len nm fl ns n; omega⟩
  · rw [len_upd, look_upd_same, len_upd, len_upd, la, lb]; simp [na, nb]
  · rw [len_upd, lb]; simp [nb, nc]
  · by_cases hne : nm i = name
    · rw [hne]
      refine ⟨_, _, look_upd_same _ _ _, look_upd_same _ _ _, ⟨rfl, rfl, rfl, rfl, rfl, hm, ⟨ga, EvR.of ha⟩, ⟨gb, EvR.of hb⟩⟩, fun h => absurd rfl h⟩
    · obtain ⟨y, hy⟩ := bld_has nm fl ns n hi
      refine ⟨y, y, ?_, ?_, same_plain hy, fun _ => ⟨y, ?_, same_plain hy⟩⟩
      · rw [look_upd_other hne, look_upd_other hne, ea, look_upd_other hne]; exact hy
      · rw [look_upd_other hne, eb, look_upd_other hne]; exact hy
      · rw [ec, look_upd_other hne]; exact hy
  · refine ⟨_, _, look_upd_same _ _ _, look_upd_same _ _ _, ⟨rfl, rfl, rfl, rfl, rfl, hm, ⟨ga, EvR.of ha⟩, ⟨gb, EvR.of hb⟩⟩, rfl, rfl, rfl, fun h => (by cases h), fun _ => ⟨rfl, rfl⟩⟩
end

end Go.Proofs.Qxb6614174a
