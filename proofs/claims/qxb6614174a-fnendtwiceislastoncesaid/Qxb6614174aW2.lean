import Derived.Test.Qxb6614174aW1
import Derived.Test.Qxb6614174aMaps
import Derived.Deep.RegionWith
import Derived.Deep.CutRange
import Derived.BigRegion
namespace Go.Proofs.Qxb6614174a
open Go.RowKit
set_option linter.unusedVariables false
set_option linter.unusedSimpArgs false

/-- A task's state: its State, Failed, StartedAt and FinishedAt (nanoseconds behind the zero time), and its Events. -/
structure Ent where
  st : ByteArray
  f : Bool
  s : Int
  e : Int
  a : Option Addr
  n : Nat
  c : Nat
def Ent.v (x : Ent) : Value := .agg #[.string x.st, .bool x.f, .int .u64 (tW x.s), .int .i64 (tE x.s), .pointer none, .int .u64 (tW x.e), .int .i64 (tE x.e), .pointer none, .slice x.a x.n x.c]
def zeroE : Ent := ⟨⟨#[]⟩, false, 0, 0, none, 0, 0⟩
def running : ByteArray := ⟨#[114, 117, 110, 110, 105, 110, 103]⟩
def dead : ByteArray := ⟨#[100, 101, 97, 100]⟩
def startedB : ByteArray := ⟨#[83, 116, 97, 114, 116, 101, 100]⟩

theorem zero41 (w : World) : (zeroValue 41).run Try.prog w = .ok zeroE.v w := by kernel_rfl
theorem und27 : Try.prog.underlying 27 = some (.map 9 41) := Try.underlying27
theorem und9 : Try.prog.underlying 9 = some .string := Try.underlying9

/-- The prior states that came in. -/
structure Pri (w : World) (a : Option Addr) (n c : Nat) (b : Nat) (pa : Nat → Nat) (nm : Nat → ByteArray) (fl : Nat → Bool) (ns : Nat → Int) : Prop where
  ix : ∀ (i : Nat) (w' : World), i < n → (Instr.indexAt 22 (.slice a n c) (.int .i64 (i : Int))).run Try.prog w' = .ok (.pointer (some ⟨b, pa i, none⟩)) w'
  c0 : ∀ i, i < n → w.cell? ⟨b, pa i, none⟩ = some (.string (nm i))
  c1 : ∀ i, i < n → w.cell? ⟨b, pa i + 1, none⟩ = some (.bool (fl i))
  c2 : ∀ i, i < n → w.cell? ⟨b, pa i + 2, none⟩ = some (.int .i64 (ns i))
  lo : ∀ i, -9223372036854775808 ≤ ns i
  hi : ∀ i, ns i ≤ 9223372036854775807
structure Evs (w : World) (a : Option Addr) (n c : Nat) (b : Nat) (pa : Nat → Nat) (ev : Nat → Int) : Prop where
  ix : ∀ (i : Nat) (w' : World), i < n → (Instr.indexAt 23 (.slice a n c) (.int .i64 (i : Int))).run Try.prog w' = .ok (.pointer (some ⟨b, pa i, none⟩)) w'
  c0 : ∀ i, i < n → w.cell? ⟨b, pa i, none⟩ = some (.int .i64 (ev i))

theorem Pri.kept {w w' : World} {a : Option Addr} {n c b : Nat} {pa : Nat → Nat} {nm : Nat → ByteArray} {fl : Nat → Bool} {ns : Nat → Int} (h : Pri w a n c b pa nm fl ns) (hb : Below w.heap.size w w') : Pri w' a n c b pa nm fl ns :=
  ⟨h.ix, fun i hi => (hb.cell (World.block_lt_of_cell? _ _ (h.c0 i hi))).trans (h.c0 i hi), fun i hi => (hb.cell (World.block_lt_of_cell? _ _ (h.c1 i hi))).trans (h.c1 i hi), fun i hi => (hb.cell (World.block_lt_of_cell? _ _ (h.c2 i hi))).trans (h.c2 i hi), h.lo, h.hi⟩
theorem Evs.kept {w w' : World} {a : Option Addr} {n c b : Nat} {pa : Nat → Nat} {ev : Nat → Int} (h : Evs w a n c b pa ev) (hb : Below w.heap.size w w') : Evs w' a n c b pa ev :=
  ⟨h.ix, fun i hi => (hb.cell (World.block_lt_of_cell? _ _ (h.c0 i hi))).trans (h.c0 i hi)⟩

/-- The table behind the first k prior states. -/
def bld (nm : Nat → ByteArray) (fl : Nat → Bool) (ns : Nat → Int) : Nat → List (ByteArray × Ent)
  | 0 => []
  | k + 1 => upd (bld nm fl ns k) (nm k) ⟨running, fl k, ns k, 0, none, 0, 0⟩

theorem Only.out {r : Nat} {w w1 w2 : World} (h : Only r w1 w2) (hb : Below w.heap.size w w1) (hr : w.heap.size ≤ r) : Below w.heap.size w w2 := hb.trans (h.below hr)

theorem run_makeMap_hint (w : World) (x : Int) (h0 : 0 ≤ x) (h1 : x ≤ 9223372036854775807) : (Instr.makeMap 27 (some (.int .i64 x))).run Try.prog w = .ok (.map (some w.heap.size)) (w.alloc (.map #[] 0)) := by
  have wl : IntKind.i64.wrap x = x := by rw [IntKind.wrap_i64]; omega
  simp [Instr.makeMap, run_underlying und27, asInt, asIntOf, wl, newObj, Sem.run]

theorem Below.undrew {B : Nat} {w w1 : World} (h : Below B w.drew w1) : Below B w w1 := ⟨h.os, h.tape, h.output, h.size, h.block⟩

/-- A new task's state, as the text builds it. -/
theorem run_upd_new {w1 : World} {r : Nat} {L : List (ByteArray × Ent)} (h : Mp Ent.v w1 r L) (s : ByteArray) (f : Bool) (d : Int) :
    ∃ w2, (Instr.mapUpdate 27 (.map (some r)) (.string s) (.agg #[.string ⟨#[114, 117, 110, 110, 105, 110, 103]⟩, .bool f, .int .u64 (tW d), .int .i64 (tE d), .pointer none, .int .u64 0, .int .i64 0, .pointer none, .slice none 0 0])).run Try.prog w1 = .ok () w2 ∧
      Mp Ent.v w2 r (upd L s ⟨running, f, d, 0, none, 0, 0⟩) ∧ Only r w1 w2 := by
  obtain ⟨w2, h1, h2, h3⟩ := h.run_upd und27 und9 s ⟨running, f, d, 0, none, 0, 0⟩
  exact ⟨w2, h1, h2, h3⟩

/-- Block g holds n events; the first k are set. -/
def EvA (w : World) (g n k : Nat) (ev : Nat → Int) : Prop :=
  ∃ cur : Array Value, w.heap[g]? = some (.cells cur 46 (0, 0)) ∧ cur.size = n * 5 ∧
    ∀ i, i < k → cur[i * 5]? = some (.string startedB) ∧ cur[i * 5 + 1]? = some (.int .i64 (ev i)) ∧ cur[i * 5 + 2]? = some (.string ⟨#[]⟩) ∧ cur[i * 5 + 3]? = some (.int .i64 0) ∧ cur[i * 5 + 4]? = some (.int .i64 0)

theorem EvA.lt {w : World} {g n k : Nat} {ev : Nat → Int} (h : EvA w g n k ev) : g < w.heap.size := by
  obtain ⟨cur, h1, _⟩ := h
  exact (Array.getElem?_eq_some_iff.1 h1).1
theorem EvA.of_block {w w' : World} {g n k : Nat} {ev : Nat → Int} (h : EvA w g n k ev) (hb : w'.heap[g]? = w.heap[g]?) : EvA w' g n k ev := by
  obtain ⟨cur, h1, r⟩ := h
  exact ⟨cur, hb.trans h1, r⟩
theorem EvA.kept {w w' : World} {g n k : Nat} {ev : Nat → Int} (h : EvA w g n k ev) (hb : Below w.heap.size w w') : EvA w' g n k ev := h.of_block (hb.block g h.lt)

/-- What a store of an event wants: that the cells are there. -/
theorem EvA.room {w : World} {g n k : Nat} {ev : Nat → Int} (h : EvA w g n k ev) {j : Nat} (hj : j < n * 5) : ∃ v, w.cell? ⟨g, j, none⟩ = some v := by
  obtain ⟨cur, h1, h2, _⟩ := h
  rw [cell_of_row w g j cur 46 (0, 0) h1]
  exact ⟨_, Array.getElem?_eq_getElem (by omega)⟩
theorem EvA.free {w : World} {g n k : Nat} {ev : Nat → Int} (h : EvA w g n k ev) (j : Nat) : w.frozen? ⟨g, j, none⟩ = false := by
  obtain ⟨cur, h1, _⟩ := h
  exact frozen_of_row w g j cur 46 h1

theorem EvA.store {w : World} {g n k : Nat} {ev : Nat → Int} (h : EvA w g n k ev) (hk : k < n) :
    EvA (((((w.setCell ⟨g, k * 5, none⟩ (.string startedB)).setCell ⟨g, k * 5 + 1, none⟩ (.int .i64 (ev k))).setCell ⟨g, k * 5 + 2, none⟩ (.string ⟨#[]⟩)).setCell ⟨g, k * 5 + 3, none⟩ (.int .i64 0)).setCell ⟨g, k * 5 + 4, none⟩ (.int .i64 0)) g n (k + 1) ev := by
  obtain ⟨cur, h1, h2, h3⟩ := h
  have e1 := heap_setCell_same w g (k * 5) cur 46 (.string startedB) h1
  have e2 := heap_setCell_same _ g (k * 5 + 1) _ 46 (.int .i64 (ev k)) e1
  have e3 := heap_setCell_same _ g (k * 5 + 2) _ 46 (.string ⟨#[]⟩) e2
  have e4 := heap_setCell_same _ g (k * 5 + 3) _ 46 (.int .i64 0) e3
  have e5 := heap_setCell_same _ g (k * 5 + 4) _ 46 (.int .i64 0) e4
  refine ⟨_, e5, by simpa using h2, fun i hi => ?_⟩
  by_cases e : i = k
  · subst e
    simp only [Array.getElem?_setIfInBounds, Array.size_setIfInBounds]
    refine ⟨?_, ?_, ?_, ?_, ?_⟩ <;> simp <;> omega
  · obtain ⟨a1, a2, a3, a4, a5⟩ := h3 i (by omega)
    simp only [Array.getElem?_setIfInBounds, Array.size_setIfInBounds]
    refine ⟨?_, ?_, ?_, ?_, ?_⟩
    · rw [if_neg (by omega), if_neg (by omega), if_neg (by omega), if_neg (by omega), if_neg (by omega)]; exact a1
    · rw [if_neg (by omega), if_neg (by omega), if_neg (by omega), if_neg (by omega), if_neg (by omega)]; exact a2
    · rw [if_neg (by omega), if_neg (by omega), if_neg (by omega), if_neg (by omega), if_neg (by omega)]; exact a3
    · rw [if_neg (by omega), if_neg (by omega), if_neg (by omega), if_neg (by omega), if_neg (by omega)]; exact a4
    · rw [if_neg (by omega), if_neg (by omega), if_neg (by omega), if_neg (by omega), if_neg (by omega)]; exact a5

theorem info46 : (Try.prog.info? 46).map (fun i => (i.zero, i.size, i.bytes)) = some (some (.agg #[.string ⟨#[]⟩, .int .i64 0, .string ⟨#[]⟩, .int .i64 0, .int .i64 0]), 5, 56) := by kernel_rfl

theorem EvA.made {w1 : World} {base g m : Nat} {xs : List Value} {ev : Nat → Int} (h : w1.ownsRow base 46 5 (.slice (some ⟨g, 0, none⟩) m m) m xs) : EvA w1 g m 0 ev := by
  rcases h.2 with ⟨h', _⟩ | ⟨g', cap', cur, h', _, hg, hnc, _, hcs, _⟩
  · simp at h'
  · simp only [Value.slice.injEq, Option.some.injEq, Addr.mk.injEq, and_true, true_and] at h'
    obtain ⟨rfl, rfl⟩ := h'
    exact ⟨cur, hg, hcs, fun i hi => by omega⟩

theorem below_none {w w1 : World} (h : w.grownBy w1 none) : Below w.heap.size w w1 := (Below.refl _ _).grown h (Nat.le_refl _) (fun k hk => by cases hk)

/-- The cells of the variable 'st' in block B. -/
def StB (w : World) (B : Nat) (x : Ent) : Prop :=
  w.heap[B]? = some (.cells #[.string x.st, .bool x.f, .int .u64 (tW x.s), .int .i64 (tE x.s), .pointer none, .int .u64 (tW x.e), .int .i64 (tE x.e), .pointer none, .slice x.a x.n x.c] 41 (0, 0))

theorem StB.cells {w : World} {B : Nat} {x : Ent} (h : StB w B x) : w.cell? ⟨B, 0, none⟩ = some (.string x.st) ∧ w.cell? ⟨B, 1, none⟩ = some (.bool x.f) ∧ w.cell? ⟨B, 2, none⟩ = some (.int .u64 (tW x.s)) ∧ w.cell? ⟨B, 3, none⟩ = some (.int .i64 (tE x.s)) ∧ w.cell? ⟨B, 4, none⟩ = some (.pointer none) ∧
    w.cell? ⟨B, 5, none⟩ = some (.int .u64 (tW x.e)) ∧ w.cell? ⟨B, 6, none⟩ = some (.int .i64 (tE x.e)) ∧ w.cell? ⟨B, 7, none⟩ = some (.pointer none) ∧ w.cell? ⟨B, 8, none⟩ = some (.slice x.a x.n x.c) :=
  ⟨cell_of_row w B 0 _ _ _ h, cell_of_row w B 1 _ _ _ h, cell_of_row w B 2 _ _ _ h, cell_of_row w B 3 _ _ _ h, cell_of_row w B 4 _ _ _ h, cell_of_row w B 5 _ _ _ h, cell_of_row w B 6 _ _ _ h, cell_of_row w B 7 _ _ _ h, cell_of_row w B 8 _ _ _ h⟩
theorem StB.free {w : World} {B : Nat} {x : Ent} (h : StB w B x) (j : Nat) : w.frozen? ⟨B, j, none⟩ = false := frozen_of_row w B j _ _ h

/-- A task's state stored into the map. -/
theorem run_upd_ent {w1 : World} {r : Nat} {L : List (ByteArray × Ent)} (h : Mp Ent.v w1 r L) (s : ByteArray) (x : Ent) :
    ∃ w2, (Instr.mapUpdate 27 (.map (some r)) (.string s) (.agg #[.string x.st, .bool x.f, .int .u64 (tW x.s), .int .i64 (tE x.s), .pointer none, .int .u64 (tW x.e), .int .i64 (tE x.e), .pointer none, .slice x.a x.n x.c])).run Try.prog w1 = .ok () w2 ∧
      Mp Ent.v w2 r (upd L s x) ∧ Only r w1 w2 := by
  obtain ⟨w2, h1, h2, h3⟩ := h.run_upd und27 und9 s x
  exact ⟨w2, h1, h2, h3⟩

/-- What endBuild makes. -/
def Built (w : World) (w' : World) (r : Nat) (nm : Nat → ByteArray) (fl : Nat → Bool) (ns ev : Nat → Int) (n m : Nat) (name : ByteArray) : Prop :=
  w.heap.size ≤ r ∧ Below w.heap.size w w' ∧
  ((look (bld nm fl ns n) name = none ∧ Mp Ent.v w' r (bld nm fl ns n)) ∨
   ∃ (x : Ent) (ge : Nat), look (bld nm fl ns n) name = some x ∧ w.heap.size ≤ ge ∧ ge ≠ r ∧ EvA w' ge m m ev ∧ Mp Ent.v w' r (upd (bld nm fl ns n) name { x with a := some ⟨ge, 0, none⟩, n := m, c := m }))

set_option maxRecDepth 100000 in
set_option maxHeartbeats 1000000 in
theorem endBuild_any (a0 a1 : Option Addr) (n m c0 c1 b0 b1 : Nat) (pa ea : Nat → Nat) (nm : Nat → ByteArray) (fl : Nat → Bool) (ns ev : Nat → Int) (name : ByteArray) (w : World) (hn : n ≤ 1048576) (hm : m ≤ 1048576)
    (hp : Pri w a0 n c0 b0 pa nm fl ns) (he : Evs w a1 m c1 b1 ea ev) :
    Calls Try.prog 5 #[.slice a0 n c0, .slice a1 m c1, .string name] w fun e w' => ∃ r, e = .returned (.map (some r)) ∧ Built w w' r nm fl ns ev n m name := by
  have hmm := run_makeMap_hint w ((n : Int) + 1) (by omega) (by omega)
  have x0 := hp.ix
  go_enter Try.func5, Try.ntmps5
  obtain ⟨W0, hW0⟩ : ∃ W0, W0 = w.alloc (.map #[] 0) := ⟨_, rfl⟩
  obtain ⟨r, hr⟩ : ∃ r, r = w.heap.size := ⟨_, rfl⟩
  have hM0 : Mp Ent.v W0 r [] := ⟨#[], 0, by rw [hW0, hr]; exact Go.heap_alloc_new w _, rfl⟩
  have hB0 : Below w.heap.size w W0 := by rw [hW0]; exact (Below.refl _ _).alloc (Nat.le_refl _) _
  rw [← hr, ← hW0] at hmm
  have HR := Hid.mk hr
  clear hr hW0
  go_wp2_with fail
  go_loopw [8] (fun i wr => ∃ k : Nat, k ≤ n ∧ i = .int .i64 k ∧ Mp Ent.v wr r (bld nm fl ns k) ∧ Below w.heap.size w wr) (fun i _ => n - (intOf i).toNat)
  case atStart => exact ⟨0, Nat.zero_le _, rfl, hM0, hB0⟩
  case round =>
    obtain ⟨k, hk, rfl, hM, hB⟩ := hrel
    by_cases hlt : k < n
    · have hp' := hp.kept hB
      have e0 := hp'.c0 k hlt
      have e1 := hp'.c1 k hlt
      have e2 := hp'.c2 k hlt
      go_wp2_with fail
      go_region_with (go_at_call 8; refine (timeAt_any _ _ (hp.lo k) (hp.hi k)).mono ?_; rintro e w1 ⟨rfl, hb1⟩; have hb2 := Below.undrew hb1; obtain ⟨w2, hmu, hM2, hO2⟩ := run_upd_new (hM.kept hb2) (nm k) (fl k) (ns k); have e0' := (hp'.kept hb2).c0 k hlt; have e1' := (hp'.kept hb2).c1 k hlt; clear hb1)
      all_goals
        have hBf : Below w.heap.size w w2 := hO2.out (hB.trans (hb2.mono hB.size)) (Nat.le_of_eq HR.out.symm)
        have HM : Hid (Mp Ent.v w2 r (bld nm fl ns (k + 1))) := hM2
        clear hM2 hO2 hmu e0 e1 e2 e0' e1'
        go_wp2
        go_roundw
        case rel => exact ⟨k + 1, by omega, by go_num, HM.out, hBf⟩
        case measure => simp [intOf]; omega
    · obtain rfl : n = k := by omega
      obtain ⟨wa, hwa⟩ : ∃ wa, wa = wr := ⟨_, rfl⟩
      subst hwa
      have hlook := hM.run_look und27 und9 (zero41 wa) name true
      cases hlk : look (bld nm fl ns n) name with
      | none =>
        rw [hlk] at hlook
        have hlook' : (Instr.lookup 27 (.map (some r)) (.string name) true).run Try.prog wa = .ok (.tuple #[.agg #[.string ⟨#[]⟩, .bool false, .int .u64 0, .int .i64 0, .pointer none, .int .u64 0, .int .i64 0, .pointer none, .slice none 0 0], .bool false]) wa := hlook
        have HL := Hid.mk hlk
        clear hlook hlk x0 hp he
        go_wp2_with fail
        go_ret
        exact ⟨_, rfl, Nat.le_of_eq HR.out.symm, hB.alloc hB.size _, .inl ⟨HL.out, hM.kept ((Below.refl _ _).alloc (Nat.le_refl _) _)⟩⟩
      | some x =>
        rw [hlk] at hlook
        have hlook' : (Instr.lookup 27 (.map (some r)) (.string name) true).run Try.prog wa = .ok (.tuple #[.agg #[.string x.st, .bool x.f, .int .u64 (tW x.s), .int .i64 (tE x.s), .pointer none, .int .u64 (tW x.e), .int .i64 (tE x.e), .pointer none, .slice x.a x.n x.c], .bool true]) wa := hlook
        have HL := Hid.mk hlk
        clear hlook hlk x0 hp
        obtain ⟨i46, hi46, hz0, hz1, hz2⟩ := info_parts info46
        go_wp2_with (first | (at_make; refine wpList_make_full _ rfl _ _ 39 rfl (wa.heap.size + 1) 46 i46 _ 5 Try.underlying39 hi46 hz0 hz1 _ _ _ _ m rfl rfl (by omega) (by omega) (by rw [hz2]; omega) (by unfold maxLen; omega) (by simp) ?_))
        intro w1 hown hgrow
        have hE1 : EvA w1 (wa.heap.size + 1) m 0 ev := EvA.made hown
        have hB1 := below_none hgrow
        have hSt : StB w1 wa.heap.size x := (hB1.block wa.heap.size (by simp)).trans (Go.heap_alloc_new wa _)
        have hBa : Below wa.heap.size wa w1 := ((Below.refl _ _).alloc (Nat.le_refl _) _).trans (hB1.mono (by simp))
        have hM1 := hM.kept hBa
        have hBw : Below w.heap.size w w1 := hB.trans (hBa.mono hB.size)
        have hrlt := hM.lt
        have hwsz := hB.size
        clear hown hgrow hB1 hM hB
        obtain ⟨B, hBe⟩ : ∃ B, B = wa.heap.size := ⟨_, rfl⟩
        rw [← hBe] at hE1 hSt hrlt hwsz ⊢
        obtain ⟨ge, hge⟩ : ∃ ge, ge = B + 1 := ⟨_, rfl⟩
        rw [← hge] at hE1 ⊢
        have HGE := Hid.mk hge
        have HBE := Hid.mk hBe
        have hBg : B < ge := by omega
        clear hge hBe hBa
        have he1 := he.kept hBw
        have x1 := he.ix
        go_wp2_with fail
        go_loopw [12] (fun i wr => ∃ k : Nat, k ≤ m ∧ i = .int .i64 k ∧ EvA wr ge m k ev ∧ Only ge w1 wr) (fun i _ => m - (intOf i).toNat)
        case atStart => exact ⟨0, Nat.zero_le _, rfl, hE1, Only.refl _ _⟩
        case round =>
          obtain ⟨k, hk, rfl, hEk, hOk⟩ := hrel
          by_cases hlt : k < m
          · have y0 : wr.cell? ⟨b1, ea k, none⟩ = some (.int .i64 (ev k)) := (World.cell?_of_block (hOk.block b1 (by have h1 := World.block_lt_of_cell? _ _ (he.c0 k hlt); have h2 : b1 < w.heap.size := h1; omega))).trans (he1.c0 k hlt)
            obtain ⟨v0, z0⟩ := hEk.room (j := k * 5) (by omega)
            obtain ⟨v1, z1⟩ := hEk.room (j := k * 5 + 1) (by omega)
            obtain ⟨v2, z2⟩ := hEk.room (j := k * 5 + 2) (by omega)
            obtain ⟨v3, z3⟩ := hEk.room (j := k * 5 + 3) (by omega)
            obtain ⟨v4, z4⟩ := hEk.room (j := k * 5 + 4) (by omega)
            have q0 := hEk.free (k * 5)
            have q1 := hEk.free (k * 5 + 1)
            have q2 := hEk.free (k * 5 + 2)
            have q3 := hEk.free (k * 5 + 3)
            have q4 := hEk.free (k * 5 + 4)
            have hES := hEk.store hlt
            have hOS : Only ge w1 (((((wr.setCell ⟨ge, k * 5, none⟩ (.string startedB)).setCell ⟨ge, k * 5 + 1, none⟩ (.int .i64 (ev k))).setCell ⟨ge, k * 5 + 2, none⟩ (.string ⟨#[]⟩)).setCell ⟨ge, k * 5 + 3, none⟩ (.int .i64 0)).setCell ⟨ge, k * 5 + 4, none⟩ (.int .i64 0)) := ((((hOk.setCell _ _).setCell _ _).setCell _ _).setCell _ _).setCell _ _
            have HS := Hid.mk (And.intro hES hOS)
            clear hES hOS hEk hOk he1 he hM1 hSt
            go_wp2
            go_roundw
            case rel => exact ⟨k + 1, by omega, by go_num, HS.out.1, HS.out.2⟩
            case measure => simp [intOf]; omega
          · obtain rfl : m = k := by omega
            obtain ⟨wb, hwb⟩ : ∃ wb, wb = wr := ⟨_, rfl⟩
            subst hwb
            have hStb : StB wb B x := (hOk.block B (by omega)).trans hSt
            have hMb := hM1.of_block (hOk.block r (by omega))
            have hBb : Below w.heap.size w wb := hOk.out hBw (by omega)
            obtain ⟨s0, s1, s2, s3, s4, s5, s6, s7, s8⟩ := hStb.cells
            have t8 := hStb.free 8
            have hM2 : Mp Ent.v (wb.setCell ⟨B, 8, none⟩ (.slice (some ⟨ge, 0, none⟩) m m)) r (bld nm fl ns n) := hMb.of_block (heap_setCell_other wb _ r _ (by show r ≠ B; omega))
            obtain ⟨w3, hmu, hM3, hO3⟩ := run_upd_ent hM2 name { x with a := some ⟨ge, 0, none⟩, n := m, c := m }
            have hB2 : Below w.heap.size w w3 := hO3.out (hBb.setCell (by show w.heap.size ≤ B; omega) _) (Nat.le_of_eq HR.out.symm)
            have hE3 : EvA w3 ge m m ev := (hEk.of_block (heap_setCell_other wb ⟨B, 8, none⟩ ge (.slice (some ⟨ge, 0, none⟩) m m) (by show ge ≠ B; omega))).of_block (hO3.block ge (by omega))
            have HF : Hid (Built w w3 r nm fl ns ev n m name) := ⟨Nat.le_of_eq HR.out.symm, hB2, .inr ⟨x, ge, HL.out, by omega, by omega, hE3, hM3⟩⟩
            clear hStb hM2 hM3 hO3 hB2 hE3 hMb hBb hEk hOk hE1 hM1 hBw he1 hSt he
            go_wp2
            go_ret
            exact ⟨_, rfl, HF.out⟩

end Go.Proofs.Qxb6614174a
