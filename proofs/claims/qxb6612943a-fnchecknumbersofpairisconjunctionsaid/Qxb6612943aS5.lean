import Derived.Test.Qxb6612943aS4
namespace Go.Proofs.Qxb6612943a
open Go.RowKit
set_option linter.unusedVariables false
set_option linter.unusedSimpArgs false

/-! splitNumber's own memory: block N the literal, N + 1 the result, N + 2 the parts, N + 3 the place. -/
structure Sp (w wr : World) (N g p m c : Nat) (d : Nat → Int) (x : Nat) (ng : Bool) (v1 v2 : Value) (ex : Int) : Prop where
  bL : wr.heap[N]? = some (.cells #[.slice (some ⟨g, p, none⟩) m c] 22 (0, 0))
  bR : wr.heap[N + 1]? = some (.cells #[.bool false, .slice none 0 0, .slice none 0 0, .int .i64 0] 57 (0, 0))
  bP : wr.heap[N + 2]? = some (.cells #[.bool ng, v1, v2, .int .i64 ex] 57 (0, 0))
  bI : At0 wr (N + 3) x
  cl : ∀ k, k < m → wr.cell? ⟨g, p + k, none⟩ = some (.int .u8 (d k))
  below : Below N w wr
  gN : g < N

theorem Sp.cL {w wr : World} {N g p m c : Nat} {d : Nat → Int} {x : Nat} {ng : Bool} {v1 v2 : Value} {ex : Int} (h : Sp w wr N g p m c d x ng v1 v2 ex) : wr.cell? ⟨N, 0, none⟩ = some (.slice (some ⟨g, p, none⟩) m c) := cell_of_row wr N 0 _ _ _ h.bL
theorem Sp.cR {w wr : World} {N g p m c : Nat} {d : Nat → Int} {x : Nat} {ng : Bool} {v1 v2 : Value} {ex : Int} (h : Sp w wr N g p m c d x ng v1 v2 ex) : wr.cell? ⟨N + 1, 0, none⟩ = some (.bool false) ∧ wr.cell? ⟨N + 1, 1, none⟩ = some (.slice none 0 0) ∧ wr.cell? ⟨N + 1, 2, none⟩ = some (.slice none 0 0) ∧ wr.cell? ⟨N + 1, 3, none⟩ = some (.int .i64 0) :=
  ⟨cell_of_row wr _ 0 _ _ _ h.bR, cell_of_row wr _ 1 _ _ _ h.bR, cell_of_row wr _ 2 _ _ _ h.bR, cell_of_row wr _ 3 _ _ _ h.bR⟩
theorem Sp.cP {w wr : World} {N g p m c : Nat} {d : Nat → Int} {x : Nat} {ng : Bool} {v1 v2 : Value} {ex : Int} (h : Sp w wr N g p m c d x ng v1 v2 ex) : wr.cell? ⟨N + 2, 0, none⟩ = some (.bool ng) ∧ wr.cell? ⟨N + 2, 1, none⟩ = some v1 ∧ wr.cell? ⟨N + 2, 2, none⟩ = some v2 ∧ wr.cell? ⟨N + 2, 3, none⟩ = some (.int .i64 ex) :=
  ⟨cell_of_row wr _ 0 _ _ _ h.bP, cell_of_row wr _ 1 _ _ _ h.bP, cell_of_row wr _ 2 _ _ _ h.bP, cell_of_row wr _ 3 _ _ _ h.bP⟩
theorem Sp.fR {w wr : World} {N g p m c : Nat} {d : Nat → Int} {x : Nat} {ng : Bool} {v1 v2 : Value} {ex : Int} (h : Sp w wr N g p m c d x ng v1 v2 ex) (j : Nat) : wr.frozen? ⟨N + 1, j, none⟩ = false := frozen_of_row wr _ j _ _ h.bR
theorem Sp.fP {w wr : World} {N g p m c : Nat} {d : Nat → Int} {x : Nat} {ng : Bool} {v1 v2 : Value} {ex : Int} (h : Sp w wr N g p m c d x ng v1 v2 ex) (j : Nat) : wr.frozen? ⟨N + 2, j, none⟩ = false := frozen_of_row wr _ j _ _ h.bP
theorem Sp.setI {w wr : World} {N g p m c : Nat} {d : Nat → Int} {x : Nat} {ng : Bool} {v1 v2 : Value} {ex : Int} (h : Sp w wr N g p m c d x ng v1 v2 ex) {y : Int} {q : Nat} (hy : y = q) : Sp w (wr.setCell ⟨N + 3, 0, none⟩ (.int .i64 y)) N g p m c d q ng v1 v2 ex :=
  ⟨(heap_setCell_other wr _ _ _ (by show N ≠ N + 3; omega)).trans h.bL, (heap_setCell_other wr _ _ _ (by show N + 1 ≠ N + 3; omega)).trans h.bR, (heap_setCell_other wr _ _ _ (by show N + 2 ≠ N + 3; omega)).trans h.bP, h.bI.set hy,
   fun k hk => (World.cell?_setCell_other _ _ _ _ (by intro e; injection e with e; have := h.gN; omega)).trans (h.cl k hk), h.below.setCell (by show N ≤ N + 3; omega) _, h.gN⟩
theorem Sp.setP {w wr : World} {N g p m c : Nat} {d : Nat → Int} {x : Nat} {ng : Bool} {v1 v2 : Value} {ex : Int} (h : Sp w wr N g p m c d x ng v1 v2 ex) {ng' : Bool} {v1' v2' : Value} {ex' : Int} {j : Nat} {u : Value} (hc : (#[.bool ng, v1, v2, .int .i64 ex] : Array Value).setIfInBounds j u = #[.bool ng', v1', v2', .int .i64 ex']) : Sp w (wr.setCell ⟨N + 2, j, none⟩ u) N g p m c d x ng' v1' v2' ex' :=
  ⟨(heap_setCell_other wr _ _ _ (by show N ≠ N + 2; omega)).trans h.bL, (heap_setCell_other wr _ _ _ (by show N + 1 ≠ N + 2; omega)).trans h.bR, by rw [heap_setCell_same wr _ _ _ _ _ h.bP, hc], (heap_setCell_other wr _ _ _ (by show N + 3 ≠ N + 2; omega)).trans h.bI,
   fun k hk => (World.cell?_setCell_other _ _ _ _ (by intro e; injection e with e; have := h.gN; omega)).trans (h.cl k hk), h.below.setCell (by show N ≤ N + 2; omega) _, h.gN⟩
theorem Sp.but {w wr : World} {N g p m c : Nat} {d : Nat → Int} {x : Nat} {ng : Bool} {v1 v2 : Value} {ex : Int} (h : Sp w wr N g p m c d x ng v1 v2 ex) {w' : World} {r : Nat} (hb : But (N + 3) wr w') (hr : At0 w' (N + 3) r) : Sp w w' N g p m c d r ng v1 v2 ex := by
  have l1 : N + 2 < wr.heap.size := (Array.getElem?_eq_some_iff.1 h.bP).1
  exact ⟨(hb.block _ (by omega) (by omega)).trans h.bL, (hb.block _ (by omega) (by omega)).trans h.bR, (hb.block _ (by omega) (by omega)).trans h.bP, hr,
    fun k hk => hb.cell (by have := h.gN; omega) (h.cl k hk), h.below.trans (hb.below (by omega) (by omega)), h.gN⟩

/-- How splitNumber ends. -/
def SplPost (N : Nat) (inb : Bool) (w : World) (e : Ending) (w' : World) : Prop :=
  ∃ (ng : Bool) (a1 : Option Addr) (l1 c1 : Nat) (a2 : Option Addr) (l2 c2 : Nat) (ex : Int), e = .returned (.agg #[.bool ng, .slice a1 l1 c1, .slice a2 l2 c2, .int .i64 ex]) ∧ Below N w w' ∧ l1 ≤ 1048579 ∧ l2 ≤ 1048579 ∧ inb = decide ((l1 : Int) + l2 ≤ 1000 ∧ -1000 ≤ ex ∧ ex ≤ 1000)

set_option maxRecDepth 1000000 in
set_option maxHeartbeats 4000000 in
theorem splE (w wr : World) (N g p m c : Nat) (d : Nat → Int) (x : Nat) (ng : Bool) (a1 : Option Addr) (l1 c1 : Nat) (a2 : Option Addr) (l2 c2 : Nat) (ex : Int) (hSp : Sp w wr N g p m c d x ng (.slice a1 l1 c1) (.slice a2 l2 c2) ex) (inb : Bool) (hl1 : l1 ≤ 1048579) (hl2 : l2 ≤ 1048579) (ne : Bool) (hx0 : 0 ≤ ex) (hx1 : ex ≤ 1099511627776) (hin : inb = decide ((l1 : Int) + l2 ≤ 1000 ∧ ex ≤ 1000))
    (u7 u8 u9 u10 u11 u12 u13 u14 u15 u16 u17 u18 u19 u20 u21 u22 u23 u24 u25 u26 u27 u28 u29 u30 u31 u32 u33 u34 u35 u36 u37 u38 u39 u40 u41 u42 u43 u44 u45 u46 u47 u48 u49 u50 u51 u52 u53 u54 u55 u56 u57 u58 u59 u60 u61 u62 u63 u64 u65 u66 u67 u68 u69 u70 u71 u72 u73 u74 u75 u76 u77 u78 u79 u80 u81 u82 u83 u84 u85 u86 u87 u88 u89 u90 u91 u92 u93 u94 u95 u96 u97 u98 u99 u100 u101 u102 u103 u104 u105 u106 u107 u108 u109 u110 u111 u112 u113 u114 u115 u116 u117 u118 u119 u120 : Value) :
    Code.wp Try.prog ((Try.f36.body.bind (tailAt 23)).getD .skip) (bodyPost Try.prog Try.f36 (SplPost N inb w)) ⟨#[.slice (some ⟨g, p, none⟩) m c, .pointer (some ⟨N, 0, none⟩), .pointer (some ⟨N + 1, 0, none⟩), .pointer (some ⟨N + 2, 0, none⟩), .pointer (some ⟨N + 3, 0, none⟩), .func (.func 37) #[] #[.pointer (some ⟨N + 3, 0, none⟩), .pointer (some ⟨N, 0, none⟩)], .bool ne, u7, u8, u9, u10, u11, u12, u13, u14, u15, u16, u17, u18, u19, u20, u21, u22, u23, u24, u25, u26, u27, u28, u29, u30, u31, u32, u33, u34, u35, u36, u37, u38, u39, u40, u41, u42, u43, u44, u45, u46, u47, u48, u49, u50, u51, u52, u53, u54, u55, u56, u57, u58, u59, u60, u61, u62, u63, u64, u65, u66, u67, u68, u69, u70, u71, u72, u73, u74, u75, u76, u77, u78, u79, u80, u81, u82, u83, u84, u85, u86, u87, u88, u89, u90, u91, u92, u93, u94, u95, u96, u97, u98, u99, u100, u101, u102, u103, u104, u105, u106, u107, u108, u109, u110, u111, u112, u113, u114, u115, u116, u117, u118, u119, u120], []⟩ wr := by
  conv => arg 2; whnf
  dsimp only
  obtain ⟨r0, r1, r2, r3⟩ := hSp.cR
  have q0 := hSp.fR 0
  have q1 := hSp.fR 1
  have q2 := hSp.fR 2
  have q3 := hSp.fR 3
  have HI := Hid.mk hin
  clear hin
  cases ne with
  | false =>
    obtain ⟨p0, p1, p2, p3⟩ := hSp.cP
    go_wp2
    refine bodyPost_ret (v := .agg #[.bool ng, .slice a1 l1 c1, .slice a2 l2 c2, .int .i64 ex]) (by simp [results, Try.results36, go_sem, r0, r1, r2, r3]) rfl ?_
    refine ⟨ng, a1, l1, c1, a2, l2, c2, ex, rfl, ?_, hl1, hl2, ?_⟩
    · have hb := hSp.below
      repeat (first | exact hb | refine Below.setCell ?_ (by simp) _)
    · rw [HI.out, decide_eq_decide]; omega
  | true =>
    have hSp' : Sp w (wr.setCell ⟨N + 2, 3, none⟩ (.int .i64 (-ex))) N g p m c d x ng (.slice a1 l1 c1) (.slice a2 l2 c2) (-ex) := hSp.setP rfl
    obtain ⟨p0, p1, p2, p3⟩ := hSp.cP
    obtain ⟨p0', p1', p2', p3'⟩ := hSp'.cP
    obtain ⟨r0', r1', r2', r3'⟩ := hSp'.cR
    have f3 := hSp.fP 3
    have q0' := hSp'.fR 0
    have q1' := hSp'.fR 1
    have q2' := hSp'.fR 2
    have q3' := hSp'.fR 3
    have HB := Hid.mk hSp'.below
    clear hSp'
    go_wp2
    refine bodyPost_ret (v := .agg #[.bool ng, .slice a1 l1 c1, .slice a2 l2 c2, .int .i64 (-ex)]) (by simp [results, Try.results36, go_sem, r0, r1, r2, r3, r0', r1', r2', r3']) rfl ?_
    refine ⟨ng, a1, l1, c1, a2, l2, c2, -ex, rfl, ?_, hl1, hl2, ?_⟩
    · have hb := HB.out
      repeat (first | exact hb | refine Below.setCell ?_ (by simp) _)
    · rw [HI.out, decide_eq_decide]; omega

end Go.Proofs.Qxb6612943a
