import Derived.Test.Qxb6614174aPD
namespace Go.Proofs.Qxb6614174a
open Go.RowKit
set_option linter.unusedVariables false
set_option linter.unusedSimpArgs false

theorem lt_of_blk {w : World} {g : Nat} {o : Obj} (h : w.heap[g]? = some o) : g < w.heap.size := (Array.getElem?_eq_some_iff.1 h).1

set_option maxRecDepth 1000000 in
set_option maxHeartbeats 4000000 in
theorem partC (a0 a1 : Option Addr) (n m c0 c1 b0 b1 ra rb rc Bc : Nat) (pa ea : Nat → Nat) (nm : Nat → ByteArray) (fl : Nat → Bool) (ns ev : Nat → Int) (name : ByteArray) (f1 f2 : Bool) (t1 t2 : Int) (w w13 : World) (hn : n ≤ 65536) (hm : m ≤ 65536)
    (hp : Pri w a0 n c0 b0 pa nm fl ns) (he : Evs w a1 m c1 b1 ea ev) (g3 : -9223372036854775808 ≤ t2) (g4 : t2 ≤ 9223372036854775807)
    (LA LB Lc : List (ByteArray × Ent)) (hd : Bool) (xc xb : Ent) (hMa : Mp Ent.v w13 ra LA) (hMb : Mp Ent.v w13 rb LB) (hMc : Mp Ent.v w13 rc Lc) (hFin : Fin w13 LA LB Lc nm n m ev name f2 t2 hd xc) (hold : Below w.heap.size w w13) (hSt : StB w13 Bc xb) (hxb : hd = true → xb = xc)
    (u14 u15 u16 u20 u21 u27 u28 u29 u30 u31 u32 u33 u34 u35 u36 u37 u38 u39 u40 u41 u42 u43 u44 u45 u46 u47 u48 u49 u50 u51 u52 u53 u54 u55 u56 u57 u58 u59 u60 u61 u62 u63 u64 u65 u66 u67 u68 u69 u70 u71 u72 u73 u74 u75 u76 u77 u78 u79 u80 u81 u82 u83 u84 u85 u86 u87 u88 u89 u90 u91 u92 u93 u94 u95 u96 u97 u98 u99 u100 u101 u102 u103 u104 u105 u106 u107 u108 u109 u110 u111 u112 u113 u114 u115 u116 u117 u118 u119 u120 u121 u122 u123 u124 u125 u126 u127 u128 u129 u130 u131 u132 u133 u134 u135 u136 u137 u138 u139 u140 u141 u142 u143 u144 u145 u146 u147 u148 u149 u150 u151 u152 u153 u154 u155 u156 u157 u158 u159 u160 u161 u162 u163 u164 u165 u166 u167 u168 u169 u170 u171 u172 u173 u174 u175 u176 u177 u178 u179 u180 u181 u182 u183 u184 u185 u186 u187 u188 u189 u190 u191 u192 u193 u194 u195 u196 u197 u198 u199 u200 u201 u202 u203 u204 u205 u206 u207 u208 u209 u210 u211 u212 u213 u214 u215 u216 u217 u218 u219 u220 u221 u222 u223 u224 u225 u226 u227 u228 u229 u230 u231 u232 u233 u234 u235 u236 u237 u238 u239 u240 u241 u242 u243 u244 u245 u246 u247 u248 u249 u250 u251 u252 u253 u254 u255 u256 u257 u258 u259 u260 u261 u262 u263 u264 u265 u266 u267 u268 u269 u270 u271 u272 u273 u274 u275 u276 u277 u278 u279 u280 u281 : Value) :
    Code.wp Try.prog ((Try.f3.body.bind (tailAt 40)).getD .skip) (bodyPost Try.prog Try.f3 fun e w' => e = .returned (.bool true) ∧ Below w.heap.size w w') ⟨#[.slice a0 n c0, .slice a1 m c1, .string name, .bool f1, .int .i64 t1, .bool f2, .int .i64 t2, undef, undef, undef, undef, undef, undef, undef, u14, u15, u16, .map (some ra), .map (some rb), .map (some rc), u20, u21, .map (some ra), .map (some rb), .pointer (some ⟨Bc, 0, none⟩), .bool hd, .int .i64 (gr hd), u27, u28, u29, u30, u31, u32, u33, u34, u35, u36, u37, u38, u39, u40, u41, u42, u43, u44, u45, u46, u47, u48, u49, u50, u51, u52, u53, u54, u55, u56, u57, u58, u59, u60, u61, u62, u63, u64, u65, u66, u67, u68, u69, u70, u71, u72, u73, u74, u75, u76, u77, u78, u79, u80, u81, u82, u83, u84, u85, u86, u87, u88, u89, u90, u91, u92, u93, u94, u95, u96, u97, u98, u99, u100, u101, u102, u103, u104, u105, u106, u107, u108, u109, u110, u111, u112, u113, u114, u115, u116, u117, u118, u119, u120, u121, u122, u123, u124, u125, u126, u127, u128, u129, u130, u131, u132, u133, u134, u135, u136, u137, u138, u139, u140, u141, u142, u143, u144, u145, u146, u147, u148, u149, u150, u151, u152, u153, u154, u155, u156, u157, u158, u159, u160, u161, u162, u163, u164, u165, u166, u167, u168, u169, u170, u171, u172, u173, u174, u175, u176, u177, u178, u179, u180, u181, u182, u183, u184, u185, u186, u187, u188, u189, u190, u191, u192, u193, u194, u195, u196, u197, u198, u199, u200, u201, u202, u203, u204, u205, u206, u207, u208, u209, u210, u211, u212, u213, u214, u215, u216, u217, u218, u219, u220, u221, u222, u223, u224, u225, u226, u227, u228, u229, u230, u231, u232, u233, u234, u235, u236, u237, u238, u239, u240, u241, u242, u243, u244, u245, u246, u247, u248, u249, u250, u251, u252, u253, u254, u255, u256, u257, u258, u259, u260, u261, u262, u263, u264, u265, u266, u267, u268, u269, u270, u271, u272, u273, u274, u275, u276, u277, u278, u279, u280, u281], []⟩ w13 := by
  obtain ⟨x, y, ex, ey, hS, yst, yf, ye, hno, hyes⟩ := hFin.nameA
  have la := run_look_some hMa ex
  have lb := fun o => run_look_some (hMb.kept ((Below.refl _ _).alloc (Nat.le_refl _) o)) ey
  obtain ⟨W2, hW2⟩ : ∃ W, W = (w13.alloc (.cells #[.string x.st, .bool x.f, .int .u64 (tW x.s), .int .i64 (tE x.s), .pointer none, .int .u64 (tW x.e), .int .i64 (tE x.e), .pointer none, .slice x.a x.n x.c] 41)).alloc (.cells #[.string y.st, .bool y.f, .int .u64 (tW y.s), .int .i64 (tE y.s), .pointer none, .int .u64 (tW y.e), .int .i64 (tE y.e), .pointer none, .slice y.a y.n y.c] 41) := ⟨_, rfl⟩
  obtain ⟨j1, j2, j3, j4⟩ := two_new w13 (.cells #[.string x.st, .bool x.f, .int .u64 (tW x.s), .int .i64 (tE x.s), .pointer none, .int .u64 (tW x.e), .int .i64 (tE x.e), .pointer none, .slice x.a x.n x.c] 41) (.cells #[.string y.st, .bool y.f, .int .u64 (tW y.s), .int .i64 (tE y.s), .pointer none, .int .u64 (tW y.e), .int .i64 (tE y.e), .pointer none, .slice y.a y.n y.c] 41)
  rw [← hW2] at j1 j2 j3 j4
  have HJ := Hid.mk (And.intro j2 (And.intro j3 j4))
  have HS := Hid.mk (same_ent (hS.kept j3))
  have HW := Hid.mk hW2
  have HY := Hid.mk (And.intro yst (And.intro yf (And.intro ye (And.intro hno hyes))))
  have HXB := Hid.mk hxb
  have hEy := hS.ey
  clear j1 j2 j3 j4 hW2 hS yst yf ye hno hyes hxb
  conv => arg 2; whnf
  go_wp2_with fail
  rw [← HW.out]
  refine HS.out.mono ?_
  rintro e w5 ⟨rfl, hb5⟩
  obtain ⟨Y, hYe⟩ : ∃ Y, Y = w13.heap.size + 1 := ⟨_, rfl⟩
  have hB5 : Below w13.heap.size w13 w5 := HJ.out.2.1.trans (hb5.mono (by have := HJ.out.2.2; omega))
  have hY : StB w5 Y y := (hb5.block _ (by have := HJ.out.2.2; omega)).trans (by rw [hYe]; exact HJ.out.1)
  have hC : StB w5 Bc xb := (hB5.block Bc (lt_of_blk hSt)).trans hSt
  rw [← hYe]
  obtain ⟨yst, yf, ye, hno, hyes⟩ := HY.out
  have hY' := hY
  unfold StB at hY'
  rw [yst, yf, ye] at hY'
  have s0 := cell_of_row w5 Y 0 _ _ _ hY'
  have s1 := cell_of_row w5 Y 1 _ _ _ hY'
  have s5 := cell_of_row w5 Y 5 _ _ _ hY'
  have s6 := cell_of_row w5 Y 6 _ _ _ hY'
  have s7 := cell_of_row w5 Y 7 _ _ _ hY'
  simp only [List.getElem?_toArray, List.getElem?_cons_zero, List.getElem?_cons_succ, dead] at s0 s1 s5 s6 s7
  have hne := nil_eq
  have HHH := Hid.mk (And.intro hYe (And.intro hno hyes))
  clear HW HS HJ hb5 la lb HY hYe hY' yst yf ye hno hyes
  go_wp2_with fail
  go_cut [230] from 38 (fun s230 wc => s230 = .bool false ∧ Below w5.heap.size w5 wc)
  case first =>
    go_region_with (go_at_call 8; refine (timeAt_any t2 _ g3 g4).mono ?_; rintro e w6 ⟨rfl, hb6⟩; have hb7 := Below.undrew hb6; have r0 := (hb7.cell (World.block_lt_of_cell? _ _ s0)).trans s0; have r1 := (hb7.cell (World.block_lt_of_cell? _ _ s1)).trans s1; have r5 := (hb7.cell (World.block_lt_of_cell? _ _ s5)).trans s5; have r6 := (hb7.cell (World.block_lt_of_cell? _ _ s6)).trans s6; have r7 := (hb7.cell (World.block_lt_of_cell? _ _ s7)).trans s7; clear hb6)

    all_goals
      go_wp2_with fail
      go_meet
      case rel => exact ⟨rfl, hb7⟩
  case rest =>
    obtain ⟨rfl, hB6⟩ := hcut
    obtain ⟨gy, hgy⟩ := hEy
    have hBB : Below w.heap.size w wc := (hold.trans (hB5.mono hold.size)).trans (hB6.mono (Nat.le_trans hold.size hB5.size))
    go_step
    refine wp_cond_false rfl ?_
    refine wp_skip ?_
    simp only [Exit.then]
    go_step
    exact partD a0 a1 n m c0 c1 b1 Bc Y gy ea ev name f1 f2 t1 t2 w wc hm (he.kept hBB) hd xb y hBB ((hB6.block Y (lt_of_blk hY)).trans hY) ((hB6.block Bc (lt_of_blk hC)).trans hC) ((hgy.kept hB5).kept hB6) HHH.out.2.1 (fun h => ⟨((HHH.out.2.2 h).1).trans (by rw [HXB.out h]), (HHH.out.2.2 h).2⟩) _ _ _ _ _ _ _ _ _ _ _ _ _ _ _ _ _ _ _ _ _ _ _ _ _ _ _ _ _ _ _ _ _ _ _ _ _ _ _ _ _ _ _ _ _ _ _ _ _ _ _ _ _ _ _ _ _ _ _ _ _ _ _ _ _ _ _ _ _ _ _ _ _ _ _ _ _ _ _ _ _ _ _ _ _ _ _ _ _ _ _ _ _ _ _ _ _ _ _ _ _ _ _ _ _ _ _ _ _ _ _ _ _ _ _ _ _ _ _ _ _ _ _ _ _ _ _ _ _ _ _ _ _ _ _ _ _ _ _ _ _ _ _ _ _ _ _ _ _ _ _ _ _ _ _ _ _ _ _ _ _ _ _ _ _ _ _ _ _ _ _ _ _ _ _ _ _ _ _ _ _ _ _ _ _ _ _ _ _ _ _ _ _ _ _ _ _ _ _ _ _ _ _ _ _ _ _ _ _ _ _ _ _ _ _ _ _ _ _ _ _ _ _ _ _ _ _ _ _ _ _ _ _ _ _ _ _ _ _ _ _ _ _ _ _ _ _ _ _ _ _ _ _ _ _ _ _ _ _ _ _ _ _ _ _

end Go.Proofs.Qxb6614174a
