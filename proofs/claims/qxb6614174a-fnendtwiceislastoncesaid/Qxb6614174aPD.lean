import Derived.Test.Qxb6614174aBun
namespace Go.Proofs.Qxb6614174a
open Go.RowKit
set_option linter.unusedVariables false
set_option linter.unusedSimpArgs false

def startsAt (id : Nat) : Code → Bool
  | .region i _ _ => i == id
  | .seq a _ => startsAt id a
  | _ => false
/-- What is left of a body from region id on. -/
def tailAt (id : Nat) : Code → Option Code
  | .seq a b => if startsAt id a = true then some (.seq a b) else tailAt id b
  | _ => none

set_option maxRecDepth 1000000 in
set_option maxHeartbeats 4000000 in
theorem partD (a0 a1 : Option Addr) (n m c0 c1 b1 Bc Y gy : Nat) (ea : Nat → Nat) (ev : Nat → Int) (name : ByteArray) (f1 f2 : Bool) (t1 t2 : Int) (w w6 : World) (hm : m ≤ 65536) (he : Evs w6 a1 m c1 b1 ea ev)
    (hd : Bool) (xb y : Ent) (hold : Below w.heap.size w w6) (hY : StB w6 Y y) (hC : StB w6 Bc xb) (hEy : EvR w6 y.a y.n y.c gy ev) (hno : hd = false → y.s = 0 ∧ y.n = 0) (hyes : hd = true → y.s = xb.s ∧ y.n = m)
    (u14 u15 u16 u17 u18 u19 u20 u21 u22 u23 u26 u27 u28 u29 u30 u31 u32 u33 u34 u36 u37 u38 u39 u40 u41 u42 u43 u44 u45 u46 u47 u48 u49 u50 u51 u52 u53 u54 u55 u56 u57 u58 u59 u60 u61 u62 u63 u64 u65 u66 u67 u68 u69 u70 u71 u72 u73 u74 u75 u76 u77 u78 u79 u80 u81 u82 u83 u84 u85 u86 u87 u88 u89 u90 u91 u92 u93 u94 u95 u96 u97 u98 u99 u100 u101 u102 u103 u104 u105 u106 u107 u108 u109 u110 u111 u112 u113 u114 u115 u116 u117 u118 u119 u120 u121 u122 u123 u124 u125 u126 u127 u128 u129 u130 u131 u132 u133 u134 u135 u136 u137 u138 u139 u140 u141 u142 u143 u144 u145 u146 u147 u148 u149 u150 u151 u152 u153 u154 u155 u156 u157 u158 u159 u160 u161 u162 u163 u164 u165 u166 u167 u168 u169 u170 u171 u172 u173 u174 u175 u176 u177 u178 u179 u180 u181 u182 u183 u184 u185 u186 u187 u188 u189 u190 u191 u192 u193 u194 u195 u196 u197 u198 u199 u200 u201 u202 u203 u204 u205 u206 u207 u208 u209 u210 u211 u212 u213 u214 u215 u216 u217 u218 u219 u220 u221 u222 u223 u224 u225 u226 u227 u228 u229 u230 u231 u232 u233 u234 u235 u236 u237 u238 u239 u240 u241 u242 u243 u244 u245 u246 u247 u248 u249 u250 u251 u252 u253 u254 u255 u256 u257 u258 u259 u260 u261 u262 u263 u264 u265 u266 u267 u268 u269 u270 u271 u272 u273 u274 u275 u276 u277 u278 u279 u280 u281 : Value) :
    Code.wp Try.prog ((Try.f3.body.bind (tailAt 46)).getD .skip) (bodyPost Try.prog Try.f3 fun e w' => e = .returned (.bool true) ∧ Below w.heap.size w w') ⟨#[.slice a0 n c0, .slice a1 m c1, .string name, .bool f1, .int .i64 t1, .bool f2, .int .i64 t2, undef, undef, undef, undef, undef, undef, undef, u14, u15, u16, u17, u18, u19, u20, u21, u22, u23, .pointer (some ⟨Bc, 0, none⟩), .bool hd, u26, u27, u28, u29, u30, u31, u32, u33, u34, .pointer (some ⟨Y, 0, none⟩), u36, u37, u38, u39, u40, u41, u42, u43, u44, u45, u46, u47, u48, u49, u50, u51, u52, u53, u54, u55, u56, u57, u58, u59, u60, u61, u62, u63, u64, u65, u66, u67, u68, u69, u70, u71, u72, u73, u74, u75, u76, u77, u78, u79, u80, u81, u82, u83, u84, u85, u86, u87, u88, u89, u90, u91, u92, u93, u94, u95, u96, u97, u98, u99, u100, u101, u102, u103, u104, u105, u106, u107, u108, u109, u110, u111, u112, u113, u114, u115, u116, u117, u118, u119, u120, u121, u122, u123, u124, u125, u126, u127, u128, u129, u130, u131, u132, u133, u134, u135, u136, u137, u138, u139, u140, u141, u142, u143, u144, u145, u146, u147, u148, u149, u150, u151, u152, u153, u154, u155, u156, u157, u158, u159, u160, u161, u162, u163, u164, u165, u166, u167, u168, u169, u170, u171, u172, u173, u174, u175, u176, u177, u178, u179, u180, u181, u182, u183, u184, u185, u186, u187, u188, u189, u190, u191, u192, u193, u194, u195, u196, u197, u198, u199, u200, u201, u202, u203, u204, u205, u206, u207, u208, u209, u210, u211, u212, u213, u214, u215, u216, u217, u218, u219, u220, u221, u222, u223, u224, u225, u226, u227, u228, u229, u230, u231, u232, u233, u234, u235, u236, u237, u238, u239, u240, u241, u242, u243, u244, u245, u246, u247, u248, u249, u250, u251, u252, u253, u254, u255, u256, u257, u258, u259, u260, u261, u262, u263, u264, u265, u266, u267, u268, u269, u270, u271, u272, u273, u274, u275, u276, u277, u278, u279, u280, u281], []⟩ w6 := by
  have hne := nil_eq
  cases hd with
  | false =>
    obtain ⟨ys, yn⟩ := hno rfl
    have hY' := hY
    unfold StB at hY'
    rw [ys, yn] at hY'
    have s2 := cell_of_row w6 Y 2 _ _ _ hY'
    have s3 := cell_of_row w6 Y 3 _ _ _ hY'
    have s4 := cell_of_row w6 Y 4 _ _ _ hY'
    have s8 := cell_of_row w6 Y 8 _ _ _ hY'
    simp only [List.getElem?_toArray, List.getElem?_cons_zero, List.getElem?_cons_succ] at s2 s3 s4 s8
    clear hY' hY ys yn hno hyes hEy hC he
    conv => arg 2; whnf
    go_wp2_with fail
    go_region_with (go_at_call 8; refine (timeAt_any 0 _ (by omega) (by omega)).mono ?_; rintro e w7 ⟨rfl, hb6⟩; have hb7 := Below.undrew hb6; have r2 := (hb7.cell (World.block_lt_of_cell? _ _ s2)).trans s2; have r3 := (hb7.cell (World.block_lt_of_cell? _ _ s3)).trans s3; have r4 := (hb7.cell (World.block_lt_of_cell? _ _ s4)).trans s4; have r8 := (hb7.cell (World.block_lt_of_cell? _ _ s8)).trans s8; clear hb6)
    all_goals
      go_wp2
      go_ret
      exact ⟨rfl, hold.trans (hb7.mono hold.size)⟩
  | true =>
    obtain ⟨ys, yn⟩ := hyes rfl
    have hY' := hY
    unfold StB at hY'
    rw [ys, yn] at hY'
    have s2 := cell_of_row w6 Y 2 _ _ _ hY'
    have s3 := cell_of_row w6 Y 3 _ _ _ hY'
    have s4 := cell_of_row w6 Y 4 _ _ _ hY'
    have s8 := cell_of_row w6 Y 8 _ _ _ hY'
    simp only [List.getElem?_toArray, List.getElem?_cons_zero, List.getElem?_cons_succ] at s2 s3 s4 s8
    obtain ⟨_, _, c2, c3, c4, _⟩ := hC.cells
    rw [yn] at hEy
    have x1 := he.ix
    have xy := hEy.ix
    have HS8 := Hid.mk s8
    clear hY' hY ys yn hno hyes hC
    conv => arg 2; whnf
    go_wp2_with fail
    go_loopw [37] (fun i wr => ∃ k : Nat, k ≤ m ∧ i = .int .i64 k ∧ Dr w6 wr) (fun i _ => m - (intOf i).toNat)
    case atStart => exact ⟨0, Nat.zero_le _, rfl, Dr.refl _⟩
    case round =>
      obtain ⟨k, hk, rfl, hD⟩ := hrel
      by_cases hlt : k < m
      · obtain ⟨p0, p1, _⟩ := hEy.c0 k hlt
        have p0' := hD.cell p0
        have p1' := hD.cell p1
        have p2' := hD.cell (he.c0 k hlt)
        have p3' := hD.cell HS8.out
        have q1 : ((ev k : Int) != ev k) = false := by simp
        unfold startedB at p0'
        clear p0 p1 s2 s3 s4 s8 c2 c3 c4 hne
        go_wp2_with fail
        go_quiet (fail)
        go_wp2
        go_roundw
        case rel => exact ⟨k + 1, by omega, by go_num, hD.drewN _⟩
        case measure => simp [intOf]; omega
      · go_wp2
        go_ret
        exact ⟨rfl, hold.trans (hD.below _)⟩

end Go.Proofs.Qxb6614174a
