import Derived.Test.Qxb6614174aPC
namespace Go.Proofs.Qxb6614174a
open Go.RowKit
set_option linter.unusedVariables false
set_option linter.unusedSimpArgs false

theorem below2 {wr W2 w5 : World} (h1 : Below wr.heap.size wr W2) (h2 : W2.heap.size = wr.heap.size + 2) (h3 : Below W2.heap.size W2 w5) : Below wr.heap.size wr w5 := h1.trans (h3.mono (by omega))
theorem sty {wr W2 w5 : World} {y : Ent} (h1 : W2.heap[wr.heap.size + 1]? = some (.cells #[.string y.st, .bool y.f, .int .u64 (tW y.s), .int .i64 (tE y.s), .pointer none, .int .u64 (tW y.e), .int .i64 (tE y.e), .pointer none, .slice y.a y.n y.c] 41 (0, 0))) (h2 : W2.heap.size = wr.heap.size + 2) (h3 : Below W2.heap.size W2 w5) : StB w5 (wr.heap.size + 1) y := (h3.block _ (by omega)).trans h1

set_option maxRecDepth 1000000 in
set_option maxHeartbeats 4000000 in
theorem partB (a0 a1 : Option Addr) (n m c0 c1 b0 b1 ra rb rc Bc : Nat) (pa ea : Nat → Nat) (nm : Nat → ByteArray) (fl : Nat → Bool) (ns ev : Nat → Int) (name : ByteArray) (f1 f2 : Bool) (t1 t2 : Int) (w w13 : World) (hn : n ≤ 65536) (hm : m ≤ 65536)
    (hp : Pri w a0 n c0 b0 pa nm fl ns) (he : Evs w a1 m c1 b1 ea ev) (g3 : -9223372036854775808 ≤ t2) (g4 : t2 ≤ 9223372036854775807)
    (LA LB Lc : List (ByteArray × Ent)) (hd : Bool) (xc xb : Ent) (hMa : Mp Ent.v w13 ra LA) (hMb : Mp Ent.v w13 rb LB) (hMc : Mp Ent.v w13 rc Lc) (hFin : Fin w13 LA LB Lc nm n m ev name f2 t2 hd xc) (hold : Below w.heap.size w w13) (hSt : StB w13 Bc xb) (hxb : hd = true → xb = xc)
    (u14 u15 u16 u20 u21 u27 u28 u29 u30 u31 u32 u33 u34 u35 u36 u37 u38 u39 u40 u41 u42 u43 u44 u45 u46 u47 u48 u49 u50 u51 u52 u53 u54 u55 u56 u57 u58 u59 u60 u61 u62 u63 u64 u65 u66 u67 u68 u69 u70 u71 u72 u73 u74 u75 u76 u77 u78 u79 u80 u81 u82 u83 u84 u85 u86 u87 u88 u89 u90 u91 u92 u93 u94 u95 u96 u97 u98 u99 u100 u101 u102 u103 u104 u105 u106 u107 u108 u109 u110 u111 u112 u113 u114 u115 u116 u117 u118 u119 u120 u121 u122 u123 u124 u125 u126 u127 u128 u129 u130 u131 u132 u133 u134 u135 u136 u137 u138 u139 u140 u141 u142 u143 u144 u145 u146 u147 u148 u149 u150 u151 u152 u153 u154 u155 u156 u157 u158 u159 u160 u161 u162 u163 u164 u165 u166 u167 u168 u169 u170 u171 u172 u173 u174 u175 u176 u177 u178 u179 u180 u181 u182 u183 u184 u185 u186 u187 u188 u189 u190 u191 u192 u193 u194 u195 u196 u197 u198 u199 u200 u201 u202 u203 u204 u205 u206 u207 u208 u209 u210 u211 u212 u213 u214 u215 u216 u217 u218 u219 u220 u221 u222 u223 u224 u225 u226 u227 u228 u229 u230 u231 u232 u233 u234 u235 u236 u237 u238 u239 u240 u241 u242 u243 u244 u245 u246 u247 u248 u249 u250 u251 u252 u253 u254 u255 u256 u257 u258 u259 u260 u261 u262 u263 u264 u265 u266 u267 u268 u269 u270 u271 u272 u273 u274 u275 u276 u277 u278 u279 u280 u281 : Value) :
    Code.wp Try.prog ((Try.f3.body.bind (tailAt 28)).getD .skip) (bodyPost Try.prog Try.f3 fun e w' => e = .returned (.bool true) ∧ Below w.heap.size w w') ⟨#[.slice a0 n c0, .slice a1 m c1, .string name, .bool f1, .int .i64 t1, .bool f2, .int .i64 t2, undef, undef, undef, undef, undef, undef, undef, u14, u15, u16, .map (some ra), .map (some rb), .map (some rc), u20, u21, .map (some ra), .map (some rb), .pointer (some ⟨Bc, 0, none⟩), .bool hd, .int .i64 (gr hd), u27, u28, u29, u30, u31, u32, u33, u34, u35, u36, u37, u38, u39, u40, u41, u42, u43, u44, u45, u46, u47, u48, u49, u50, u51, u52, u53, u54, u55, u56, u57, u58, u59, u60, u61, u62, u63, u64, u65, u66, u67, u68, u69, u70, u71, u72, u73, u74, u75, u76, u77, u78, u79, u80, u81, u82, u83, u84, u85, u86, u87, u88, u89, u90, u91, u92, u93, u94, u95, u96, u97, u98, u99, u100, u101, u102, u103, u104, u105, u106, u107, u108, u109, u110, u111, u112, u113, u114, u115, u116, u117, u118, u119, u120, u121, u122, u123, u124, u125, u126, u127, u128, u129, u130, u131, u132, u133, u134, u135, u136, u137, u138, u139, u140, u141, u142, u143, u144, u145, u146, u147, u148, u149, u150, u151, u152, u153, u154, u155, u156, u157, u158, u159, u160, u161, u162, u163, u164, u165, u166, u167, u168, u169, u170, u171, u172, u173, u174, u175, u176, u177, u178, u179, u180, u181, u182, u183, u184, u185, u186, u187, u188, u189, u190, u191, u192, u193, u194, u195, u196, u197, u198, u199, u200, u201, u202, u203, u204, u205, u206, u207, u208, u209, u210, u211, u212, u213, u214, u215, u216, u217, u218, u219, u220, u221, u222, u223, u224, u225, u226, u227, u228, u229, u230, u231, u232, u233, u234, u235, u236, u237, u238, u239, u240, u241, u242, u243, u244, u245, u246, u247, u248, u249, u250, u251, u252, u253, u254, u255, u256, u257, u258, u259, u260, u261, u262, u263, u264, u265, u266, u267, u268, u269, u270, u271, u272, u273, u274, u275, u276, u277, u278, u279, u280, u281], []⟩ w13 := by
  have n1 := run_len_map hMa
  have n2 := run_len_map hMb
  have n3 := run_len_map hMc
  have hsm := hFin.small
  have hg0 : 0 ≤ gr hd ∧ gr hd ≤ 1 := by unfold gr; split <;> omega
  have hle : LB.length ≤ n + 2 := by rw [hFin.lbc]; split <;> omega
  have hla : LA.length ≤ n + 2 := by rw [hFin.lab]; exact hle
  have k1 : ((LA.length : Int) != (LB.length : Int)) = false := by rw [hFin.lab]; simp
  have k2 : ((LB.length : Int) != (Lc.length : Int) + gr hd) = false := by
    have h := hFin.lbc
    have e : (LB.length : Int) = (Lc.length : Int) + gr hd := by
      rw [h]; unfold gr; split <;> simp
    rw [e]; simp
  obtain ⟨hg1, hg2⟩ := hg0
  have HXB := Hid.mk hxb
  have x0 := hp.ix
  clear hxb
  conv => arg 2; whnf
  go_wp2_with fail
  clear n1 n2 n3 k1 k2 hle hla hg1 hg2 hsm
  go_loopw [27] (fun i wr => ∃ k : Nat, k ≤ n ∧ i = .int .i64 k ∧ Below w13.heap.size w13 wr) (fun i _ => n - (intOf i).toNat)
  case atStart => exact ⟨0, Nat.zero_le _, rfl, Below.refl _ _⟩
  case round =>
    obtain ⟨k, hk, rfl, hB⟩ := hrel
    by_cases hlt : k < n
    · obtain ⟨x, y, ex, ey, hS, hz⟩ := (hFin.kept hB).each k hlt
      have e0 := (hp.kept (hold.trans (hB.mono hold.size))).c0 k hlt
      have la := run_look_some (hMa.kept hB) ex
      have lb := fun o => run_look_some ((hMb.kept hB).kept ((Below.refl _ _).alloc (Nat.le_refl _) o)) ey
      obtain ⟨W2, hW2⟩ : ∃ W, W = (wr.alloc (.cells #[.string x.st, .bool x.f, .int .u64 (tW x.s), .int .i64 (tE x.s), .pointer none, .int .u64 (tW x.e), .int .i64 (tE x.e), .pointer none, .slice x.a x.n x.c] 41)).alloc (.cells #[.string y.st, .bool y.f, .int .u64 (tW y.s), .int .i64 (tE y.s), .pointer none, .int .u64 (tW y.e), .int .i64 (tE y.e), .pointer none, .slice y.a y.n y.c] 41) := ⟨_, rfl⟩
      obtain ⟨j1, j2, j3, j4⟩ := two_new wr (.cells #[.string x.st, .bool x.f, .int .u64 (tW x.s), .int .i64 (tE x.s), .pointer none, .int .u64 (tW x.e), .int .i64 (tE x.e), .pointer none, .slice x.a x.n x.c] 41) (.cells #[.string y.st, .bool y.f, .int .u64 (tW y.s), .int .i64 (tE y.s), .pointer none, .int .u64 (tW y.e), .int .i64 (tE y.e), .pointer none, .slice y.a y.n y.c] 41)
      rw [← hW2] at j1 j2 j3 j4
      have HJ := Hid.mk (And.intro j2 (And.intro j3 j4))
      have HS := Hid.mk (same_ent (hS.kept j3))
      have HW := Hid.mk hW2
      have HZ := Hid.mk hz
      clear j1 j2 j3 j4 hW2 hS hz
      go_wp2_with fail
      rw [← HW.out]
      refine HS.out.mono ?_
      rintro e w5 ⟨rfl, hb5⟩
      have hB5 : Below wr.heap.size wr w5 := below2 HJ.out.2.1 HJ.out.2.2 hb5
      have hY := sty HJ.out.1 HJ.out.2.2 hb5
      have hB6 : Below w13.heap.size w13 w5 := hB.trans (hB5.mono hB.size)
      obtain ⟨s0, s1, s2, s3, s4, s5, s6, s7, s8⟩ := hY.cells
      clear HW HS HJ hb5 la lb e0 hY x0 ex ey
      by_cases hne : nm k = name
      · have q1 : ((nm k).toList == name.toList) = true := by rw [hne]; simp
        have q2 : ((nm k).toList != name.toList) = false := by rw [hne]; simp
        clear hne HZ s0 s1 s2 s3 s4 s5 s6 s7 s8
        go_wp2_with fail
        go_roundw
        case rel => exact ⟨k + 1, by omega, by go_num, hB6⟩
        case measure => simp [intOf]; omega
      · have q1 : ((nm k).toList == name.toList) = false := by rw [← beq_toListBytes, Bool.eq_false_iff]; exact fun h => hne ((MapKept.bytes_beq _ _).1 h)
        have q2 : ((nm k).toList != name.toList) = true := by simp only [bne, q1]; rfl
        obtain ⟨z, ez, hSz⟩ := HZ.out hne
        have lc := run_look_bare (hMc.kept hB6) ez
        have HS := Hid.mk (same_ent (hSz.kept hB5))
        clear hne HZ hSz ez
        go_wp2_with fail
        refine HS.out.mono ?_
        rintro e w7 ⟨rfl, hb7⟩
        have hB7 : Below w13.heap.size w13 w7 := hB6.trans (hb7.mono hB6.size)
        clear HS lc hb7 hB5 hB6
        go_wp2_with fail
        go_roundw
        case rel => exact ⟨k + 1, by omega, by go_num, hB7⟩
        case measure => simp [intOf]; omega
    · have hB' : Below w.heap.size w wr := hold.trans (hB.mono hold.size)
      go_upto_if 148 with fail
      refine wp_cond_false rfl ?_
      refine wp_exit ?_
      go_step
      go_step
      go_step
      go_step
      exact partC a0 a1 n m c0 c1 b0 b1 ra rb rc Bc pa ea nm fl ns ev name f1 f2 t1 t2 w wr hn hm hp he g3 g4 LA LB Lc hd xc xb (hMa.kept hB) (hMb.kept hB) (hMc.kept hB) (hFin.kept hB) hB' ((hB.block Bc (lt_of_blk hSt)).trans hSt) HXB.out _ _ _ _ _ _ _ _ _ _ _ _ _ _ _ _ _ _ _ _ _ _ _ _ _ _ _ _ _ _ _ _ _ _ _ _ _ _ _ _ _ _ _ _ _ _ _ _ _ _ _ _ _ _ _ _ _ _ _ _ _ _ _ _ _ _ _ _ _ _ _ _ _ _ _ _ _ _ _ _ _ _ _ _ _ _ _ _ _ _ _ _ _ _ _ _ _ _ _ _ _ _ _ _ _ _ _ _ _ _ _ _ _ _ _ _ _ _ _ _ _ _ _ _ _ _ _ _ _ _ _ _ _ _ _ _ _ _ _ _ _ _ _ _ _ _ _ _ _ _ _ _ _ _ _ _ _ _ _ _ _ _ _ _ _ _ _ _ _ _ _ _ _ _ _ _ _ _ _ _ _ _ _ _ _ _ _ _ _ _ _ _ _ _ _ _ _ _ _ _ _ _ _ _ _ _ _ _ _ _ _ _ _ _ _ _ _ _ _ _ _ _ _ _ _ _ _ _ _ _ _ _ _ _ _ _ _ _ _ _ _ _ _ _ _ _ _ _ _ _ _ _ _ _ _ _ _ _ _ _

end Go.Proofs.Qxb6614174a
