import Derived.Test.Qxb6614073aW3
import Derived.Test.Qxb6614073aPlain3
namespace Go.Proofs.Qxb6614073a
open Go.RowKit
set_option linter.unusedVariables false
set_option linter.unusedSimpArgs false

def I (L : List Nat) : List Value := L.map (fun x : Nat => Value.int .i64 (x : Int))
theorem I_snoc (L : List Nat) (t : Nat) : I (L ++ [t]) = I L ++ [.int .i64 (t : Nat)] := by simp [I]
theorem I_len (L : List Nat) : (I L).length = L.length := by simp [I]

theorem made_arr {w w1 : World} {e n : Nat} {z : Value} (hown : w1.ownsRow w.heap.size e 1 (.slice (some ⟨w.heap.size, 0, none⟩) n n) n (madeCells #[z] n).toList) :
    Arr w1 w.heap.size e n (fun _ => z) := by
  refine Arr.of_owns hown (fun i hi => ?_)
  rw [toList_madeCells_one]
  simp [hi]

theorem below_none {w w1 : World} (h : w.grownBy w1 none) : Below w.heap.size w w1 := (Below.refl _ _).grown h (Nat.le_refl _) (fun k hk => by cases hk)

/-- Below BB nothing but the blocks OUT and D may have turned. -/
structure VG (OUT D BB : Nat) (w w' : World) : Prop where
  os : w'.os = w.os
  tape : w'.tape = w.tape
  output : w'.output = w.output
  size : w.heap.size ≤ w'.heap.size
  block : ∀ k, k < BB → k ≠ OUT → k ≠ D → w'.heap[k]? = w.heap[k]?

theorem VG.refl (OUT D BB : Nat) (w : World) : VG OUT D BB w w := ⟨rfl, rfl, rfl, Nat.le_refl _, fun _ _ _ _ => rfl⟩
theorem VG.trans {OUT D BB : Nat} {a b c : World} (h : VG OUT D BB a b) (k : VG OUT D BB b c) : VG OUT D BB a c :=
  ⟨k.os.trans h.os, k.tape.trans h.tape, k.output.trans h.output, Nat.le_trans h.size k.size, fun i hi hn hd => (k.block i hi hn hd).trans (h.block i hi hn hd)⟩
theorem VF.vg {OUT D BB : Nat} {a b : World} (h : VF OUT BB a b) : VG OUT D BB a b := ⟨h.os, h.tape, h.output, h.size, fun k hk hn _ => h.block k hk hn⟩
theorem VG.dr {OUT D BB : Nat} {a b c : World} (h : VG OUT D BB a b) (hd : Dr b c) : VG OUT D BB a c := by
  obtain ⟨q, rfl⟩ := hd; exact ⟨h.os, h.tape, h.output, h.size, h.block⟩
theorem VG.setCell {OUT D BB : Nat} {a b : World} (h : VG OUT D BB a b) (i : Nat) (u : Value) : VG OUT D BB a (b.setCell ⟨D, i, none⟩ u) :=
  h.trans ⟨rfl, rfl, rfl, by simp, fun k _ _ hd => heap_setCell_other b _ k u hd⟩
theorem VG.cell {OUT D BB : Nat} {w w' : World} (h : VG OUT D BB w w') {g : Nat} (h1 : g < BB) (h2 : g ≠ OUT) (h3 : g ≠ D) {i : Nat} {v : Value} (hc : w.cell? ⟨g, i, none⟩ = some v) : w'.cell? ⟨g, i, none⟩ = some v :=
  (World.cell?_of_block (a := ⟨g, i, none⟩) (h.block g h1 h2 h3)).trans hc
theorem Out.dr {w w' : World} {OUT BB : Nat} {v : Value} {L : List Nat} (h : Out w OUT BB v L) (hd : Dr w w') : Out w' OUT BB v L := by
  obtain ⟨q, rfl⟩ := hd; exact ⟨h.at_, h.own⟩
theorem Out.setCell {w : World} {OUT BB D : Nat} {v : Value} {L : List Nat} (h : Out w OUT BB v L) (hn : OUT ≠ D) (hD : D < BB) (i : Nat) (u : Value) : Out (w.setCell ⟨D, i, none⟩ u) OUT BB v L :=
  ⟨(heap_setCell_other w _ OUT u hn).trans h.at_, ownsRow_setCell_below h.own hD _⟩

/-- What the loop of expand holds at its head: t is the next tuple to visit. -/
def Hd (n : Nat) (r : Nat → Nat) (fx : Nat → Bool) (wd : Nat → Nat) (lim : Int) (OUT D BB : Nat) (w0 wr : World) (t : Nat) : Prop :=
  Mt n r fx wd t ∧ t < pr r n ∧ (ML n r fx wd t).length < mx lim ∧ Arr wr D 24 (fl fx n).length (fun i => .int .u64 (dg r t (ps fx n i) : Nat)) ∧ (∃ v, Out wr OUT BB v (ML n r fx wd t)) ∧ VG OUT D BB w0 wr

/-- .. and behind the visit, at the head of the inner loop. -/
def Hi (n : Nat) (r : Nat → Nat) (fx : Nat → Bool) (OUT D BB : Nat) (w0 wr : World) (t i : Nat) (L : List Nat) : Prop :=
  (∀ j, j < i → dg r t (ps fx n j) + 1 = r (ps fx n j)) ∧ Arr wr D 24 (fl fx n).length (fun j => if j < i then .int .u64 0 else .int .u64 (dg r t (ps fx n j) : Nat)) ∧ (∃ v, Out wr OUT BB v L) ∧ VG OUT D BB w0 wr

theorem lt_of_blk {w : World} {g : Nat} {o : Obj} (h : w.heap[g]? = some o) : g < w.heap.size := (Array.getElem?_eq_some_iff.1 h).1

theorem free_row {w : World} {base n cap : Nat} {ao : Option Addr} {fx : Nat → Bool} (h : w.ownsRow base 3 1 (.slice ao (fl fx n).length cap) (fl fx n).length (I (fl fx n))) :
    ∃ Gf, At ao Gf (fl fx n).length ∧ (base ≤ Gf ∧ Arr w Gf 3 (fl fx n).length (fun i => .int .i64 (ps fx n i : Nat)) ∨ Hid ((fl fx n).length = 0)) := by
  rcases h.2 with ⟨h1, h2⟩ | ⟨g, cap', cur, h1, hb, _⟩
  · injection h1 with h1 _ _
    exact ⟨0, .inr ⟨h1, h2⟩, .inr h2⟩
  · injection h1 with h1 _ h3
    subst h1; subst h3
    refine ⟨g, .inl rfl, .inl ⟨hb, Arr.of_owns h (fun i hi => ?_)⟩⟩
    simp [I, ps_get hi]

theorem start_hd {n m : Nat} {r A : Nat → Nat} (g : Good n r m A) (sub : Nat) (lim : Int) {OUT D F : Nat} {w w5 : World} (hO0 : w.heap[OUT]? = some (.cells #[.slice none 0 0] 22 (0, 0))) (hF : OUT < F) (hB : Below F w w5)
    (hD : Arr w5 D 24 (fl (fixF A m) n).length (fun _ => .int .u64 0)) {BB : Nat} (hBB : BB = w5.heap.size) : Hd n r (fixF A m) (wantF r A sub m) lim OUT D BB w5 w5 (rp r A sub m) := by
  obtain ⟨f1, f2, f3, f4⟩ := first_ok g.rad (g.wdok sub)
  rw [← g.rp_lo sub] at f1 f2 f3 f4
  refine ⟨f1, f2, by rw [f3]; simp only [mx, List.length_nil]; omega, hD.congr (fun i hi => by rw [f4 i hi]; rfl), ⟨.slice none 0 0, (hB.block OUT hF).trans hO0, ?_⟩, VG.refl _ _ _ _⟩
  rw [f3]
  exact World.ownsRow_nil _ _ _ _

section
variable {n : Nat} {r : Nat → Nat} {fx : Nat → Bool} {wd : Nat → Nat} {lim : Int} {OUT D BB t i : Nat} {w0 wr wq w' : World} {v : Value} {L : List Nat}

theorem hi_start (h : Hd n r fx wd lim OUT D BB w0 wr t) (hO : Out w' OUT BB v (ML n r fx wd t ++ [t])) (hv : VF OUT BB wr w') (hD : D < BB) (hne : OUT ≠ D) : Hi n r fx OUT D BB w0 w' t 0 (ML n r fx wd t ++ [t]) := by
  obtain ⟨_, _, _, hA, _, hV⟩ := h
  refine ⟨fun j hj => by omega, ?_, ⟨v, hO⟩, hV.trans hv.vg⟩
  exact (hA.of_block (hv.block D hD (Ne.symm hne))).congr (fun j _ => by rw [if_neg (by omega)])

theorem hi_next (h : Hi n r fx OUT D BB w0 wr t i L) (hi : i < (fl fx n).length) (hm : dg r t (ps fx n i) + 1 = r (ps fx n i)) (hd : Dr wr wq) (hD : D < BB) (hne : OUT ≠ D) : Hi n r fx OUT D BB w0 (wq.setCell ⟨D, i, none⟩ (.int .u64 0)) t (i + 1) L := by
  obtain ⟨h1, hA, ⟨v, hO⟩, hV⟩ := h
  refine ⟨fun j hj => ?_, ?_, ⟨v, (hO.dr hd).setCell hne hD _ _⟩, (hV.dr hd).setCell _ _⟩
  · by_cases e : j = i
    · subst e; exact hm
    · exact h1 j (by omega)
  · refine ((hA.dr hd).setCell i _).congr (fun j hj => ?_)
    by_cases e : j = i
    · rw [if_pos e, if_pos (by omega)]
    · rw [if_neg e]
      by_cases e2 : j < i
      · rw [if_pos e2, if_pos (by omega)]
      · rw [if_neg e2, if_neg (by omega)]

theorem hi_break (g : Rad n r) (hw : WdOk n r fx wd) (h : Hi n r fx OUT D BB w0 wr t i (ML n r fx wd t ++ [t])) (hu : Mt n r fx wd t) (ht : t < pr r n) (hi : i < (fl fx n).length) (hlt : dg r t (ps fx n i) + 1 < r (ps fx n i))
    (hgo : ((ML n r fx wd t).length : Int) + 1 < lim) (hd : Dr wr wq) (hD : D < BB) (hne : OUT ≠ D) :
    Hd n r fx wd lim OUT D BB w0 (wq.setCell ⟨D, i, none⟩ (.int .u64 ((dg r t (ps fx n i) : Nat) + 1))) (tz r fx wd t (ps fx n i) + pr r (ps fx n i)) := by
  obtain ⟨h1, hA, ⟨v, hO⟩, hV⟩ := h
  obtain ⟨n1, n2, n3, n4, n5⟩ := next_ok g hw hu ht hi h1 hlt
  refine ⟨n1, n3, ?_, ?_, ⟨v, ?_⟩, (hV.dr hd).setCell _ _⟩
  · rw [n4, ML_succ_yes hu, List.length_append]
    exact res_go hgo
  · refine ((hA.dr hd).setCell i _).congr (fun j hj => ?_)
    rw [n5 j hj]
    by_cases e : j = i
    · rw [if_pos e, if_neg (by omega), if_pos e]; simp
    · rw [if_neg e]
      by_cases e2 : j < i
      · rw [if_pos e2, if_pos e2]; rfl
      · rw [if_neg e2, if_neg e2, if_neg e]
  · rw [n4, ML_succ_yes hu]
    exact (hO.dr hd).setCell hne hD _ _

theorem Out.mono {B : Nat} (h : Out w' OUT BB v L) (hB : B ≤ BB) : Out w' OUT B v L := by
  refine ⟨h.at_, h.own.1, ?_⟩
  rcases h.own.2 with h2 | ⟨g, cap, cur, hv, hg, r⟩
  · exact .inl h2
  · exact .inr ⟨g, cap, cur, hv, by omega, r⟩

theorem fin_ok {F : Nat} {w : World} (hO : Out w' OUT BB v L) (hL : L = res n r fx wd lim) (hV : VG OUT D BB w0 w') (hB : Below F w w0) (hF : F = w.heap.size) (hFD : F < D) (hDB : D < BB) :
    (∃ v, Out w' OUT w.heap.size v (res n r fx wd lim)) ∧ VF OUT w.heap.size w w' := by
  subst hL
  refine ⟨⟨v, hO.mono (by omega)⟩, hV.os.trans hB.os, hV.tape.trans hB.tape, hV.output.trans hB.output, Nat.le_trans hB.size hV.size, fun k hk hn => ?_⟩
  exact (hV.block k (by omega) hn (by omega)).trans (hB.block k (by omega))
end

/-- An index into a slice that is nil and empty, or begins at a block's head. -/
theorem At.index {a : Option Addr} {g n c : Nat} (h : At a g n) {t : TypeId} (ht : Try.prog.underlying t = some (.slice (Try.prog.elem t))) (hs : ∀ w, (sizeOf (Try.prog.elem t)).run Try.prog w = .ok 1 w) :
    ∀ (i : Nat) (w : World), i < n → (Instr.indexAt t (.slice a n c) (.int .i64 (i : Int))).run Try.prog w = .ok (.pointer (some ⟨g, i, none⟩)) w := by
  intro i w hi
  obtain rfl := h.pos (by omega)
  rw [run_indexAt_slice w t _ _ _ _ _ ht, if_pos (by omega), hs]
  simp [Result.andThen, Addr.add_lit]
theorem ix22 {a : Option Addr} {g n : Nat} (h : At a g n) (c : Nat) : ∀ (i : Nat) (w : World), i < n → (Instr.indexAt 22 (.slice a n c) (.int .i64 (i : Int))).run Try.prog w = .ok (.pointer (some ⟨g, i, none⟩)) w :=
  h.index (by kernel_rfl) (fun w => by kernel_rfl)
theorem ix23 {a : Option Addr} {g n : Nat} (h : At a g n) (c : Nat) : ∀ (i : Nat) (w : World), i < n → (Instr.indexAt 23 (.slice a n c) (.int .i64 (i : Int))).run Try.prog w = .ok (.pointer (some ⟨g, i, none⟩)) w :=
  h.index (by kernel_rfl) (fun w => by kernel_rfl)

set_option maxRecDepth 100000 in
set_option maxHeartbeats 4000000 in
theorem expand_any (S b0 b1 b2 n m c0 c1 c2 OUT LIM : Nat) (a0 a1 a2 : Option Addr) (r A : Nat → Nat) (w : World) (sub : Nat) (lim : Int) (g : Good n r m A) (hs : Sp w S a0 a1 n c0 c1) (k0 : At a0 b0 n) (k1 : At a1 b1 n) (k2 : At a2 b2 m) (hsub : sub ≤ 1000000)
    (hr : ∀ i, i < n → w.cell? ⟨b0, i, none⟩ = some (.int .u64 (r i))) (hst : ∀ i, i < n → w.cell? ⟨b1, i, none⟩ = some (.int .u64 (pr r i : Nat))) (ha : ∀ i, i < m → w.cell? ⟨b2, i, none⟩ = some (.int .i64 (A i)))
    (hO0 : w.heap[OUT]? = some (.cells #[.slice none 0 0] 22 (0, 0))) (hL0 : w.cell? ⟨LIM, 0, none⟩ = some (.int .i64 lim)) (hLO : LIM ≠ OUT) (hSO : S ≠ OUT) (h0O : 0 < n → b0 ≠ OUT) (h1O : 0 < n → b1 ≠ OUT) :
    Calls Try.prog 15 #[.pointer (some ⟨S, 0, none⟩), .slice a2 m c2, .int .u64 sub, .func (.func 16) #[] #[.pointer (some ⟨OUT, 0, none⟩), .pointer (some ⟨LIM, 0, none⟩)]] w fun e w' => e = .returned (.tuple #[]) ∧ (∃ v, Out w' OUT w.heap.size v (res n r (fixF A m) (wantF r A sub m) lim)) ∧ VF OUT w.heap.size w w' := by
  have hn := g.n4
  have hm := g.m4
  obtain ⟨i4, hi4, hz40, hz41, hz42⟩ := info_parts info4
  obtain ⟨i3, hi3, hz30, hz31, hz32⟩ := info_parts info3
  obtain ⟨i24, hi24, hz20, hz21, hz22⟩ := info_parts info24
  have e1 := hs.rad
  go_enter Try.func15, Try.ntmps15
  go_wp2_with (first | (at_make; refine wpList_make_full _ rfl _ _ 30 rfl w.heap.size 4 i4 (.bool false) 1 Try.underlying30 hi4 hz40 hz41 _ _ _ _ n rfl rfl (by omega) (by omega) (by rw [hz42]; omega) (by unfold maxLen; omega) (Nat.le_refl _) ?_))
  intro w1 hown hgrow
  have hF := made_arr hown
  have hB1 := below_none hgrow
  clear hown hgrow
  obtain ⟨F, hFe⟩ : ∃ F, F = w.heap.size := ⟨_, rfl⟩
  rw [← hFe] at hF ⊢
  have HFe := hide hFe
  clear hFe
  have x2 := ix23 k2 c2
  all_goals
    go_wp2
    go_loopw [25] (fun i wr => ∃ k : Nat, k ≤ m ∧ i = .int .i64 k ∧ Arr wr F 4 n (fun a => .bool (fixF A k a)) ∧ Only F w1 wr) (fun i _ => m - (intOf i).toNat)
    case atStart => exact ⟨0, Nat.zero_le _, rfl, hF, Only.refl _ _⟩
    case round =>
      obtain ⟨k, hk, rfl, hfx, hO⟩ := hrel
      by_cases hlt : k < m
      · skip
        all_goals
          have hA := g.an k hlt
          have f0 := World.block_lt_of_cell? _ _ (ha k hlt)
          have e0 : wr.cell? ⟨b2, k, none⟩ = some (.int .i64 (A k)) := (World.cell?_of_block (hO.block b2 (by have := HFe.out; simp at f0; omega))).trans ((hB1.cell (p := ⟨b2, k, none⟩) f0).trans (ha k hlt))
          have e2 := hfx.cell hA
          have e3 := hfx.free (A k)
          have hfx' := hfx.setCell (A k) (.bool true)
          have hO' : Only F w1 (wr.setCell ⟨F, A k, none⟩ (.bool true)) := hO.setCell _ _
          have HR : Hid (Arr (wr.setCell ⟨F, A k, none⟩ (.bool true)) F 4 n (fun a => .bool (fixF A (k + 1) a)) ∧ Only F w1 (wr.setCell ⟨F, A k, none⟩ (.bool true))) := by
            refine ⟨hfx'.congr (fun a _ => ?_), hO'⟩
            simp only [fixF]
            split <;> rfl
          clear hfx' hO'
          go_wp2
          go_roundw
          case rel => exact ⟨k + 1, by omega, by go_num, HR.out.1, HR.out.2⟩
          case measure => simp [intOf]; omega
      · obtain rfl : m = k := by omega
        obtain ⟨w2, hw2⟩ : ∃ w2, w2 = wr := ⟨_, rfl⟩
        subst hw2
        have hB2 : Below F w w2 := (HFe.out ▸ hB1).trans (hO.below (Nat.le_refl _))
        have hs2 : Sp w2 S _ _ n c0 c1 := ⟨(hB2.cell (by rw [HFe.out]; exact World.block_lt_of_cell? _ _ hs.rad)).trans hs.rad, (hB2.cell (by rw [HFe.out]; exact World.block_lt_of_cell? _ _ hs.str)).trans hs.str⟩
        have e4 := hs2.rad
        have hsz2 := hfx.lt
        clear hF hB1 hO
        go_wp2
        go_loopw [11, 38] (fun v i wr => ∃ k : Nat, k ≤ n ∧ i = .int .i64 k ∧ wr.ownsRow w2.heap.size 3 1 v (fl (fixF A m) k).length (I (fl (fixF A m) k)) ∧ Below w2.heap.size w2 wr) (fun _ i _ => n - (intOf i).toNat)
        case atStart => exact ⟨0, Nat.zero_le _, rfl, World.ownsRow_nil _ _ _ _, Below.refl _ _⟩
        case round =>
          obtain ⟨k, hk, rfl, hown, hB⟩ := hrel
          by_cases hlt : k < n
          · have e5 := (hfx.below hB hsz2).cell hlt
            have hl := fl_len (fixF A m) k
            have hsz := hB.size
            cases hfk : fixF A m k with
            | true =>
              rw [hfk] at e5
              have hown' := hown
              rw [← fl_succ_fix hfk] at hown'
              have HR := hide hown'
              clear hown' hown
              go_wp2
              go_roundw
              case rel => exact ⟨k + 1, by omega, by go_num, HR.out, hB⟩
              case measure => simp [intOf]; omega
            | false =>
              rw [hfk] at e5
              have hownA := hown.alloc (.cells #[.int .i64 (k : Nat)] 3)
              go_wp2_with (first
                | (at_builtin; refine wpList_append_own _ rfl _ _ 23 rfl w2.heap.size 3 i3 (.int .i64 0) 1 8 Try.underlying23 hi3 hz30 hz31 hz32 rfl (by decide) _ _ _ rfl hownA ⟨wr.heap.size, 0, none⟩ 1 1 [.int .i64 (k : Nat)] rfl rfl (cell_one_new _ _ _) ?c2 ?c3 ?c4 ?c5 ?_))
              case c2 => intro u hu; simp at hu; subst hu; rfl
              case c3 => unfold maxLen; omega
              case c4 => omega
              case c5 => simp; omega
              intro v' w3 hown' hgrow _
              have hbel := hB.trans (visit_grow hown hsz hgrow)
              have HR : Hid (w3.ownsRow w2.heap.size 3 1 v' (fl (fixF A m) (k + 1)).length (I (fl (fixF A m) (k + 1)))) := by
                rw [fl_succ_free hfk, I_snoc, List.length_append]; exact hown'
              clear hown' hown hownA hgrow
              go_wp2
              go_roundw
              case rel => exact ⟨k + 1, by omega, by go_num, HR.out, hbel⟩
              case measure => simp [intOf]; omega
          · obtain rfl : n = k := by omega
            obtain ⟨ao, cap, rfl⟩ := owns_shape hown
            have hB3 : Below F w wr := hB2.trans (hB.mono (Nat.le_of_lt hsz2))
            have hrep := replace_any S b0 b1 b2 n m c0 c1 c2 _ _ _ r A wr sub g ⟨(hB.cell (World.block_lt_of_cell? _ _ hs2.rad)).trans hs2.rad, (hB.cell (World.block_lt_of_cell? _ _ hs2.str)).trans hs2.str⟩ k0 k1 k2 hsub
              (fun i hi => (hB3.cell (by rw [HFe.out]; exact World.block_lt_of_cell? _ _ (hr i hi))).trans (hr i hi))
              (fun i hi => (hB3.cell (by rw [HFe.out]; exact World.block_lt_of_cell? _ _ (hst i hi))).trans (hst i hi))
              (fun i hi => (hB3.cell (by rw [HFe.out]; exact World.block_lt_of_cell? _ _ (ha i hi))).trans (ha i hi))
            have HREP := hide hrep
            clear hrep
            go_wp2_with fail
            refine HREP.out.mono ?_
            rintro e w4 ⟨rfl, hD4⟩
            have hl := fl_len (fixF A m) n
            go_wp2_with (first | (at_make; refine wpList_make_full _ rfl _ _ 22 rfl w4.heap.size 24 i24 (.int .u64 0) 1 Try.underlying22 hi24 hz20 hz21 _ _ _ _ (fl (fixF A m) n).length rfl rfl (by omega) (by omega) (by rw [hz22]; omega) (by unfold maxLen; omega) (Nat.le_refl _) ?_))
            intro w5 hown5 hgrow5
            have hD5 := made_arr hown5
            have hB5 := below_none hgrow5
            clear hown5 hgrow5
            obtain ⟨D, hDe⟩ : ∃ D, D = w4.heap.size := ⟨_, rfl⟩
            rw [← hDe] at hD5 hB5 ⊢
            have hB45 : Below F w w5 := (hB3.trans (hD4.below F)).trans (hB5.mono (by rw [hDe, hD4.size]; have := hB.size; omega))
            have hFD : F < D := by rw [hDe, hD4.size]; have := hB.size; omega
            obtain ⟨Gf, hGf, hfree⟩ := free_row hown
            have hfree5 : (Gf < D ∧ F < Gf ∧ Arr w5 Gf 3 (fl (fixF A m) n).length (fun i => .int .i64 (ps (fixF A m) n i : Nat))) ∨ Hid ((fl (fixF A m) n).length = 0) := by
              rcases hfree with ⟨hb, hfree⟩ | hfree
              · have h1 : Gf < D := by rw [hDe, hD4.size]; exact hfree.lt
                exact .inl ⟨h1, by omega, (hfree.dr hD4).below hB5 h1⟩
              · exact .inr hfree
            obtain ⟨BB, hBB⟩ : ∃ BB, BB = w5.heap.size := ⟨_, rfl⟩
            have hOF : OUT < F := by rw [HFe.out]; exact lt_of_blk hO0
            have hLF : LIM < F := by rw [HFe.out]; exact World.block_lt_of_cell? _ _ hL0
            have hSF : S < F := by rw [HFe.out]; exact World.block_lt_of_cell? _ _ hs.rad
            have hst0 := start_hd g sub lim hO0 hOF hB45 hD5 hBB
            have hDB : D < BB := by rw [hBB]; exact hD5.lt
            have hLB := (hB45.cell (p := ⟨LIM, 0, none⟩) hLF).trans hL0
            have hS2 := (hB45.cell (p := ⟨S, 2, none⟩) hSF).trans hs.rad
            have hS3 := (hB45.cell (p := ⟨S, 3, none⟩) hSF).trans hs.str
            have hr5 : ∀ i, i < n → b0 < F ∧ w5.cell? ⟨b0, i, none⟩ = some (.int .u64 (r i)) := fun i hi => by
              have h1 : b0 < F := by rw [HFe.out]; exact World.block_lt_of_cell? _ _ (hr i hi)
              exact ⟨h1, (hB45.cell (p := ⟨b0, i, none⟩) h1).trans (hr i hi)⟩
            have hst5 : ∀ i, i < n → b1 < F ∧ w5.cell? ⟨b1, i, none⟩ = some (.int .u64 (pr r i : Nat)) := fun i hi => by
              have h1 : b1 < F := by rw [HFe.out]; exact World.block_lt_of_cell? _ _ (hst i hi)
              exact ⟨h1, (hB45.cell (p := ⟨b1, i, none⟩) h1).trans (hst i hi)⟩
            have hrad := g.rad
            have hwok := g.wdok sub
            have HDe := hide hDe
            have HBB := hide hBB
            clear hDe hBB hD5 hB5 hfree hown hB3 HREP hD4 hB hl e4 hs2 hfx hB2 hsz2 hr hst ha hs hO0 hL0 e1
            have hfl := fl_len (fixF A m) n
            generalize hfxe : fixF A m = fx at *
            have Hfx := hide hfxe
            clear hfxe
            generalize hwd : wantF r A sub m = wd at *
            have Hwd := hide hwd
            clear hwd
            have hps : ∀ i, i < (fl fx n).length → ps fx n i < n := fun i hi => (ps_mem hi).1
            have hsize := g.p n (Nat.le_refl _)
            have x0 := ix22 k0 c0
            have x1 := ix22 k1 c1
            have xf := ix23 hGf cap
            all_goals
              go_wp2_with fail
              go_loopw [13] (fun s13 wr => ∃ t : Nat, s13 = .int .u64 t ∧ Hd n r fx wd lim OUT D BB w5 wr t) (fun s13 _ => 65536 - (intOf s13).toNat)
              case atStart => exact ⟨_, rfl, hst0⟩
              case round =>
                obtain ⟨t, rfl, hhd⟩ := hrel
                obtain ⟨wo, hwo⟩ : ∃ wo, wo = wr := ⟨_, rfl⟩
                subst hwo
                have ⟨hM, ht, hlen, _, ⟨v, hOv⟩, hVo⟩ := hhd
                have hml := ML_len (n := n) (r := r) (fx := fx) (wd := wd) t
                have hvis := visit_any OUT LIM BB t lim v _ wo hOv (hVo.cell (by omega) hLO (by omega) hLB) hLO (by omega) (by omega) (by rw [HBB.out]; exact hVo.size) (by omega)
                have HVIS := hide hvis
                clear hvis
                by_cases hgo : ((ML n r fx wd t).length : Int) + 1 < lim
                · have hgo' : decide (((ML n r fx wd t).length : Int) + 1 < lim) = true := by simpa using hgo
                  rw [hgo'] at HVIS
                  go_wp2_with fail
                  refine HVIS.out.mono ?_
                  rintro e w6 ⟨rfl, v6, hO6, hV6⟩
                  have hin0 := hi_start hhd hO6 hV6 hDB (by omega)
                  clear hOv hVo hO6 hV6 HVIS hgo'
                  go_wp2_with fail
                  go_loopw [13, 15] (fun s13 s15 wr => ∃ i : Nat, i ≤ (fl fx n).length ∧ s15 = .int .i64 i ∧ s13 = .int .u64 (tz r fx wd t (ps fx n i) : Nat) ∧ Hi n r fx OUT D BB w5 wr t i (ML n r fx wd t ++ [t])) (fun _ s15 _ => (fl fx n).length - (intOf s15).toNat)
                  case atStart => exact ⟨0, Nat.zero_le _, rfl, by rw [tz_first hM], hin0⟩
                  case round =>
                    obtain ⟨i, hi, rfl, rfl, hin⟩ := hrel
                    by_cases hil : i < (fl fx n).length
                    · have ⟨hmax, hA, ⟨v7, hO7⟩, hV7⟩ := hin
                      have hfr5 : Gf < D ∧ F < Gf ∧ Arr w5 Gf 3 (fl fx n).length (fun i => .int .i64 (ps fx n i : Nat)) := by
                        rcases hfree5 with h | h
                        · exact h
                        · have := h.out; omega
                      have hpn := hps i hil
                      have q1 := hV7.cell (by omega) (by omega) (by omega) (hfr5.2.2.cell hil)
                      have q2 : wr.cell? ⟨D, i, none⟩ = some (.int .u64 (dg r t (ps fx n i) : Nat)) := by
                        have h := hA.cell hil
                        rw [if_neg (by omega)] at h
                        exact h
                      have q3 := hA.free i
                      have q4 := hV7.cell (by omega) hSO (by omega) hS2
                      have q5 := hV7.cell (by omega) hSO (by omega) hS3
                      have q6 := hV7.cell (by have := (hr5 _ hpn).1; omega) (h0O (by omega)) (by have := (hr5 _ hpn).1; omega) (hr5 _ hpn).2
                      have q7 := hV7.cell (by have := (hst5 _ hpn).1; omega) (h1O (by omega)) (by have := (hst5 _ hpn).1; omega) (hst5 _ hpn).2
                      have d1 : dg r t (ps fx n i) < r (ps fx n i) := Nat.mod_lt _ (hrad _ hpn)
                      have d2 := g.r2 _ hpn
                      have d3 := g.p (ps fx n i) (by omega)
                      have d4 := tz_next hM hil
                      by_cases hb : dg r t (ps fx n i) + 1 < r (ps fx n i)
                      · have HB := fun wq hd => hi_break (wq := wq) hrad hwok hin hM ht hil hb hgo hd hDB (by omega)
                        have hnx := next_ok hrad hwok hM ht hil hmax hb
                        have hnx1 := hnx.2.1
                        have hnx2 := hnx.2.2.1
                        have hne : ((i : Int) == ((fl fx n).length : Int)) = false := by simp; omega
                        have hbI : (dg r t (ps fx n i) : Int) + 1 < (r (ps fx n i) : Int) := by omega
                        have HH := hide HB
                        clear HB hnx hmax hA hO7 hV7 hin d4
                        go_wp2
                        go_quiet (fail)
                        obtain ⟨wq, hwq⟩ : ∃ wq, wq = wr.drewN nq := ⟨_, rfl⟩
                        have hdq : Dr wr wq := ⟨nq, hwq⟩
                        rw [← hwq]
                        clear hwq
                        replace q2 := hdq.cell q2
                        have p3 : wq.frozen? ⟨D, i, none⟩ = false := by obtain ⟨q, rfl⟩ := hdq; exact q3
                        have p5 : ∀ u, (wq.setCell ⟨D, i, none⟩ u).cell? ⟨S, 3, none⟩ = some (.slice a1 n c1) := fun u => (World.cell?_setCell_other _ _ _ _ (by intro e; injection e with e; omega)).trans (hdq.cell q5)
                        have p7 : ∀ u, (wq.setCell ⟨D, i, none⟩ u).cell? ⟨b1, ps fx n i, none⟩ = some (.int .u64 (pr r (ps fx n i) : Nat)) := fun u => (World.cell?_setCell_other _ _ _ _ (by intro e; injection e with e; have := (hst5 _ hpn).1; omega)).trans (hdq.cell q7)
                        replace HH := hide (HH.out wq hdq)
                        clear q1 q3 q4 q5 q6 q7
                        go_wp2
                        go_roundw
                        case rel => exact ⟨_, by simp, HH.out⟩
                        case measure => simp [intOf]; omega
                      · have hm' : dg r t (ps fx n i) + 1 = r (ps fx n i) := by omega
                        have HB := fun wq hd => hi_next (wq := wq) hin hil hm' hd hDB (by omega)
                        have hbI : ¬ (dg r t (ps fx n i) : Int) + 1 < (r (ps fx n i) : Int) := by omega
                        have HH := hide HB
                        have HM := hide hm'
                        obtain ⟨hb1, hb2⟩ := mul_bd (show dg r t (ps fx n i) ≤ 65536 by omega) d3
                        have hb3 : (dg r t (ps fx n i) : Int) * (pr r (ps fx n i) : Int) ≤ (tz r fx wd t (ps fx n i) : Int) := by
                          have : (dg r t (ps fx n i) : Int) * (pr r (ps fx n i) : Int) = ((dg r t (ps fx n i) * pr r (ps fx n i) : Nat) : Int) := by simp
                          rw [this]; omega
                        have hb4 : tz r fx wd t (ps fx n i) ≤ 65536 := by have := tz_le hM (ps fx n i) (by omega); omega
                        have HT := hide d4
                        clear HB hm' hmax hA hO7 hV7 hin d4
                        go_wp2
                        go_quiet (fail)
                        obtain ⟨wq, hwq⟩ : ∃ wq, wq = wr.drewN nq := ⟨_, rfl⟩
                        have hdq : Dr wr wq := ⟨nq, hwq⟩
                        rw [← hwq]
                        clear hwq
                        have p1 := hdq.cell q1
                        have p2 := hdq.cell q2
                        have p5 := hdq.cell q5
                        have p7 := hdq.cell q7
                        have p3 : wq.frozen? ⟨D, i, none⟩ = false := by obtain ⟨q, rfl⟩ := hdq; exact q3
                        clear q1 q2 q3 q4 q5 q6 q7
                        go_wp2
                        go_quiet (fail)
                        obtain ⟨wy, hwy⟩ : ∃ wy, wy = wq.drewN nq := ⟨_, rfl⟩
                        have hdy : Dr wq wy := ⟨nq, hwy⟩
                        rw [← hwy]
                        clear hwy
                        have r2 := hdy.cell p2
                        have r3 : wy.frozen? ⟨D, i, none⟩ = false := by obtain ⟨q, rfl⟩ := hdy; exact p3
                        replace HH := hide (HH.out wy (hdq.trans hdy))
                        clear p1 p2 p3 p5 p7
                        go_wp2
                        go_roundw
                        case rel => exact ⟨i + 1, by omega, by go_num, by rw [← HT.out]; simp, HH.out⟩
                        case measure => simp [intOf]; omega
                    · have hni : i = (fl fx n).length := by omega
                      have ⟨hmax, hA, ⟨v7, hO7⟩, hV7⟩ := hin
                      have hfin := fin_ok (n := n) (r := r) (fx := fx) (wd := wd) (lim := lim) hO7 (res_end hM (last_ok hrad hwok hM ht (fun j hj => hmax j (by omega))) hlen) hV7 hB45 HFe.out hFD hDB
                      have hne : ((i : Int) == ((fl fx n).length : Int)) = true := by simp; omega
                      have HF := hide hfin
                      clear hfin hmax hA hO7 hV7 hin hni
                      go_wp2
                      refine bodyPost_ret (results_none rfl _ _ _) rfl ?_
                      exact ⟨rfl, by rw [Hfx.out, Hwd.out]; exact HF.out⟩
                · have hgo' : decide (((ML n r fx wd t).length : Int) + 1 < lim) = false := by simpa using hgo
                  rw [hgo'] at HVIS
                  go_wp2_with fail
                  refine HVIS.out.mono ?_
                  rintro e w6 ⟨rfl, v6, hO6, hV6⟩
                  have hfin := fin_ok (n := n) (r := r) (fx := fx) (wd := wd) (lim := lim) hO6 (res_stop hM ht hlen (by omega)) (hVo.trans hV6.vg) hB45 HFe.out hFD hDB
                  have HF := hide hfin
                  clear hfin hOv hVo hO6 hV6 HVIS hgo'
                  go_wp2
                  refine bodyPost_ret (results_none rfl _ _ _) rfl ?_
                  exact ⟨rfl, by rw [Hfx.out, Hwd.out]; exact HF.out⟩

end Go.Proofs.Qxb6614073a
