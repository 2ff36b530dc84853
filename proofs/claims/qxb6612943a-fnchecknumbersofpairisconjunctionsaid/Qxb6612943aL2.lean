import Derived.Test.Qxb6612943aP4
import Derived.Deep.CutRange
import Derived.Deep.DeepAppendRoom
import Derived.Maps.AppendAt
namespace Go.Proofs.Qxb6612943a
open Go.RowKit
set_option linter.unusedVariables false
set_option linter.unusedSimpArgs false

/-- What is told of a copied text: its slice, and where its bytes lie. -/
structure Own (w : World) (v : Value) (n g : Nat) (d : Nat → Int) : Prop where
  v : v = .slice (some ⟨g, 0, none⟩) n n
  cl : ∀ i, i < n → w.cell? ⟨g, i, none⟩ = some (.int .u8 (d i))

theorem text0 (a : Option Addr) (n c g : Nat) (d : Nat → Int) (w : World) (hT : Tx w a n c g d) : Calls Try.prog 7 #[.slice a n c, .int .i64 0] w (TPost n 0 d w) := text_any a n c g d 0 w hT (Nat.zero_le _)
theorem new0 (g n : Nat) (d : Nat → Int) (w : World) (hc : ∀ i, i < n → w.cell? ⟨g, i, none⟩ = some (.int .u8 (d i))) (hn : 0 < n) : Calls Try.prog 8 #[.slice (some ⟨g, 0, none⟩) n n, .int .i64 0] w (NwPost g n d 0 w) := new_any g n d 0 w hc hn (Nat.zero_le _)

theorem cells_kept {w w' : World} {g n : Nat} {d : Nat → Int} (hc : ∀ i, i < n → w.cell? ⟨g, i, none⟩ = some (.int .u8 (d i))) (hb : Below w.heap.size w w') : ∀ i, i < n → w'.cell? ⟨g, i, none⟩ = some (.int .u8 (d i)) := fun i hi => (hb.cell (World.block_lt_of_cell? _ _ (hc i hi))).trans (hc i hi)
theorem cells_but {S : Nat} {w w' : World} {g n : Nat} {d : Nat → Int} (hc : ∀ i, i < n → w.cell? ⟨g, i, none⟩ = some (.int .u8 (d i))) (hb : But S w w') (hg : g ≠ S) : ∀ i, i < n → w'.cell? ⟨g, i, none⟩ = some (.int .u8 (d i)) := fun i hi => hb.cell hg (hc i hi)
theorem cells_grown {w w' : World} {g gp n : Nat} {d : Nat → Int} (hc : ∀ i, i < n → w.cell? ⟨g, i, none⟩ = some (.int .u8 (d i))) (hb : w.grownBy w' (some gp)) (hg : g ≠ gp) : ∀ i, i < n → w'.cell? ⟨g, i, none⟩ = some (.int .u8 (d i)) :=
  fun i hi => hb.cell (hc i hi) (by simpa using hg)
theorem cells_none {w w' : World} {g n : Nat} {d : Nat → Int} (hc : ∀ i, i < n → w.cell? ⟨g, i, none⟩ = some (.int .u8 (d i))) (hb : w.grownBy w' none) : ∀ i, i < n → w'.cell? ⟨g, i, none⟩ = some (.int .u8 (d i)) :=
  fun i hi => hb.cell (hc i hi) (by simp)
theorem cells_alloc {w : World} {g n : Nat} {d : Nat → Int} (hc : ∀ i, i < n → w.cell? ⟨g, i, none⟩ = some (.int .u8 (d i))) (o : Obj) : ∀ i, i < n → (w.alloc o).cell? ⟨g, i, none⟩ = some (.int .u8 (d i)) :=
  cells_kept hc ((Below.refl _ _).alloc (Nat.le_refl _) o)
theorem news {w : World} {g n : Nat} {d : Nat → Int} (hc : ∀ i, i < n → w.cell? ⟨g, i, none⟩ = some (.int .u8 (d i))) : ∀ j u, (Lc d n)[j]? = some u → w.cell? ((⟨g, 0, none⟩ : Addr).add j) = some u := by
  intro j u hj
  have hjn : j < n := by have := (List.getElem?_eq_some_iff.1 hj).1; rwa [Lc_len] at this
  rw [Lc_get d hjn] at hj
  have ha : (⟨g, 0, none⟩ : Addr).add j = ⟨g, j, none⟩ := by simp [Addr.add_lit]
  rw [ha, hc j hjn, hj]
theorem one1 (x : Int) : ∀ u ∈ [Value.int .u8 x], u.oneCell' = true := by intro u hu; simp at hu; subst hu; rfl

set_option maxRecDepth 100000 in
set_option maxHeartbeats 8000000 in
theorem law2 (a0 a1 : Option Addr) (na nb c0 c1 : Nat) (da db : Nat → Int) (w : World) (h0 : Came w a0 na da) (h1 : Came w a1 nb db) (da0 : ∀ i, 0 ≤ da i) (da1 : ∀ i, da i ≤ 255) (db0 : ∀ i, 0 ≤ db i) (db1 : ∀ i, db i ≤ 255) :
    Calls Try.prog 4 #[.slice a0 na c0, .slice a1 nb c1] w fun e w' => e = .returned (.bool true) ∧ Below w.heap.size w w' := by
  have hmx := h0.1
  have hmy := h1.1
  have HB := Hid.mk (bytes12 a0 a1 na c0 nb c1 w hmx hmy)
  unfold maxLen at hmx hmy
  obtain ⟨i5, hi5, hz50, hz51, hz52⟩ := info_parts info5
  have y22 := fun w a n c => run_neq_slice_nil_any (P := Try.prog) w 22 5 a n c 0 0 Try.underlying22
  go_enter Try.func4, Try.ntmps4
  go_wp2_with fail
  refine HB.out.mono ?_
  rintro e w' ⟨b, rfl, hw'⟩
  obtain rfl : w = w' := hw'.symm
  clear HB
  cases b with
  | false =>
    go_wp2
    go_ret
    exact ⟨rfl, Below.refl _ _⟩
  | true =>
  by_cases l0 : 524288 < na
  · go_wp2
    go_ret
    exact ⟨rfl, Below.refl _ _⟩
  by_cases l1 : 524288 < nb
  · go_wp2
    go_ret
    exact ⟨rfl, Below.refl _ _⟩
  go_upto_if 34 with fail
  go_cut [0, 5] from 23 (fun s0 s5 wc => Cp w.heap.size wc s0 na da ∧ Below w.heap.size w wc)
  case first =>
    rcases h0.2 with ⟨rfl, hn⟩ | ⟨x, rfl, hx⟩
    · have Hn := Hid.mk hn
      clear hn h0
      go_wp2_with fail
      go_meet
      case rel => exact ⟨.inr (.inl ⟨_, rfl, Hn.out⟩), Below.refl _ _⟩
    · go_wp2_with (first | (at_make; refine wpList_make_full _ rfl _ _ 22 rfl w.heap.size 5 i5 (.int .u8 0) 1 Try.underlying22 hi5 hz50 hz51 _ _ _ _ na rfl rfl (by omega) (by omega) (by rw [hz52]; omega) (by unfold maxLen; omega) (Nat.le_refl _) ?_))
      intro w1 hown hgrow
      have hA := made_arr hown
      have hB1 := below_none hgrow
      obtain ⟨w2, hcp, hA2, hO2⟩ := copy_run (cap := c0) (T := 22) Try.underlying22 (by kernel_rfl) hA (x := x) (k := .u8) (z := da) (fun i hi => (hB1.cell (World.block_lt_of_cell? _ _ (hx i hi))).trans (hx i hi))
      clear hown hgrow
      go_wp2_with fail
      go_meet
      case rel => exact ⟨.inr (.inr ⟨_, rfl, Nat.le_refl _, hA2⟩), hO2.grown hB1 (Nat.le_refl _)⟩
  case rest =>
  obtain ⟨hCa, hBa⟩ := hcut
  obtain ⟨aa, ca, ga, rfl, hTa, hAa⟩ := hCa.tx da0 da1 (by omega)
  clear hCa h0
  obtain ⟨wa, hwa⟩ : ∃ wa, wa = wc := ⟨_, rfl⟩
  subst hwa
  go_upto_if 43 with fail
  go_cut [1, 6] from 23 (fun s1 s6 wc => Cp w.heap.size wc s1 nb db ∧ Below wa.heap.size wa wc)
  case first =>
    rcases h1.2 with ⟨rfl, hn⟩ | ⟨x, rfl, hx⟩
    · have Hn := Hid.mk hn
      clear hn h1
      go_wp2_with fail
      go_meet
      case rel => exact ⟨.inr (.inl ⟨_, rfl, Hn.out⟩), Below.refl _ _⟩
    · go_wp2_with (first | (at_make; refine wpList_make_full _ rfl _ _ 22 rfl wa.heap.size 5 i5 (.int .u8 0) 1 Try.underlying22 hi5 hz50 hz51 _ _ _ _ nb rfl rfl (by omega) (by omega) (by rw [hz52]; omega) (by unfold maxLen; omega) (Nat.le_refl _) ?_))
      intro w1 hown hgrow
      have hA := made_arr hown
      have hB1 := below_none hgrow
      obtain ⟨w2, hcp, hA2, hO2⟩ := copy_run (cap := c1) (T := 22) Try.underlying22 (by kernel_rfl) hA (x := x) (k := .u8) (z := db) (fun i hi => ((hBa.trans (hB1.mono hBa.size)).cell (World.block_lt_of_cell? _ _ (hx i hi))).trans (hx i hi))
      clear hown hgrow
      go_wp2_with fail
      go_meet
      case rel => exact ⟨.inr (.inr ⟨_, rfl, hBa.size, hA2⟩), hO2.grown hB1 (Nat.le_refl _)⟩
  case rest =>
  obtain ⟨hCb, hBb⟩ := hcut
  obtain ⟨ab, cb, gb, rfl, hTb, hAb⟩ := hCb.tx db0 db1 (by omega)
  clear hCb h1
  obtain ⟨wb, hwb⟩ : ∃ wb, wb = wc := ⟨_, rfl⟩
  subst hwb
  have hTa' := hTa.kept hBb
  have hB0 : Below w.heap.size w wb := hBa.trans (hBb.mono hBa.size)
  clear hTa hBa y22
  go_wp2_with fail
  refine (text0 aa na ca ga da wb hTa').mono ?_
  rintro e w1 ⟨hD1, ea, ok, ba, rfl, hok⟩
  have hB1 : Below w.heap.size w w1 := hB0.trans (hD1.below _)
  have HO := Hid.mk hok
  clear hok
  cases ok with
  | false =>
    go_wp2
    go_ret
    exact ⟨rfl, hB1⟩
  | true =>
  obtain ⟨ia, fa, ra, gA, ra'⟩ := HO.out rfl
  have hia := gA.lt
  obtain ⟨h1, h2, hga, hArA⟩ := hAa (by omega)
  obtain rfl := h1
  obtain rfl : na = ca := h2.symm
  have HA := Hid.mk (And.intro ra (And.intro gA (And.intro ra' gA.bnd)))
  have hTb1 := hTb.dr hD1
  have hTa1 := hTa'.dr hD1
  clear ra gA ra' h2 HO hAa hArA hTb hTa'
  go_wp2_with fail
  refine (text0 ab nb cb gb db w1 hTb1).mono ?_
  rintro e w2 ⟨hD2, eb, ok, bb, rfl, hok⟩
  have hB2 : Below w.heap.size w w2 := hB1.trans (hD2.below _)
  have HO := Hid.mk hok
  clear hok
  cases ok with
  | false =>
    go_wp2
    go_ret
    exact ⟨rfl, hB2⟩
  | true =>
  obtain ⟨ib, fb, rb, gB, rb'⟩ := HO.out rfl
  have hib := gB.lt
  obtain ⟨h1, h2, hgb, hArB⟩ := hAb (by omega)
  obtain rfl := h1
  obtain rfl : nb = cb := h2.symm
  have HBb := Hid.mk (And.intro rb (And.intro gB (And.intro rb' gB.bnd)))
  have cA := (hTa1.dr hD2).cl
  have cB := (hTb1.dr hD2).cl
  have lga : ga < w2.heap.size := World.block_lt_of_cell? _ _ (cA 0 (by omega))
  have lgb : gb < w2.heap.size := World.block_lt_of_cell? _ _ (cB 0 (by omega))
  clear rb gB rb' h2 HO hAb hArB hTb1 hTa1 hB0 hB1 hD1 hD2
  go_wp2_with (first | (at_make; refine wpList_make_own _ rfl _ _ 22 rfl w2.heap.size 5 i5 (.int .u8 0) 1 Try.underlying22 hi5 hz50 hz51 _ _ _ (na + nb + 3) rfl rfl (by omega) (by rw [hz52]; omega) (by unfold maxLen; omega) (Nat.le_refl _) ?_))
  intro w3 hown3 hgr3
  obtain ⟨gp, hgp⟩ : ∃ gp, gp = w2.heap.size := ⟨_, rfl⟩
  rw [← hgp] at hown3 lga lgb ⊢
  have cA3 := cells_none cA hgr3
  have cB3 := cells_none cB hgr3
  have hB3 : Below w.heap.size w w3 := hB2.grown hgr3 hB2.size (fun k hk => by cases hk)
  have hwg : w.heap.size ≤ gp := by rw [hgp]; exact hB2.size
  have HGP := Hid.mk hgp
  clear cA cB hgr3 hgp hB2
  go_wp2_with (first | (at_builtin; refine wpList_append_own_spare _ rfl _ _ 22 rfl gp 5 i5 1 Try.underlying22 hi5 hz51 gp _ _ _ rfl (hown3.alloc _) ⟨w3.heap.size, 0, none⟩ 1 1 [.int .u8 91] rfl rfl (cell_one_new _ _ _) (one1 91) (by omega) ?_))
  intro w4 hown4 hgr4
  have cA4 := cells_grown (cells_alloc cA3 _) hgr4 (by omega)
  have cB4 := cells_grown (cells_alloc cB3 _) hgr4 (by omega)
  have hB4 : Below w.heap.size w w4 := (hB3.alloc hB3.size _).grown hgr4 (hB3.alloc hB3.size _).size (fun k hk => by cases hk; exact hwg)
  clear cA3 cB3 hgr4 hown3 hB3
  go_wp2_with (first | (at_builtin; refine wpList_append_own_spare _ rfl _ _ 22 rfl gp 5 i5 1 Try.underlying22 hi5 hz51 gp _ _ _ rfl hown4 ⟨ga, 0, none⟩ na na (Lc da na) rfl (by rw [Lc_len]; omega) (news cA4) (Lc_one da na) (by omega) ?_))
  intro w5 hown5 hgr5
  have cA5 := cells_grown cA4 hgr5 (by omega)
  have cB5 := cells_grown cB4 hgr5 (by omega)
  have hB5 : Below w.heap.size w w5 := hB4.grown hgr5 hB4.size (fun k hk => by cases hk; exact hwg)
  clear cA4 cB4 hgr5 hown4 hB4
  go_wp2_with (first | (at_builtin; refine wpList_append_own_spare _ rfl _ _ 22 rfl gp 5 i5 1 Try.underlying22 hi5 hz51 gp _ _ _ rfl (hown5.alloc _) ⟨w5.heap.size, 0, none⟩ 1 1 [.int .u8 44] rfl rfl (cell_one_new _ _ _) (one1 44) (by omega) ?_))
  intro w6 hown6 hgr6
  have cA6 := cells_grown (cells_alloc cA5 _) hgr6 (by omega)
  have cB6 := cells_grown (cells_alloc cB5 _) hgr6 (by omega)
  have hB6 : Below w.heap.size w w6 := (hB5.alloc hB5.size _).grown hgr6 (hB5.alloc hB5.size _).size (fun k hk => by cases hk; exact hwg)
  clear cA5 cB5 hgr6 hown5 hB5
  go_wp2_with (first | (at_builtin; refine wpList_append_own_spare _ rfl _ _ 22 rfl gp 5 i5 1 Try.underlying22 hi5 hz51 gp _ _ _ rfl hown6 ⟨gb, 0, none⟩ nb nb (Lc db nb) rfl (by rw [Lc_len]; omega) (news cB6) (Lc_one db nb) (by omega) ?_))
  intro w7 hown7 hgr7
  have cA7 := cells_grown cA6 hgr7 (by omega)
  have cB7 := cells_grown cB6 hgr7 (by omega)
  have hB7 : Below w.heap.size w w7 := hB6.grown hgr7 hB6.size (fun k hk => by cases hk; exact hwg)
  clear cA6 cB6 hgr7 hown6 hB6
  go_wp2_with (first | (at_builtin; refine wpList_append_own_spare _ rfl _ _ 22 rfl gp 5 i5 1 Try.underlying22 hi5 hz51 gp _ _ _ rfl (hown7.alloc _) ⟨w7.heap.size, 0, none⟩ 1 1 [.int .u8 93] rfl rfl (cell_one_new _ _ _) (one1 93) (by omega) ?_))
  intro w8 hown8 hgr8
  have cA8 := cells_grown (cells_alloc cA7 _) hgr8 (by omega)
  have cB8 := cells_grown (cells_alloc cB7 _) hgr8 (by omega)
  have hB8 : Below w.heap.size w w8 := (hB7.alloc hB7.size _).grown hgr8 (hB7.alloc hB7.size _).size (fun k hk => by cases hk; exact hwg)
  clear cA7 cB7 hgr8 hown7 hB7
  go_wp2_with fail
  rw [show 1 + na + 1 + nb + 1 = na + nb + 3 by omega]
  have cP8 : ∀ i, i < na + nb + 3 → w8.cell? ⟨gp, i, none⟩ = some (.int .u8 (pr da db na nb i)) := by
    intro i hi
    have hA := Arr.of_owns (f := fun i => .int .u8 (pr da db na nb i)) hown8 (fun i hi => by have := pr_list da db na nb (i := i) (by omega); simpa using this)
    exact hA.cell (by omega)
  have lgp8 : gp < w8.heap.size := World.block_lt_of_cell? _ _ (cP8 0 (by omega))
  clear hown8
  refine (new0 ga na da w8 cA8 (by omega)).mono ?_
  rintro e w9 ⟨Sa, rfl, hSa, hb9, hS9⟩
  have cB9 := cells_kept cB8 hb9
  have cP9 := cells_kept cP8 hb9
  have hB9 : Below w.heap.size w w9 := hB8.trans (hb9.mono hB8.size)
  have hs8 := hB8.size
  clear cA8 cB8 cP8 hb9 hB8
  go_wp2_with fail
  refine (check9 w9 Sa ga na da 0 ia ea fa ba hS9 ⟨da0, da1, by omega⟩ HA.out.1 HA.out.2.1 (Dl.of_run HA.out.2.2.1 (fun h => absurd h (by omega)))).mono ?_
  rintro e w10 ⟨rfl, hb10, hS10⟩
  have cB10 := cells_but cB9 hb10 (by omega)
  have cP10 := cells_but cP9 hb10 (by omega)
  have hB10 : Below w.heap.size w w10 := hB9.trans (hb10.below (by omega) hB9.size)
  obtain ⟨pa, hpa⟩ : ∃ pa, pa = stop ea ba := ⟨_, rfl⟩
  rw [← hpa] at hS10
  have HPA := Hid.mk hpa
  have lpa := hS10.le
  clear cB9 cP9 hb10 hB9 hS9 hpa
  go_wp2_with fail
  refine (pos10 w10 Sa ga na da _ hS10).mono ?_
  rintro e w' ⟨rfl, hw⟩
  obtain rfl : w10 = w' := hw.symm
  go_wp2_with fail
  refine (new0 gb nb db w10 cB10 (by omega)).mono ?_
  rintro e w11 ⟨Sb, rfl, hSb, hb11, hS11⟩
  have lgp10 : gp < w10.heap.size := World.block_lt_of_cell? _ _ (cP10 0 (by omega))
  have cP11 := cells_kept cP10 hb11
  have hB11 : Below w.heap.size w w11 := hB10.trans (hb11.mono hB10.size)
  have hs10 := hB10.size
  clear cB10 cP10 hb11 hB10 hS10
  go_wp2_with fail
  refine (check9 w11 Sb gb nb db 0 ib eb fb bb hS11 ⟨db0, db1, by omega⟩ HBb.out.1 HBb.out.2.1 (Dl.of_run HBb.out.2.2.1 (fun h => absurd h (by omega)))).mono ?_
  rintro e w12 ⟨rfl, hb12, hS12⟩
  have cP12 := cells_but cP11 hb12 (by omega)
  have hB12 : Below w.heap.size w w12 := hB11.trans (hb12.below (by omega) hB11.size)
  obtain ⟨pb, hpb⟩ : ∃ pb, pb = stop eb bb := ⟨_, rfl⟩
  rw [← hpb] at hS12
  have HPB := Hid.mk hpb
  have lpb := hS12.le
  clear cP11 hb12 hB11 hS11 hpb
  go_wp2_with fail
  refine (pos10 w12 Sb gb nb db _ hS12).mono ?_
  rintro e w' ⟨rfl, hw⟩
  obtain rfl : w12 = w' := hw.symm
  have hgr := G.pair (pr_inA da db na nb) (pr_inB da db na nb) (pr_0 da db na nb) (pr_c da db na nb) (pr_e da db na nb) HA.out.1 HA.out.2.1 HA.out.2.2.1 HBb.out.1 HBb.out.2.1 HBb.out.2.2.1 hia hib
  have HG : Hid (G (pr da db na nb) (na + nb + 3) (fa + fb + 3) 0 0 (na + nb + 3) (bp na ba bb)) := hgr
  clear hgr
  go_wp2_with fail
  refine (new0 gp (na + nb + 3) (pr da db na nb) w12 cP12 (by omega)).mono ?_
  rintro e w13 ⟨Sp, rfl, hSp, hb13, hS13⟩
  have hB13 : Below w.heap.size w w13 := hB12.trans (hb13.mono hB12.size)
  have hs12 := hB12.size
  clear cP12 hb13 hB12 hS12
  go_wp2_with fail
  refine (check9 w13 Sp gp (na + nb + 3) (pr da db na nb) 0 0 (na + nb + 3) (fa + fb + 3) (bp na ba bb) hS13 ⟨pr_lo da0 db0, pr_hi da1 db1, by omega⟩ (Run.here (by omega) (fun _ => by rw [pr_0]; unfold ws; omega)) HG.out ⟨Nat.le_refl _, fun h => absurd h (by omega)⟩).mono ?_
  rintro e w14 ⟨rfl, hb14, hS14⟩
  have hB14 : Below w.heap.size w w14 := hB13.trans (hb14.below (by omega) hB13.size)
  obtain ⟨pp, hpp⟩ : ∃ pp, pp = stop (na + nb + 3) (bp na ba bb) := ⟨_, rfl⟩
  rw [← hpp] at hS14
  have HPP := Hid.mk hpp
  have lpp := hS14.le
  clear hb14 hB13 hS13 hpp HG
  go_wp2_with fail
  refine (pos10 w14 Sp gp (na + nb + 3) (pr da db na nb) _ hS14).mono ?_
  rintro e w' ⟨rfl, hw⟩
  obtain rfl : w14 = w' := hw.symm
  go_wp2_with fail
  refine (sameStop_any _ _ _ _ _).mono ?_
  rintro e w' ⟨rfl, hw⟩
  obtain rfl : w14 = w' := hw.symm
  have z1 := same_ok (e := ea) (b := ba) (by have := HA.out.2.2.2; omega)
  rw [← HPA.out] at z1
  rw [z1]
  clear z1
  go_wp2_with fail
  refine (sameStop_any _ _ _ _ _).mono ?_
  rintro e w' ⟨rfl, hw⟩
  obtain rfl : w14 = w' := hw.symm
  have z1 := same_ok (e := eb) (b := bb) (by have := HBb.out.2.2.2; omega)
  rw [← HPB.out] at z1
  rw [z1]
  clear z1
  have HBA := HA.out.2.2.2
  have HBB := HBb.out.2.2.2
  clear hS14
  by_cases k1 : ba < 0
  · have q1 : decide (ba < 0) = true := by simp [k1]
    by_cases k2 : bb < 0
    · have q2 : decide (bb < 0) = true := by simp [k2]
      have q3 : decide (bp na ba bb < 0) = true := by rw [bp_n k1 k2]; exact q2
      have q4 : pp = na + nb + 3 := by rw [HPP.out, bp_n k1 k2, stop_neg k2]
      rw [q1, q2, q3, q4]
      clear HPP HPA HPB HA HBb q1 q2 q3 q4 k1 k2 HBA HBB
      go_wp2
      go_ret
      exact ⟨by first | rfl | simp, hB14⟩
    · have q2 : decide (bb < 0) = false := by simp; omega
      have q3 : decide (bp na ba bb < 0) = false := by rw [bp_b k1 k2]; simp; omega
      have q4 : pp = na + 2 + pb := by rw [HPP.out, HPB.out, bp_b k1 k2]; unfold stop; rw [if_neg (by omega), if_neg k2]; omega
      rw [q1, q2, q3, q4]
      clear HPP HPA HPB HA HBb q1 q2 q3 k1 k2 HBA HBB
      go_wp2
      go_ret
      exact ⟨by first | rfl | simp, hB14⟩
  · have q1 : decide (ba < 0) = false := by simp; omega
    have q3 : decide (bp na ba bb < 0) = false := by rw [bp_a k1]; simp; omega
    have q4 : pp = 1 + pa := by rw [HPP.out, HPA.out, bp_a k1]; unfold stop; rw [if_neg (by omega), if_neg k1]; omega
    rw [q1, q3, q4]
    clear HPP HPA HPB HA HBb q1 q3 k1 HBA HBB
    go_wp2
    go_ret
    exact ⟨by first | rfl | simp, hB14⟩

end Go.Proofs.Qxb6612943a
