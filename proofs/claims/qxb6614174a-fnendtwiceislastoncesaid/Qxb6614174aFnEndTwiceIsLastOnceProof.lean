/-
  THE PROOF OF 'Rows.FnEndTwiceIsLastOnceSaid': the frame after the kit's skeleton (typed by hand: the tool does not serve a slice of structs), the walk is 'law' (Qxb6614174aL1).
-/
import Derived.Test.Qxb6614174aRows
import Derived.Test.Qxb6614174aL1
import Derived.WalkKit
import Derived.ProofKit
import Derived.OpenShut
import Derived.ShutString
import Derived.ChangeOld
import Derived.Below
import Derived.Deep.Slices
import Derived.Deep.Strs
namespace Go.Proofs.Qxb6614174a.fnEndTwiceIsLastOnce
open Go.ChangeShapes Go.WideShapes Go.ChangeAt Go.RowKit
open Go.ChangeMaps (open_string shut_string)
set_option linter.unusedVariables false
set_option linter.unusedSimpArgs false

theorem own : ownKnob Try.prog.godebug = none := by kernel_rfl
theorem laidOut : laidOutB Try.prog = true := by kernel_rfl
theorem cells26 : Try.prog.cellsOf 26 = 3 := by kernel_rfl
theorem cells9 : Try.prog.cellsOf 9 = 1 := by kernel_rfl
theorem cells4 : Try.prog.cellsOf 4 = 1 := by kernel_rfl
theorem cells2 : Try.prog.cellsOf 2 = 1 := by kernel_rfl

theorem spot_none {w : World} {a : Addr} {v : Value} (h : w.cell? a = some v) : a.spot = none := by
  unfold World.cell? at h
  split at h
  · by_cases e : a.spot.isSome = true
    · rw [if_pos e] at h; cases h
    · simpa using e
  · cases h

theorem index_run {a : Addr} {b off : Nat} (ha : a = ⟨b, off, none⟩) {n c t sz : Nat} (ht : Try.prog.underlying t = some (.slice (Try.prog.elem t))) (hs : ∀ w, (sizeOf (Try.prog.elem t)).run Try.prog w = .ok sz w) :
    ∀ (i : Nat) (w' : World), i < n → (Instr.indexAt t (.slice (some a) n c) (.int .i64 (i : Int))).run Try.prog w' = .ok (.pointer (some ⟨b, off + i * sz, none⟩)) w' := by
  intro i w' hi
  subst ha
  rw [run_indexAt_slice w' t _ _ _ _ _ ht, if_pos (by omega), hs]
  simp [Result.andThen, Addr.add_lit]

/-- WHAT THE WALK IS TOLD OF THE PRIOR STATES. -/
theorem pri_of {H : Type} {enc : TypeId × Value → H} {W : World} {a : Option Addr} {len cap fuel : Nat} {x : DataW H × List MemPlace} (hf : DataW.trod enc Try.prog W 0 (fun _ => true) true fuel 22 [.slice a len cap] = some x) :
    ∃ b pa nm fl ns, Pri W a len cap b pa nm fl ns ∧ len ≤ maxLen ∧ ∀ i, i < len → (nm i).size ≤ maxLen := by
  rcases Go.Deep.open_slice Try.underlying22 hf with ⟨hcs, _⟩ | ⟨ad, l, c, m, fu, D, Pl, hcs, _, hl, hm, hmm, _, hel⟩
  · simp at hcs
    obtain ⟨rfl, rfl, rfl⟩ := hcs
    exact ⟨0, fun _ => 0, fun _ => ByteArray.empty, fun _ => false, fun _ => 0, ⟨fun i w' h => by omega, fun i h => by omega, fun i h => by omega, fun i h => by omega, fun i => by omega, fun i => by omega⟩, Nat.zero_le _, fun i h => by omega⟩
  · simp at hcs
    obtain ⟨rfl, rfl, rfl⟩ := hcs
    have hlm : len ≤ m := by rw [hmm]; simp; exact hl
    by_cases h0 : len = 0
    · subst h0
      exact ⟨0, fun _ => 0, fun _ => ByteArray.empty, fun _ => false, fun _ => 0, ⟨fun i w' h => by omega, fun i h => by omega, fun i h => by omega, fun i h => by omega, fun i => by omega, fun i => by omega⟩, Nat.zero_le _, fun i h => by omega⟩
    · have each : ∀ i, i < len → ∃ p : ByteArray × Bool × Int, W.cell? (ad.add (i * 3)) = some (.string p.1) ∧ W.cell? ((ad.add (i * 3)).add 1) = some (.bool p.2.1) ∧ W.cell? ((ad.add (i * 3)).add 2) = some (.int .i64 p.2.2) ∧ p.1.size ≤ maxLen ∧ (Lit.int .i64 p.2.2).wf = true := by
        intro i hi
        obtain ⟨cs, h1, h2⟩ := hel i (by omega)
        rw [cells26] at h1
        obtain ⟨_, hlen, hc⟩ := World.cells?_some h1
        obtain ⟨y0, y1, y2, n', _, _, t0, t1, t2⟩ := Go.Deep.trod_struct3 Try.underlying26 h2
        simp only [cells9, cells4, cells2] at t0 t1 t2
        obtain ⟨s, e0, _, hs⟩ := DataW.trod_string Try.underlying9 t0
        obtain ⟨f, e1, _⟩ := DataW.trod_bool Try.underlying4 t1
        obtain ⟨k, e2, _, hk⟩ := DataW.trod_int Try.underlying2 t2
        have g0 : cs[0]? = some (.string s) := by
          have := congrArg (fun l => l[0]?) e0
          simpa using this
        have g1 : cs[1]? = some (.bool f) := by
          have := congrArg (fun l => l[0]?) e1
          simpa using this
        have g2 : cs[2]? = some (.int .i64 k) := by
          have := congrArg (fun l => l[0]?) e2
          simpa using this
        refine ⟨(s, f, k), ?_, ?_, ?_, hs, hk⟩
        · have := hc 0 (by omega)
          rw [g0] at this
          simpa [Addr.add] using this
        · exact (hc 1 (by omega)).trans g1
        · exact (hc 2 (by omega)).trans g2
      obtain ⟨q, hq⟩ := Go.Deep.choose_lt each
      have hsp : ad.spot = none := by
        have h := (hq 0 (by omega)).1
        have := spot_none h
        simpa [Addr.add] using this
      obtain ⟨b, off, sp⟩ := ad
      simp at hsp
      subst hsp
      refine ⟨b, fun i => off + i * 3, fun i => (q i).1, fun i => (q i).2.1, fun i => if i < len then (q i).2.2 else 0, ⟨index_run rfl (by kernel_rfl) (fun w => by kernel_rfl), fun i hi => ?_, fun i hi => ?_, fun i hi => ?_, fun i => ?_, fun i => ?_⟩, Nat.le_trans hl hm, fun i hi => (hq i hi).2.2.2.1⟩
      · have := (hq i hi).1
        rwa [Addr.add_lit] at this
      · have := (hq i hi).2.1
        rwa [Addr.add_lit, Addr.add_lit] at this
      · have := (hq i hi).2.2.1
        rw [Addr.add_lit, Addr.add_lit] at this
        simp only [if_pos hi]
        exact this
      · by_cases hi : i < len
        · rw [if_pos hi]; exact (bounds_i64 (hq i hi).2.2.2.2).1
        · rw [if_neg hi]; omega
      · by_cases hi : i < len
        · rw [if_pos hi]; exact (bounds_i64 (hq i hi).2.2.2.2).2
        · rw [if_neg hi]; omega

theorem evs_of {H : Type} {enc : TypeId × Value → H} {W : World} {a : Option Addr} {len cap fuel : Nat} {x : DataW H × List MemPlace} (hf : DataW.trod enc Try.prog W 0 (fun _ => true) true fuel 23 [.slice a len cap] = some x) :
    ∃ b ea ev, Evs W a len cap b ea ev ∧ len ≤ maxLen := by
  rcases open_ints Try.underlying23 Try.underlying2 (by kernel_rfl) hf with ⟨hcs, _⟩ | ⟨ad, l, c, zs, hcs, _, hl, hm, hz, _, hcell, _⟩
  · simp at hcs
    obtain ⟨rfl, rfl, rfl⟩ := hcs
    exact ⟨0, fun _ => 0, fun _ => 0, ⟨fun i w' h => by omega, fun i h => by omega⟩, Nat.zero_le _⟩
  · simp at hcs
    obtain ⟨rfl, rfl, rfl⟩ := hcs
    have hzl : zs.length = cap := by simpa using hz
    by_cases h0 : len = 0
    · subst h0
      exact ⟨0, fun _ => 0, fun _ => 0, ⟨fun i w' h => by omega, fun i h => by omega⟩, Nat.zero_le _⟩
    · have hsp : ad.spot = none := by
        have := spot_none (hcell 0 (by omega))
        simpa [Addr.add] using this
      obtain ⟨b, off, sp⟩ := ad
      simp at hsp
      subst hsp
      refine ⟨b, fun i => off + i * 1, fun i => zs.getD i 0, ⟨index_run rfl (by kernel_rfl) (fun w => by kernel_rfl), fun i hi => ?_⟩, Nat.le_trans hl hm⟩
      have := hcell i (by omega)
      rw [Addr.add_lit] at this
      simpa using this

/-! ### THE ROW's STEP -/
set_option maxRecDepth 100000 in
theorem lifted (os : Os) (started : os.Started) (H : Type) (enc : TypeId × Value → H) :
    ReturnsInHanded {} Try.checked os 3 .any (Rows.fnEndTwiceIsLastOnceSpec.pre6 enc Try.prog Try.f3 Rows.fnEndTwiceIsLastOnceRow.domain false) (Rows.fnEndTwiceIsLastOnceSpec.post enc Try.prog Try.f3 false true false false) := by
  refine returnsInHanded_of_change (C := Try.checked) own started (by kernel_rfl) Try.func3
    (ChangeSpec.witness6 (enc := enc) (C := Try.checked) false ⟨#[], #[.slice none 0 0, .slice none 0 0, .string ⟨#[]⟩, .bool false, .int .i64 0, .bool false, .int .i64 0], []⟩ 8 (by kernel_rfl) (by kernel_rfl) (by kernel_rfl) (by kernel_rfl)) ?_
  intro W base args ds gs before hval0 hW hcnd _
  have hval : ∀ (j : Nat) t v, Try.f3.params[j]? = some t → args[j]? = some v → Value.okWide Try.prog W .any base t v := hval0
  have hW' := hW
  obtain ⟨p, q, hA0, hV, rfl, hfz, hnd⟩ := hW
  have hA : DataW.TrodAll enc Try.prog W 0 (fun _ => true) true Try.f3.params.toList args.toList ds p := hA0
  rw [Try.params3] at hA hval
  obtain ⟨v0, vs0, d0, ds0, p0, q0, hargs, rfl, rfl, h0, r0⟩ := trodAll_cons hA
  obtain ⟨v1, vs1, d1, ds1, p1, q1, rfl, rfl, rfl, h1, r1⟩ := trodAll_cons r0
  obtain ⟨v2, vs2, d2, ds2, p2, q2, rfl, rfl, rfl, h2, r2⟩ := trodAll_cons r1
  obtain ⟨v3, vs3, d3, ds3, p3, q3, rfl, rfl, rfl, h3, r3⟩ := trodAll_cons r2
  obtain ⟨v4, vs4, d4, ds4, p4, q4, rfl, rfl, rfl, h4, r4⟩ := trodAll_cons r3
  obtain ⟨v5, vs5, d5, ds5, p5, q5, rfl, rfl, rfl, h5, r5⟩ := trodAll_cons r4
  obtain ⟨v6, vs6, d6, ds6, p6, q6, rfl, rfl, rfl, h6, r6⟩ := trodAll_cons r5
  obtain ⟨rfl, rfl, rfl⟩ := trodAll_nil r6
  obtain rfl : args = #[v0, v1, v2, v3, v4, v5, v6] := by cases args; simp_all
  obtain ⟨rfl, rfl⟩ := trodVars_none hV
  obtain ⟨a0, len0, cap0, rfl⟩ := okWide_slice Try.underlying22 (hval 0 22 v0 rfl rfl)
  have k0 := h0
  have lt0 : ∀ x ∈ p0, x.block < W.heap.size := by obtain ⟨m, hm⟩ := k0; exact DataW.trod_lt m _ _ _ hm
  obtain ⟨b0, pa, nm, fl, ns, w0, l0, z0⟩ : ∃ b pa nm fl ns, Pri W a0 len0 cap0 b pa nm fl ns ∧ len0 ≤ maxLen ∧ ∀ i, i < len0 → (nm i).size ≤ maxLen := by
    obtain ⟨fuel, hf⟩ := h0
    exact pri_of hf
  obtain ⟨a1, len1, cap1, rfl⟩ := okWide_slice Try.underlying23 (hval 1 23 v1 rfl rfl)
  have k1 := h1
  have lt1 : ∀ x ∈ p1, x.block < W.heap.size := by obtain ⟨m, hm⟩ := k1; exact DataW.trod_lt m _ _ _ hm
  obtain ⟨b1, ea, ev, w1, l1⟩ : ∃ b ea ev, Evs W a1 len1 cap1 b ea ev ∧ len1 ≤ maxLen := by
    obtain ⟨fuel, hf⟩ := h1
    exact evs_of hf
  obtain ⟨s2, rfl, rfl, rfl, w2⟩ := open_string Try.underlying9 (hval 2 9 v2 rfl rfl) h2
  obtain ⟨f3, rfl, rfl, rfl⟩ := open_bool Try.underlying4 (hval 3 4 v3 rfl rfl) h3
  obtain ⟨t4, rfl, rfl, rfl, w4⟩ := open_int Try.underlying2 (hval 4 2 v4 rfl rfl) h4
  obtain ⟨f5, rfl, rfl, rfl⟩ := open_bool Try.underlying4 (hval 5 4 v5 rfl rfl) h5
  obtain ⟨t6, rfl, rfl, rfl, w6⟩ := open_int Try.underlying2 (hval 6 2 v6 rfl rfl) h6
  clear hA0 hval0
  refine (law a0 a1 len0 len1 cap0 cap1 b0 b1 pa ea nm fl ns ev s2 f3 f5 t4 t6 W l0 l1 w2 w0 w1 z0 (bounds_i64 w4).1 (bounds_i64 w4).2 (bounds_i64 w6).1 (bounds_i64 w6).2).mono fun e W' ⟨he, bel⟩ => ?_
  subst he
  exact ⟨_, rfl, _, _, _, [], _, [], hW', trodAll_mk1 (shut_bool Try.underlying4 _), (trodAll_cons_mk (Below.trod laidOut (by kernel_rfl) (of_decide_eq_true (by kernel_rfl)) k0 bel lt0) (trodAll_cons_mk (Below.trod laidOut (by kernel_rfl) (of_decide_eq_true (by kernel_rfl)) k1 bel lt1) (trodAll_cons_mk (shut_string Try.underlying9 w2) (trodAll_cons_mk (shut_bool Try.underlying4 _) (trodAll_cons_mk (shut_int Try.underlying2 w4) (trodAll_cons_mk (shut_bool Try.underlying4 _) (trodAll_cons_mk (shut_int Try.underlying2 w6) trodAll_mk0))))))), rfl, bel.frame _, fun h => by cases h⟩

theorem over : Rows.fnEndTwiceIsLastOnceRow.holds Try.pinned (OpenSpec.ofChange Rows.fnEndTwiceIsLastOnceSpec) :=
  OpenClaim.holds_of_wide 3 Try.f3 rfl rfl rfl rfl rfl rfl rfl ⟨rfl, rfl, rfl, rfl, rfl⟩ rfl rfl rfl rfl rfl (by kernel_rfl) Try.func3 (by kernel_rfl)
    (of_decide_eq_true (by kernel_rfl)) (by unfold Func.isWrapper; first | (rw [if_pos (by decide +kernel)]; kernel_rfl) | (rw [if_neg (by decide +kernel)]; exact ⟨rfl, rfl⟩))
    (fun os started H enc _ => lifted os started H enc)

/-- THE STATEMENT -/
theorem proved : Rows.FnEndTwiceIsLastOnceSaid := over
#print axioms proved
end Go.Proofs.Qxb6614174a.fnEndTwiceIsLastOnce
