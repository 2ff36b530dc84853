import Derived.Test.Qxb6612943aS9
namespace Go.Proofs.Qxb6612943a
open Go.RowKit
set_option linter.unusedVariables false
set_option linter.unusedSimpArgs false

/-- Where checkNumbers stops at a value that ends at e, its first number out of bounds at b. -/
def stop (e : Nat) (b : Int) : Nat := if b < 0 then e else b.toNat
def CPost (S g n : Nat) (d : Nat → Int) (e : Nat) (b : Int) (w : World) (en : Ending) (w' : World) : Prop := en = .returned (.bool (decide (b < 0))) ∧ But S w w' ∧ Sc w' S g n d (stop e b)
theorem CPost.of {S g n e : Nat} {d : Nat → Int} {b : Int} {w0 w : World} {en : Ending} {w' : World} (h : CPost S g n d e b w en w') (hb : But S w0 w) : CPost S g n d e b w0 en w' := ⟨h.1, hb.trans h.2.1, h.2.2⟩

/-- THE SCANNER's CONTRACT, by the fuel of the grammar. -/
def CN (f : Nat) : Prop := ∀ (w : World) (S g n : Nat) (d : Nat → Int) (p i e : Nat) (b : Int), Sc w S g n d p → Bt n d → Run ws d n p i → G d n f 0 i e b → Dl d n e →
  Calls Try.prog 16 #[.pointer (some ⟨S, 0, none⟩)] w (CPost S g n d e b w)

/-- Block B holds the scanner's pointer. -/
def Px (w : World) (B S : Nat) : Prop := B ≠ S ∧ w.cell? ⟨B, 0, none⟩ = some (.pointer (some ⟨S, 0, none⟩))
theorem Px.but {w w' : World} {B S : Nat} (h : Px w B S) (hb : But S w w') : Px w' B S := ⟨h.1, hb.cell h.1 h.2⟩

theorem clo28 {f : Nat} (ih : CN f) (w : World) (S g n : Nat) (d : Nat → Int) (p v e1 : Nat) (b1 : Int) (B : Nat) (hS : Sc w S g n d p) (hBt : Bt n d) (hB : Px w B S) (hr : Run ws d n p v) (hG : G d n f 0 v e1 b1) (hD : Dl d n e1) :
    Calls Try.prog 28 #[.pointer (some ⟨B, 0, none⟩)] w (CPost S g n d e1 b1 w) := by
  have HC := Hid.mk (ih w S g n d p v e1 b1 hS hBt hr hG hD)
  have c0 := hB.2
  clear hG hD hr
  go_enter Try.func28, Try.ntmps28
  go_wp2_with fail
  refine HC.out.mono ?_
  rintro e w1 ⟨rfl, h1, h2⟩
  go_wp2
  go_ret
  exact ⟨rfl, h1, h2⟩

theorem clo26 {f : Nat} (ih : CN f) (w : World) (S g n : Nat) (d : Nat → Int) (p v e1 : Nat) (b1 : Int) (B : Nat) (nm : Value) (hS : Sc w S g n d p) (hBt : Bt n d) (hB : Px w B S) (hr : Run ws d n p v) (hG : G d n f 0 v e1 b1) (hD : Dl d n e1) :
    Calls Try.prog 26 #[nm, .pointer (some ⟨B, 0, none⟩)] w (CPost S g n d e1 b1 w) := by
  have HC := Hid.mk (ih w S g n d p v e1 b1 hS hBt hr hG hD)
  have c0 := hB.2
  clear hG hD hr
  go_enter Try.func26, Try.ntmps26
  go_wp2_with fail
  refine HC.out.mono ?_
  rintro e w1 ⟨rfl, h1, h2⟩
  go_wp2
  go_ret
  exact ⟨rfl, h1, h2⟩

/-- Block M holds the member's closure over block B. -/
def Mx (w : World) (M B S : Nat) : Prop := M ≠ S ∧ w.cell? ⟨M, 0, none⟩ = some (.func (.func 26) #[] #[.pointer (some ⟨B, 0, none⟩)])
theorem Mx.but {w w' : World} {M B S : Nat} (h : Mx w M B S) (hb : But S w w') : Mx w' M B S := ⟨h.1, hb.cell h.1 h.2⟩

set_option maxRecDepth 100000 in
set_option maxHeartbeats 2000000 in
theorem clo33 {f : Nat} (ih : CN f) (w : World) (S g n : Nat) (d : Nat → Int) (p j v e1 : Nat) (b1 : Int) (B M B0 : Nat) (hS : Sc w S g n d p) (hBt : Bt n d) (hB : Px w B S) (hM : Mx w M B0 S) (hB0 : Px w B0 S) (hr : Run ws d n p j) (hp : Pre d n 125 j v) (hG : G d n f 0 v e1 b1) (hD : Dl d n e1) :
    Calls Try.prog 33 #[.pointer (some ⟨B, 0, none⟩), .pointer (some ⟨M, 0, none⟩)] w (CPost S g n d e1 b1 w) := by
  rcases hp with ⟨h, _⟩ | ⟨_, hjn, h34, q, e0, cc, hq, hcc, hcn, h58, hv⟩
  · exact absurd h (by omega)
  have hn := hBt.2.2
  have t1 : (d j != 34) = false := by simp [h34]
  have t2 : (d cc != 58) = false := by simp [h58]
  have HQ : Hid (∃ q, Q d n q (j + 1) e0) := ⟨q, hq⟩
  have HR := Hid.mk (And.intro hr (And.intro hcc hv))
  have HG := Hid.mk (And.intro hG hD)
  have c0 := hB.2
  clear h34 h58 hq hcc hv hG hD hr
  go_enter Try.func33, Try.ntmps33
  go_wp2_with fail
  refine (next_at S g n d p j w hS hBt hjn HR.out.1).mono ?_
  rintro e w1 ⟨rfl, hb1, hS1⟩
  have c1 := (hB.but hb1).2
  clear c0
  go_wp2_with fail
  refine (str_any S g n d j e0 w1 hS1 hBt HQ.out).mono ?_
  rintro e w2 ⟨⟨nm, rfl⟩, hb2, hS2⟩
  have hb2' := hb1.trans hb2
  have c2 := (hB.but hb2').2
  clear c1 hb1 hb2
  go_wp2_with fail
  refine (next_at S g n d e0 cc w2 hS2 hBt hcn HR.out.2.1).mono ?_
  rintro e w3 ⟨rfl, hb3, hS3⟩
  have hb3' := hb2'.trans hb3
  have c3 := (hB.but hb3').2
  have s1 := hS3.c1
  have fr := hS3.free 1
  have hS4 : Sc (w3.setCell ⟨S, 1, none⟩ (.int .i64 ((cc : Int) + 1))) S g n d (cc + 1) := hS3.set' (by omega) (by omega)
  have hb4 : But S w (w3.setCell ⟨S, 1, none⟩ (.int .i64 ((cc : Int) + 1))) := hb3'.set 1 _
  have m4 := (hM.but hb4).2
  have HC := Hid.mk (clo26 ih _ S g n d (cc + 1) v e1 b1 B0 nm hS4 hBt (hB0.but hb4) HR.out.2.2 HG.out.1 HG.out.2)
  clear c2 hb3 hb2' hb3' hS4 HG HR HQ
  go_wp2_with fail
  refine HC.out.mono ?_
  rintro e w5 ⟨rfl, h1, h2⟩
  go_wp2
  go_ret
  exact ⟨rfl, hb4.trans h1, h2⟩

end Go.Proofs.Qxb6612943a
