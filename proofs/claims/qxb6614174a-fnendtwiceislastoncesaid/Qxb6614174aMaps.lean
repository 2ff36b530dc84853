import Derived.Test.Qxb6614174aArr
import Derived.MapKept
import Derived.ChangeMaps5
/-!
A MAP KEYED BY STRINGS AS A LIST OF PAIRS: what a look-up finds, what a store leaves. Whatever the elements.
-/
namespace Go.Proofs.Qxb6614174a
open Go.RowKit
set_option linter.unusedVariables false
set_option linter.unusedSimpArgs false

section
variable {α : Type}

def look : List (ByteArray × α) → ByteArray → Option α
  | [], _ => none
  | (k, v) :: r, s => if s = k then some v else look r s

def upd : List (ByteArray × α) → ByteArray → α → List (ByteArray × α)
  | [], s, x => [(s, x)]
  | (k, v) :: r, s, x => if s = k then (s, x) :: r else (k, v) :: upd r s x

theorem look_upd_same (s : ByteArray) (x : α) : ∀ L : List (ByteArray × α), look (upd L s x) s = some x
  | [] => by simp [upd, look]
  | (k, v) :: r => by
    unfold upd
    by_cases h : s = k
    · rw [if_pos h]; simp [look]
    · rw [if_neg h]; simp only [look]; rw [if_neg h]; exact look_upd_same s x r

theorem look_upd_other {s p : ByteArray} (hp : p ≠ s) (x : α) : ∀ L : List (ByteArray × α), look (upd L s x) p = look L p
  | [] => by simp [upd, look, hp]
  | (k, v) :: r => by
    unfold upd
    by_cases h : s = k
    · subst h
      rw [if_pos rfl]
      simp [look, hp]
    · rw [if_neg h]; simp only [look]; rw [look_upd_other hp x r]

theorem len_upd (s : ByteArray) (x : α) : ∀ L : List (ByteArray × α), (upd L s x).length = if (look L s).isSome then L.length else L.length + 1
  | [] => by simp [upd, look]
  | (k, v) :: r => by
    unfold upd look
    by_cases h : s = k
    · rw [if_pos h, if_pos h]; simp
    · rw [if_neg h, if_neg h, List.length_cons, len_upd s x r]
      split <;> simp_all
end

/-- Block r of the world is a map that holds the pairs L, in this order, each through f. -/
def Mp {α : Type} (f : α → Value) (w : World) (r : Nat) (L : List (ByteArray × α)) : Prop :=
  ∃ es clock, w.heap[r]? = some (.map es clock) ∧ es.toList.map (fun e => (e.key, e.val)) = L.map (fun p => (Value.string p.1, f p.2))

theorem Mp.of_block {α : Type} {f : α → Value} {w w' : World} {r : Nat} {L : List (ByteArray × α)} (h : Mp f w r L) (hb : w'.heap[r]? = w.heap[r]?) : Mp f w' r L := by
  obtain ⟨es, c, h1, h2⟩ := h
  exact ⟨es, c, hb.trans h1, h2⟩
theorem Mp.lt {α : Type} {f : α → Value} {w : World} {r : Nat} {L : List (ByteArray × α)} (h : Mp f w r L) : r < w.heap.size := by
  obtain ⟨es, c, h1, h2⟩ := h
  exact (Array.getElem?_eq_some_iff.1 h1).1
theorem Mp.below {α : Type} {f : α → Value} {w w' : World} {r B : Nat} {L : List (ByteArray × α)} (h : Mp f w r L) (hb : Below B w w') (hr : r < B) : Mp f w' r L := h.of_block (hb.block r hr)
theorem Mp.kept {α : Type} {f : α → Value} {w w' : World} {r : Nat} {L : List (ByteArray × α)} (h : Mp f w r L) (hb : Below w.heap.size w w') : Mp f w' r L := h.of_block (hb.block r h.lt)

section
variable {α : Type} (f : α → Value)

theorem findNow_assoc (s : ByteArray) : ∀ (es : List MapEntry) (L : List (ByteArray × α)) (i : Nat), es.map (fun e => (e.key, e.val)) = L.map (fun p => (Value.string p.1, f p.2)) →
    (look L s = none ∧ Instr.findNow .string (.string s) es i = some none ∧ ∀ b, es.map (fun e => (e.key, e.val)) ++ [(Value.string s, f b)] = (upd L s b).map (fun p => (Value.string p.1, f p.2))) ∨
    (∃ v j, look L s = some v ∧ Instr.findNow .string (.string s) es i = some (some (i + j, f v)) ∧ ((es[j]?).map (·.key)) = some (.string s) ∧ j < es.length ∧
      ∀ b, (es.modify j (fun e => { e with key := .string s, val := f b })).map (fun e => (e.key, e.val)) = (upd L s b).map (fun p => (Value.string p.1, f p.2)))
  | [], L, i, h => by
    have : L = [] := by cases L <;> simp_all
    subst this
    exact .inl ⟨rfl, rfl, fun b => by simp [upd]⟩
  | e :: es, L, i, h => by
    cases L with
    | nil => simp at h
    | cons p L =>
      obtain ⟨k, v⟩ := p
      simp only [List.map_cons, List.cons.injEq, Prod.mk.injEq] at h
      obtain ⟨⟨hk, hv⟩, hr⟩ := h
      by_cases hsk : s = k
      · have hs : (s == k) = true := (MapKept.bytes_beq s k).2 hsk
        refine .inr ⟨v, 0, by simp [look, hsk], ?_, ?_, by simp, fun b => ?_⟩
        · simp only [Instr.findNow, hk, Instr.sameNow, hs, hv, Nat.add_zero]
        · simp [hk, hsk]
        · simp only [upd]; rw [if_pos hsk]; simp [List.modify, hr]
      · have hs' : (s == k) = false := by rw [Bool.eq_false_iff]; exact fun h => hsk ((MapKept.bytes_beq s k).1 h)
        rcases findNow_assoc s es L (i + 1) hr with ⟨h1, h2, h3⟩ | ⟨v', j, h1, h2, h3, h4, h5⟩
        · refine .inl ⟨by simp only [look]; rw [if_neg hsk]; exact h1, ?_, fun b => ?_⟩
          · simp only [Instr.findNow, hk, Instr.sameNow, hs']; exact h2
          · simp only [upd]; rw [if_neg hsk]; simp [hk, hv, ← h3 b]
        · refine .inr ⟨v', j + 1, by simp only [look]; rw [if_neg hsk]; exact h1, ?_, by simpa using h3, by simp; omega, fun b => ?_⟩
          · simp only [Instr.findNow, hk, Instr.sameNow, hs']; rw [h2, show i + 1 + j = i + (j + 1) by omega]
          · simp only [upd]; rw [if_neg hsk]; simp [hk, hv, ← h5 b]
end

section
variable {α : Type} {f : α → Value} {P : Program} {t k e : TypeId} {w : World} {r : Nat} {L : List (ByteArray × α)}

theorem Mp.run_look (h : Mp f w r L) (ht : P.underlying t = some (.map k e)) (hk : P.underlying k = some .string) {z : Value} (hz : (zeroValue e).run P w = .ok z w) (s : ByteArray) (c : Bool) :
    (Instr.lookup t (.map (some r)) (.string s) c).run P w = .ok (match look L s with | some v => (if c then .tuple #[f v, .bool true] else f v) | none => (if c then .tuple #[z, .bool false] else z)) w := by
  obtain ⟨es, clock, hb, hes⟩ := h
  have hkey : MapKept.IsKey .string (.string s) := trivial
  rcases findNow_assoc f s es.toList L 0 hes with ⟨h1, h2, _⟩ | ⟨v, j, h1, h2, _⟩
  · rw [h1]
    simp [Instr.lookup, run_underlying ht, MapKept.run_getObj_map hb, MapKept.run_checkKey hk hkey, Instr.findKey, run_underlying hk, h2, hz, Result.andThen]
  · rw [h1]
    simp [Instr.lookup, run_underlying ht, MapKept.run_getObj_map hb, MapKept.run_checkKey hk hkey, Instr.findKey, run_underlying hk, h2, Result.andThen]

theorem Mp.run_upd (h : Mp f w r L) (ht : P.underlying t = some (.map k e)) (hk : P.underlying k = some .string) (s : ByteArray) (x : α) :
    ∃ w', (Instr.mapUpdate t (.map (some r)) (.string s) (f x)).run P w = .ok () w' ∧ Mp f w' r (upd L s x) ∧ Only r w w' := by
  obtain ⟨es, clock, hb, hes⟩ := h
  have hkey : MapKept.IsKey .string (.string s) := trivial
  have hlt : r < w.heap.size := (Array.getElem?_eq_some_iff.1 hb).1
  have hO : ∀ o, Only r w { w with heap := w.heap.setIfInBounds r o } := fun o => ⟨rfl, rfl, rfl, by simp, fun i hi => by simp [Array.getElem?_setIfInBounds, Ne.symm hi]⟩
  have hS : ∀ o, ({ w with heap := w.heap.setIfInBounds r o } : World).heap[r]? = some o := fun o => by simp [Array.getElem?_setIfInBounds, hlt]
  rcases findNow_assoc f s es.toList L 0 hes with ⟨h1, h2, h3⟩ | ⟨v, j, h1, h2, h3, h4, h5⟩
  · have hr : (Instr.mapUpdate t (.map (some r)) (.string s) (f x)).run P w = .ok () { w with heap := w.heap.setIfInBounds r (.map (es.push { key := .string s, val := f x, born := clock }) (clock + 1)) } := by
      simp [Instr.mapUpdate, run_underlying ht, MapKept.run_getObj_map hb, MapKept.run_checkKey hk hkey, Instr.findKey, run_underlying hk, h2, MapKept.run_setObj_map _ hb, Result.andThen]
    exact ⟨_, hr, ⟨_, _, hS _, by simpa using h3 x⟩, hO _⟩
  · have hold : ((es[j]?).map (·.key)).getD (.string s) = .string s := by
      have e1 : es[j]? = es.toList[j]? := by simp
      rw [e1, h3]; rfl
    have hsb : Instr.sameBits 10000 (.string s) (.string s) = true := by
      show (s == s) = true
      exact (MapKept.bytes_beq s s).2 rfl
    have hr : (Instr.mapUpdate t (.map (some r)) (.string s) (f x)).run P w = .ok () { w with heap := w.heap.setIfInBounds r (.map (es.modify j fun e => { e with key := .string s, val := f x }) clock) } := by
      simp [Instr.mapUpdate, run_underlying ht, MapKept.run_getObj_map hb, MapKept.run_checkKey hk hkey, Instr.findKey, run_underlying hk, h2, hold, Instr.keyThatStays, hsb, MapKept.run_setObj_map _ hb, Result.andThen]
    exact ⟨_, hr, ⟨_, _, hS _, by simpa using h5 x⟩, hO _⟩

theorem Mp.run_len (h : Mp f w r L) (ht : P.underlying t = some (.map k e)) (ty : TypeId) : (Builtin.len_ #[t] ty #[.map (some r)]).run P w = .ok (goInt L.length) w := by
  obtain ⟨es, clock, hb, hes⟩ := h
  have hl : es.size = L.length := by
    have := congrArg List.length hes
    simpa using this
  simp [Builtin.len_, run_underlying ht, MapKept.run_getObj_map hb, hl]
end

end Go.Proofs.Qxb6614174a
