import Derived.Test.Qxb6600445aMod
namespace Go.Proofs.Qxb6600445a
open Go.RowKit
set_option linter.unusedVariables false

/-- a row of n cells of which the first j are written -/
def row (f : Nat → Value) (z : Value) (j n : Nat) : List Value := (List.range n).map fun i => if i < j then f i else z

theorem rwLen (f : Nat → Value) (z : Value) (j n : Nat) : (row f z j n).length = n := by simp [row]
theorem rwAt (f : Nat → Value) (z : Value) (j n i : Nat) (h : i < n) : (row f z j n)[i]? = some (if i < j then f i else z) := by
  simp [row, h]
theorem rwZero (f : Nat → Value) (z : Value) (n : Nat) : row f z 0 n = List.replicate n z := by
  apply List.ext_getElem?
  intro i
  by_cases h : i < n
  · rw [rwAt f z 0 n i h]; simp [h]
  · rw [List.getElem?_eq_none (by rw [rwLen]; omega), List.getElem?_eq_none (by simp; omega)]
theorem rwSet (f g : Nat → Value) (z v : Value) (j n : Nat) (h : j < n) (hg : g j = v) (ho : ∀ i, i < j → g i = f i) : (row f z j n).set j v = row g z (j + 1) n := by
  apply List.ext_getElem?
  intro i
  by_cases hi : i < n
  · rw [rwAt g z (j + 1) n i hi, List.getElem?_set]
    by_cases e : j = i
    · subst e; simp [rwLen, hi, hg]
    · rw [if_neg e, rwAt f z j n i hi]
      by_cases hl : i < j
      · rw [if_pos hl, if_pos (by omega), ho i hl]
      · rw [if_neg hl, if_neg (by omega)]
  · rw [List.getElem?_eq_none (by simp [rwLen]; omega), List.getElem?_eq_none (by rw [rwLen]; omega)]
theorem rwReset (f g : Nat → Value) (z v : Value) (j n : Nat) (h : j < n) (hg : g j = v) (ho : ∀ i, i < j → g i = f i) : (row f z (j + 1) n).set j v = row g z (j + 1) n := by
  apply List.ext_getElem?
  intro i
  by_cases hi : i < n
  · rw [rwAt g z (j + 1) n i hi, List.getElem?_set]
    by_cases e : j = i
    · subst e; simp [rwLen, hi, hg]
    · rw [if_neg e, rwAt f z (j + 1) n i hi]
      by_cases hl : i < j + 1
      · rw [if_pos hl, if_pos hl, ho i (by omega)]
      · rw [if_neg hl, if_neg hl]
  · rw [List.getElem?_eq_none (by simp [rwLen]; omega), List.getElem?_eq_none (by rw [rwLen]; omega)]

/-- a row of the call's own: block g, n cells of type e, from base on -/
def OwnR (w : World) (base g n : Nat) (e : TypeId) (xs : List Value) : Prop := w.ownsRow base e 1 (.slice (some ⟨g, 0, none⟩) n n) n xs

theorem OwnR.cell {w : World} {base g n : Nat} {e : TypeId} {f : Nat → Value} {z : Value} {j i : Nat} (h : OwnR w base g n e (row f z j n)) (hi : i < n) : w.cell? ⟨g, i, none⟩ = some (if i < j then f i else z) := by
  have := World.ownsRow.cellAt h i (by omega)
  rw [this, rwAt f z j n i hi]
theorem OwnR.frozen {w : World} {base g n : Nat} {e : TypeId} {xs : List Value} (h : OwnR w base g n e xs) (i : Nat) : w.frozen? ⟨g, i, none⟩ = false := World.ownsRow.frozenAt h i
theorem OwnR.set {w : World} {base g n : Nat} {e : TypeId} {xs : List Value} (h : OwnR w base g n e xs) (i : Nat) (v : Value) : OwnR (w.setCell ⟨g, i, none⟩ v) base g n e (xs.set i v) := (World.ownsRow.stored h i v).1
theorem OwnR.block {w : World} {base g n : Nat} {e : TypeId} {xs : List Value} (h : OwnR w base g n e xs) : base ≤ g ∧ ∃ cur, w.heap[g]? = some (.cells cur e (0, 0)) := by
  rcases h.2 with ⟨e', _⟩ | ⟨g', cap, cur, e', hb, hg, _⟩
  · simp at e'
  · simp at e'
    obtain ⟨rfl, _⟩ := e'
    exact ⟨hb, cur, hg⟩
theorem OwnR.of_block {w w' : World} {base g n : Nat} {e : TypeId} {xs : List Value} (h : OwnR w base g n e xs) (hb : w'.heap[g]? = w.heap[g]?) : OwnR w' base g n e xs := by
  obtain ⟨h1, h2⟩ := h
  refine ⟨h1, ?_⟩
  rcases h2 with h' | ⟨g', cap, cur, e', hbb, hg, r⟩
  · exact .inl h'
  · have e2 := e'
    simp at e2
    obtain ⟨rfl, _⟩ := e2
    exact .inr ⟨g, cap, cur, e', hbb, hb.trans hg, r⟩
theorem OwnR.setOther {w : World} {base g n : Nat} {e : TypeId} {xs : List Value} (h : OwnR w base g n e xs) {g' : Nat} (hne : g ≠ g') (i : Nat) (v : Value) : OwnR (w.setCell ⟨g', i, none⟩ v) base g n e xs :=
  h.of_block (Below.heap_setCell w _ _ g hne)

theorem info3 : (Try.prog.info? 3).map (fun i => (i.zero, i.size, i.bytes)) = some (some (.int .i64 0), 1, 8) := by kernel_rfl
theorem info5 : (Try.prog.info? 5).map (fun i => (i.zero, i.size, i.bytes)) = some (some (.int .u8 0), 1, 1) := by kernel_rfl
theorem infoParts {e : TypeId} {z : Option Value} {s b : Nat} (h : (Try.prog.info? e).map (fun i => (i.zero, i.size, i.bytes)) = some (z, s, b)) : ∃ i, Try.prog.info? e = some i ∧ i.zero = z ∧ i.size = s ∧ i.bytes = b := by
  cases hh : Try.prog.info? e with
  | none => rw [hh] at h; cases h
  | some i => rw [hh] at h; simp at h; exact ⟨i, rfl, h.1, h.2.1, h.2.2⟩
def opI : Option Nat → Int
  | none => -1
  | some i => (i : Int)
section
variable {tx : Nat → ByteArray} {act : Nat → Int}
theorem endP_found {t : ByteArray} {n j : Nat} (hj : j < n) (hh : hit tx act t j = true) (hno : ∀ i, i < j → hit tx act t i = false) : endP tx act t n = j := by
  obtain ⟨h1, h2, h3⟩ := endP_spec (tx := tx) (act := act) t n
  rcases Nat.lt_trichotomy (endP tx act t n) j with h | h | h
  · have := hno _ h
    rw [h3 (by omega)] at this; cases this
  · exact h
  · have := h2 j h
    rw [hh] at this; cases this
theorem endP_none {t : ByteArray} {n : Nat} (hno : ∀ i, i < n → hit tx act t i = false) : endP tx act t n = n := by
  obtain ⟨h1, h2, h3⟩ := endP_spec (tx := tx) (act := act) t n
  apply Classical.byContradiction
  intro h
  have := h3 (by omega)
  rw [hno _ (by omega)] at this; cases this
end
def pE (tx : Nat → ByteArray) (act : Nat → Int) (n : Nat) : Nat → Value := fun i => .int .i64 (endP tx act (tx i) n : Nat)
def pA (tx : Nat → ByteArray) (act : Nat → Int) (n : Nat) : Nat → Value := fun i => .int .u8 (endA tx act n (tx i))
end Go.Proofs.Qxb6600445a
