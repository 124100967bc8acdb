import Derived.Test.Qxb6600448aPure
namespace Go.Proofs.Qxb6600448a
open Go.RowKit
set_option linter.unusedVariables false

theorem info25 : (Try.prog.info? 25).map (fun i => (i.zero, i.size, i.bytes)) = some (some (.pointer none), 1, 8) := by kernel_rfl
theorem info3 : (Try.prog.info? 3).map (fun i => (i.zero, i.size, i.bytes)) = some (some (.int .i64 0), 1, 8) := by kernel_rfl

theorem newnode (w : World) : Calls Try.prog 23 #[] w fun e w' => e = .returned (.pointer (some ⟨w.heap.size, 0, none⟩)) ∧ w' = w.alloc fresh := by
  go_enter Try.func23, Try.ntmps23
  go_wp2
  go_ret
  exact ⟨rfl, rfl⟩

def opI : Option Nat → Int
  | none => -1
  | some i => (i : Int)
theorem opI_inj (a b : Option Nat) : opI a = opI b ↔ a = b := by
  cases a <;> cases b <;> simp [opI] <;> omega

/-- a row of n cells of which the first j are written -/
def row (f : Nat → Value) (z : Value) (j n : Nat) : List Value := (List.range n).map fun i => if i < j then f i else z

theorem row_len (f : Nat → Value) (z : Value) (j n : Nat) : (row f z j n).length = n := by simp [row]
theorem row_at (f : Nat → Value) (z : Value) (j n i : Nat) (h : i < n) : (row f z j n)[i]? = some (if i < j then f i else z) := by
  simp [row, h]
theorem row_zero (f : Nat → Value) (z : Value) (n : Nat) : row f z 0 n = List.replicate n z := by
  apply List.ext_getElem?
  intro i
  by_cases h : i < n
  · rw [row_at f z 0 n i h]; simp [h]
  · rw [List.getElem?_eq_none (by rw [row_len]; omega), List.getElem?_eq_none (by simp; omega)]
theorem row_set (f g : Nat → Value) (z v : Value) (j n : Nat) (h : j < n) (hg : g j = v) (ho : ∀ i, i < j → g i = f i) : (row f z j n).set j v = row g z (j + 1) n := by
  apply List.ext_getElem?
  intro i
  by_cases hi : i < n
  · rw [row_at g z (j + 1) n i hi, List.getElem?_set]
    by_cases e : j = i
    · subst e; simp [row_len, hi, hg]
    · rw [if_neg e, row_at f z j n i hi]
      by_cases hl : i < j
      · rw [if_pos hl, if_pos (by omega), ho i hl]
      · rw [if_neg hl, if_neg (by omega)]
  · rw [List.getElem?_eq_none (by simp [row_len]; omega), List.getElem?_eq_none (by rw [row_len]; omega)]
theorem row_reset (f g : Nat → Value) (z v : Value) (j n : Nat) (h : j < n) (hg : g j = v) (ho : ∀ i, i < j → g i = f i) : (row f z (j + 1) n).set j v = row g z (j + 1) n := by
  apply List.ext_getElem?
  intro i
  by_cases hi : i < n
  · rw [row_at g z (j + 1) n i hi, List.getElem?_set]
    by_cases e : j = i
    · subst e; simp [row_len, hi, hg]
    · rw [if_neg e, row_at f z (j + 1) n i hi]
      by_cases hl : i < j + 1
      · rw [if_pos hl, if_pos hl, ho i (by omega)]
      · rw [if_neg hl, if_neg hl]
  · rw [List.getElem?_eq_none (by simp [row_len]; omega), List.getElem?_eq_none (by rw [row_len]; omega)]

def pN (nd : Nat → Nat) : Nat → Value := fun i => .pointer (some ⟨nd i, 0, none⟩)
def pC (cn : Nat → Nat) : Nat → Value := fun i => .int .i64 (cn i : Int)
def pP (cp : Nat → Option Nat) : Nat → Value := fun i => .int .i64 (opI (cp i))

/-- a row of the call's own: block g, n cells of type e, from base on -/
def OwnR (w : World) (base g n : Nat) (e : TypeId) (xs : List Value) : Prop := w.ownsRow base e 1 (.slice (some ⟨g, 0, none⟩) n n) n xs

theorem OwnR.cell {w : World} {base g n : Nat} {e : TypeId} {f : Nat → Value} {z : Value} {j i : Nat} (h : OwnR w base g n e (row f z j n)) (hi : i < n) : w.cell? ⟨g, i, none⟩ = some (if i < j then f i else z) := by
  have := World.ownsRow.cellAt h i (by omega)
  rw [this, row_at f z j n i hi]
theorem OwnR.frozen {w : World} {base g n : Nat} {e : TypeId} {xs : List Value} (h : OwnR w base g n e xs) (i : Nat) : w.frozen? ⟨g, i, none⟩ = false := World.ownsRow.frozenAt h i
theorem OwnR.set {w : World} {base g n : Nat} {e : TypeId} {xs : List Value} (h : OwnR w base g n e xs) (i : Nat) (v : Value) : OwnR (w.setCell ⟨g, i, none⟩ v) base g n e (xs.set i v) := (World.ownsRow.stored h i v).1
theorem OwnR.block {w : World} {base g n : Nat} {e : TypeId} {xs : List Value} (h : OwnR w base g n e xs) : base ≤ g ∧ ∃ cur, w.heap[g]? = some (.cells cur e (0, 0)) := by
  rcases h.2 with ⟨e', _⟩ | ⟨g', cap, cur, e', hb, hg, _⟩
  · simp at e'
  · simp at e'
    obtain ⟨rfl, _⟩ := e'
    exact ⟨hb, cur, hg⟩
theorem OwnR.of_block {w w' : World} {base g n : Nat} {e : TypeId} {xs : List Value} (h : OwnR w base g n e xs) (hb : w'.heap[g]? = w.heap[g]?) : OwnR w' base g n e xs := by
  obtain ⟨h1, h2⟩ := h
  refine ⟨h1, ?_⟩
  rcases h2 with h' | ⟨g', cap, cur, e', hbb, hg, r⟩
  · exact .inl h'
  · have e2 := e'
    simp at e2
    obtain ⟨rfl, _⟩ := e2
    exact .inr ⟨g, cap, cur, e', hbb, hb.trans hg, r⟩
theorem OwnR.keep {w w' : World} {base g n : Nat} {e : TypeId} {xs : List Value} (h : OwnR w base g n e xs) (hk : keepT w w') (he : e ≠ 51) : OwnR w' base g n e xs := by
  obtain ⟨_, cur, hg⟩ := h.block
  exact h.of_block ((hk g cur e _ hg he).trans hg.symm)
theorem OwnR.setOther {w : World} {base g n : Nat} {e : TypeId} {xs : List Value} (h : OwnR w base g n e xs) {g' : Nat} (hne : g ≠ g') (i : Nat) (v : Value) : OwnR (w.setCell ⟨g', i, none⟩ v) base g n e xs :=
  h.of_block (Below.heap_setCell w _ _ g hne)

theorem Tree.setOther {w : World} {base : Nat} {N : Nat → Prop} {ch : Ch} {cnt : Nat → Nat} (h : Tree w base N ch cnt) {g : Nat} {cur : Array Value} {e : TypeId} {fr : Nat × Nat} (hg : w.heap[g]? = some (.cells cur e fr)) (he : e ≠ 51) (i : Nat) (v : Value) : Tree (w.setCell ⟨g, i, none⟩ v) base N ch cnt := by
  obtain ⟨mp, h1, h2, h3⟩ := h
  refine ⟨mp, fun b hN => ?_, h2, h3⟩
  obtain ⟨a1, a2, a3⟩ := h1 b hN
  refine ⟨?_, a2, fun m hm => ?_⟩
  · rw [Below.heap_setCell w _ _ b (fun e' => ?_)]
    · exact a1
    · simp only at e'
      subst e'
      rw [hg] at a1
      simp [node] at a1
      exact he a1.2.1
  · refine (a3 m hm).of_block (Below.heap_setCell w _ _ m (fun e' => ?_))
    simp only at e'
    subst e'
    obtain ⟨es, cl, hh⟩ := (a3 m hm).isMap
    rw [hg] at hh
    cases hh

/-- WHAT HOLDS AT THE HEAD OF ROUND j -/
structure RelM (st : Nat → St) (n B R Bn Bc Bp : Nat) (w wr : World) (j : Nat) (nd cn : Nat → Nat) (cp : Nat → Option Nat) (N : Nat → Prop) (ch : Ch) (cnt : Nat → Nat) : Prop where
  rn : OwnR wr B Bn n 25 (row (pN nd) (.pointer none) j n)
  rc : OwnR wr B Bc n 3 (row (pC cn) (.int .i64 0) j n)
  rp : OwnR wr B Bp n 3 (row (pP cp) (.int .i64 0) j n)
  tree : Tree wr B N ch cnt
  inv : Inv (fun i => keyS (st i)) j R nd cn cp N ch cnt
  bel : Below B w wr
end Go.Proofs.Qxb6600448a
