import Derived.Test.Qxb6600445aPArc
import Derived.Test.Qxb6600445aPOps
namespace Go.Proofs.Qxb6600445a
open Go.RowKit
open Go.Maps (Keyed)
set_option linter.unusedVariables false

inductive Own where
  | items | place | graph | succ | edges | box
  | item (x : ByteArray) | by_ (x : ByteArray) | acc (x : ByteArray) (t : Nat) | wr (x : ByteArray) | ac (x : ByteArray) | sl (u : Nat)

structure Gh where
  m : Nat
  c : Nat
  e : Nat
  pf : ByteArray → Option Value
  kI : Nat
  kP : Nat
  kG : Nat
  kS : Nat
  kE : Nat
  kB : Option Nat
  bx : Obj
  X : ByteArray → Option Nat
  Bb : ByteArray → Nat
  A : ByteArray → Nat → Option Nat
  Wl : ByteArray → List Nat
  Al : ByteArray → List Nat
  vW : ByteArray → Value
  vA : ByteArray → Value
  d0 : ByteArray → Nat → Nat
  d1 : ByteArray → Nat → Nat
  wo : ByteArray → Nat → Bool
  sv : Nat → Value
  Sl : Nat → List Nat
  Es : Nat → Nat → Bool

def ints (l : List Nat) : List Value := l.map fun t => .int .i64 (t : Nat)
def rowA (m : Nat) (f : Nat → Value) : Array Value := ((List.range m).map f).toArray
theorem rowA_at {m u : Nat} {f : Nat → Value} (h : u < m) : (rowA m f)[u]? = some (f u) := by simp [rowA, h]
theorem rowA_set {m u : Nat} {f : Nat → Value} (v : Value) : (rowA m f).setIfInBounds u v = rowA m (fun i => if i = u then v else f i) := by
  apply Array.ext_getElem?
  intro i
  simp only [rowA, Array.getElem?_setIfInBounds, List.getElem?_toArray, List.getElem?_map, List.size_toArray, List.length_map, List.length_range]
  by_cases h : i < m
  · by_cases e : u = i
    · subst e; simp [h]
    · have e' : ¬ i = u := fun h => e h.symm
      simp [e, e', h]
  · have : (List.range m)[i]? = none := by simp; omega
    simp [this]
    intro e; omega

def itemO (vw va : Value) (bb : Nat) : Obj := .cells #[vw, va, .map (some bb)] 76 (0, 0)
def accO (p q : Nat) (b : Bool) : Obj := .cells #[.int .i64 (p : Nat), .int .i64 (q : Nat), .bool b] 80 (0, 0)
def graphO (s m e : Nat) : Obj := .cells #[.slice (some ⟨s, 0, none⟩) m m, .map (some e)] 57 (0, 0)

def bk (G : Gh) : Own → Option Nat
  | .items => some G.kI
  | .place => some G.kP
  | .graph => some G.kG
  | .succ => some G.kS
  | .edges => some G.kE
  | .box => G.kB
  | .item x => G.X x
  | .by_ x => (G.X x).map fun _ => G.Bb x
  | .acc x t => G.A x t
  | .wr x => (G.vW x).ownBlock
  | .ac x => (G.vA x).ownBlock
  | .sl u => (G.sv u).ownBlock

def Pr (base : Nat) (G : Gh) (b : Nat) (w : World) : Own → Prop
  | .items => ∃ n, n ≤ G.c ∧ mapF w Try.prog 9 b n (keyF fun x => (G.X x).map pt)
  | .place => ∃ n, mapF w Try.prog 44 b n (keyF G.pf)
  | .graph => w.heap[b]? = some (graphO G.kS G.m G.kE)
  | .succ => w.heap[b]? = some (.cells (rowA G.m G.sv) 42 (0, 0))
  | .edges => ∃ n, n ≤ G.e ∧ mapF w Try.prog 83 b n (arcF fun u v => G.Es u v = true)
  | .box => w.heap[b]? = some G.bx
  | .item x => w.heap[b]? = some (itemO (G.vW x) (G.vA x) (G.Bb x))
  | .by_ x => ∃ n, n ≤ G.c ∧ mapF w Try.prog 3 b n (intF fun t => (G.A x t).map pt)
  | .acc x t => w.heap[b]? = some (accO (G.d0 x t) (G.d1 x t) (G.wo x t))
  | .wr x => w.ownsRow base 3 1 (G.vW x) (G.Wl x).length (ints (G.Wl x))
  | .ac x => w.ownsRow base 3 1 (G.vA x) (G.Al x).length (ints (G.Al x))
  | .sl u => w.ownsRow base 3 1 (G.sv u) (G.Sl u).length (ints (G.Sl u))

def NilOk (v : Value) (l : List Nat) : Prop := v.ownBlock = none → v = nilS ∧ l = []

structure HM (base : Nat) (w0 w : World) (G : Gh) : Prop where
  live : ∀ o b, bk G o = some b → base ≤ b ∧ b < w.heap.size ∧ Pr base G b w o
  inj : ∀ o o' b, bk G o = some b → bk G o' = some b → o = o'
  nilW : ∀ x, NilOk (G.vW x) (G.Wl x)
  nilA : ∀ x, NilOk (G.vA x) (G.Al x)
  nilU : ∀ u, NilOk (G.sv u) (G.Sl u)
  len : ∀ x, (G.Wl x).length ≤ G.c ∧ (G.Al x).length ≤ G.c
  lenS : ∀ u, (G.Sl u).length ≤ G.e
  base_le : base ≤ w.heap.size
  bel : Below base w0 w

section
variable {base : Nat} {w0 w w' : World} {G G' : Gh}

theorem Pr.stable {o : Own} {b : Nat} (hb : bk G o = some b) (h : Pr base G b w o) (hh : w'.heap[b]? = w.heap[b]?) : Pr base G b w' o := by
  cases o with
  | items => obtain ⟨n, h1, h2⟩ := h; exact ⟨n, h1, h2.of_block hh⟩
  | place => obtain ⟨n, h2⟩ := h; exact ⟨n, h2.of_block hh⟩
  | edges => obtain ⟨n, h1, h2⟩ := h; exact ⟨n, h1, h2.of_block hh⟩
  | by_ x => obtain ⟨n, h1, h2⟩ := h; exact ⟨n, h1, h2.of_block hh⟩
  | wr x => exact own_of_block h (fun g hg => by have : some g = some b := hg.symm.trans hb; cases this; exact hh)
  | ac x => exact own_of_block h (fun g hg => by have : some g = some b := hg.symm.trans hb; cases this; exact hh)
  | sl x => exact own_of_block h (fun g hg => by have : some g = some b := hg.symm.trans hb; cases this; exact hh)
  | graph => exact hh.trans h
  | succ => exact hh.trans h
  | box => exact hh.trans h
  | item x => exact hh.trans h
  | acc x t => exact hh.trans h

theorem HM.step (H : HM base w0 w G) (S : Own → Prop) (hsz : w.heap.size ≤ w'.heap.size) (hos : w'.os = w.os) (htp : w'.tape = w.tape) (hou : w'.output = w.output)
    (hk : ∀ b, b < w.heap.size → (∀ o, S o → bk G o ≠ some b) → w'.heap[b]? = w.heap[b]?)
    (hb : ∀ o, ¬ S o → bk G' o = bk G o) (hP : ∀ o b, ¬ S o → bk G o = some b → Pr base G b w' o → Pr base G' b w' o)
    (hS : ∀ o b, S o → bk G' o = some b → base ≤ b ∧ b < w'.heap.size ∧ Pr base G' b w' o ∧ (bk G o = some b ∨ w.heap.size ≤ b))
    (hSi : ∀ o o' b, S o → S o' → w.heap.size ≤ b → bk G' o = some b → bk G' o' = some b → o = o')
    (n1 : ∀ x, NilOk (G'.vW x) (G'.Wl x)) (n2 : ∀ x, NilOk (G'.vA x) (G'.Al x)) (n3 : ∀ u, NilOk (G'.sv u) (G'.Sl u))
    (l1 : ∀ x, (G'.Wl x).length ≤ G'.c ∧ (G'.Al x).length ≤ G'.c) (l2 : ∀ u, (G'.Sl u).length ≤ G'.e) : HM base w0 w' G' where
  live := fun o b hob => by
    by_cases hs : S o
    · obtain ⟨a1, a2, a3, _⟩ := hS o b hs hob
      exact ⟨a1, a2, a3⟩
    · rw [hb o hs] at hob
      obtain ⟨a1, a2, a3⟩ := H.live o b hob
      refine ⟨a1, Nat.lt_of_lt_of_le a2 hsz, hP o b hs hob (a3.stable hob (hk b a2 fun o' hs' e => hs ?_))⟩
      rw [H.inj o o' b hob e]; exact hs'
  inj := fun o o' b h1 h2 => by
    by_cases hs : S o
    · obtain ⟨_, _, _, a4⟩ := hS o b hs h1
      by_cases hs' : S o'
      · obtain ⟨_, _, _, b4⟩ := hS o' b hs' h2
        rcases a4 with a4 | a4
        · rcases b4 with b4 | b4
          · exact H.inj o o' b a4 b4
          · have := (H.live o b a4).2.1; omega
        · exact hSi o o' b hs hs' a4 h1 h2
      · rw [hb o' hs'] at h2
        rcases a4 with a4 | a4
        · exact H.inj o o' b a4 h2
        · have := (H.live o' b h2).2.1; omega
    · rw [hb o hs] at h1
      by_cases hs' : S o'
      · obtain ⟨_, _, _, b4⟩ := hS o' b hs' h2
        rcases b4 with b4 | b4
        · exact H.inj o o' b h1 b4
        · have := (H.live o b h1).2.1; omega
      · rw [hb o' hs'] at h2
        exact H.inj o o' b h1 h2
  nilW := n1
  nilA := n2
  nilU := n3
  len := l1
  lenS := l2
  base_le := Nat.le_trans H.base_le hsz
  bel := ⟨hos.trans H.bel.os, htp.trans H.bel.tape, hou.trans H.bel.output, Nat.le_trans H.bel.size hsz, fun j hj => (hk j (Nat.lt_of_lt_of_le hj H.base_le) fun o hs e => by have := (H.live o j e).1; omega).trans (H.bel.block j hj)⟩

/-- new blocks alone -/
theorem HM.below (H : HM base w0 w G) (hb : Below w.heap.size w w') : HM base w0 w' G :=
  H.step (fun _ => False) hb.size hb.os hb.tape hb.output (fun b hlt _ => hb.block b hlt) (fun _ _ => rfl) (fun _ _ _ _ h => h) (fun _ _ h => h.elim) (fun _ _ _ h => h.elim) H.nilW H.nilA H.nilU H.len H.lenS

theorem HM.rowW (H : HM base w0 w G) (x : ByteArray) : w.ownsRow base 3 1 (G.vW x) (G.Wl x).length (ints (G.Wl x)) := by
  cases h : (G.vW x).ownBlock with
  | none => obtain ⟨e1, e2⟩ := H.nilW x h; rw [e1, e2]; exact World.ownsRow_nil _ _ _ _
  | some b => exact (H.live (.wr x) b h).2.2
theorem HM.rowAc (H : HM base w0 w G) (x : ByteArray) : w.ownsRow base 3 1 (G.vA x) (G.Al x).length (ints (G.Al x)) := by
  cases h : (G.vA x).ownBlock with
  | none => obtain ⟨e1, e2⟩ := H.nilA x h; rw [e1, e2]; exact World.ownsRow_nil _ _ _ _
  | some b => exact (H.live (.ac x) b h).2.2
theorem HM.rowS (H : HM base w0 w G) (u : Nat) : w.ownsRow base 3 1 (G.sv u) (G.Sl u).length (ints (G.Sl u)) := by
  cases h : (G.sv u).ownBlock with
  | none => obtain ⟨e1, e2⟩ := H.nilU u h; rw [e1, e2]; exact World.ownsRow_nil _ _ _ _
  | some b => exact (H.live (.sl u) b h).2.2

theorem HM.lookPlace (H : HM base w0 w G) {t : ByteArray} {i : Nat} (ht : t.size ≤ maxLen) (hp : G.pf t = some (.int .i64 (i : Nat))) : (Instr.lookup 70 (.map (some G.kP)) (.string t) false).run Try.prog w = .ok (.int .i64 (i : Nat)) w := by
  obtain ⟨_, _, n, h⟩ := H.live .place _ rfl
  rw [h.look law44 Try.underlying70 (zero3 _) (key44 ht), keyF_at, hp]; rfl
theorem HM.lookItems (H : HM base w0 w G) {x : ByteArray} (hx : x.size ≤ maxLen) : (Instr.lookup 69 (.map (some G.kI)) (.string x) false).run Try.prog w = .ok (((G.X x).map pt).getD (.pointer none)) w := by
  obtain ⟨_, _, n, _, h⟩ := H.live .items _ rfl
  rw [h.look law9 Try.underlying69 (zero73 _) (key9 hx), keyF_at]
theorem HM.lookBy (H : HM base w0 w G) {x : ByteArray} {b t : Nat} (hx : G.X x = some b) (ht : t < 65536) : (Instr.lookup 74 (.map (some (G.Bb x))) (.int .i64 (t : Nat)) false).run Try.prog w = .ok (((G.A x t).map pt).getD (.pointer none)) w := by
  obtain ⟨_, _, n, _, h⟩ := H.live (.by_ x) (G.Bb x) (by simp [bk, hx])
  rw [h.look law3 Try.underlying74 (zero77 _) (key3 ht), intF_at]
theorem HM.itemCells (H : HM base w0 w G) {x : ByteArray} {b : Nat} (hx : G.X x = some b) : w.cell? ⟨b, 0, none⟩ = some (G.vW x) ∧ w.cell? ⟨b, 1, none⟩ = some (G.vA x) ∧ w.cell? ⟨b, 2, none⟩ = some (.map (some (G.Bb x))) ∧ ∀ i, w.frozen? ⟨b, i, none⟩ = false := by
  have h := (H.live (.item x) b hx).2.2
  exact ⟨cell_of_row w b 0 _ 76 _ h, cell_of_row w b 1 _ 76 _ h, cell_of_row w b 2 _ 76 _ h, fun i => frozen_of_row w b i _ 76 h⟩
theorem HM.accCells (H : HM base w0 w G) {x : ByteArray} {t b : Nat} (hx : G.A x t = some b) : w.cell? ⟨b, 0, none⟩ = some (.int .i64 (G.d0 x t : Nat)) ∧ w.cell? ⟨b, 1, none⟩ = some (.int .i64 (G.d1 x t : Nat)) ∧ w.cell? ⟨b, 2, none⟩ = some (.bool (G.wo x t)) ∧ ∀ i, w.frozen? ⟨b, i, none⟩ = false := by
  have h := (H.live (.acc x t) b hx).2.2
  exact ⟨cell_of_row w b 0 _ 80 _ h, cell_of_row w b 1 _ 80 _ h, cell_of_row w b 2 _ 80 _ h, fun i => frozen_of_row w b i _ 80 h⟩
theorem HM.graphCells (H : HM base w0 w G) : w.cell? ⟨G.kG, 0, none⟩ = some (.slice (some ⟨G.kS, 0, none⟩) G.m G.m) ∧ w.cell? ⟨G.kG, 1, none⟩ = some (.map (some G.kE)) := by
  have h := (H.live .graph G.kG rfl).2.2
  exact ⟨cell_of_row w G.kG 0 _ 57 _ h, cell_of_row w G.kG 1 _ 57 _ h⟩
theorem HM.succCell (H : HM base w0 w G) {u : Nat} (hu : u < G.m) : w.cell? ⟨G.kS, u, none⟩ = some (G.sv u) ∧ w.frozen? ⟨G.kS, u, none⟩ = false := by
  have h := (H.live .succ G.kS rfl).2.2
  exact ⟨by rw [cell_of_row w G.kS u _ 42 _ h]; exact rowA_at hu, frozen_of_row w G.kS u _ 42 h⟩
theorem HM.lookEdge (H : HM base w0 w G) {u v : Nat} (hu : u < 65536) (hv : v < 65536) : (Instr.lookup 55 (.map (some G.kE)) (arc u v) true).run Try.prog w = .ok (.tuple #[.agg #[], .bool (G.Es u v)]) w := by
  obtain ⟨_, _, n, _, h⟩ := H.live .edges _ rfl
  rw [h.look_ok law83 Try.underlying55 (zero84 _) (key83 hu hv), arcF_val]
  have := arcF_at (S := fun u v => G.Es u v = true) hu hv
  have e : (arcF (fun u v => G.Es u v = true) (alit u v)).isSome = G.Es u v := by
    cases hh : G.Es u v with
    | true => exact this.2 hh
    | false =>
      cases h : (arcF (fun u v => G.Es u v = true) (alit u v)).isSome
      · rfl
      · rw [this.1 h] at hh; cases hh
  rw [e]
end
end Go.Proofs.Qxb6600445a
