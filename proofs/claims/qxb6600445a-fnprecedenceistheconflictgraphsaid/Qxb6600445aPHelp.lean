import Derived.Test.Qxb6600445aPStart
namespace Go.Proofs.Qxb6600445a
open Go.RowKit
set_option linter.unusedVariables false

structure Fb (m : Nat) (pf : ByteArray → Option Value) (kI kP kG : Nat) (cb eb : Nat) (G : Gh) : Prop where
  m : G.m = m
  pf : G.pf = pf
  kI : G.kI = kI
  kP : G.kP = kP
  kG : G.kG = kG
  c : G.c ≤ cb
  e : G.e ≤ eb
structure Bx (nb : Nat) (t : ByteArray) (a : Int) (x : ByteArray) (G : Gh) : Prop where
  kB : G.kB = some nb
  bx : G.bx = box t a x
def Keep (G G' : Gh) : Prop := ∃ Es Sl sv e, G' = { G with Es := Es, Sl := Sl, sv := sv, e := e }
theorem Keep.refl (G : Gh) : Keep G G := ⟨G.Es, G.Sl, G.sv, G.e, rfl⟩
theorem Keep.add {G G' G'' : Gh} {u v : Nat} (h : Keep G G') (ha : AddTo G' G'' u v) : Keep G G'' ∧ G''.e ≤ G'.e + 2 := by
  obtain ⟨Es, Sl, sv, e, rfl⟩ := h
  rcases ha with ⟨_, rfl⟩ | ⟨_, val, rfl⟩
  · exact ⟨⟨Es, Sl, sv, e, rfl⟩, by simp⟩
  · exact ⟨⟨_, _, _, _, rfl⟩, by simp⟩

section
variable {base : Nat} {w0 w : World} {G : Gh}
theorem HM.boxCells (H : HM base w0 w G) {nb : Nat} {t : ByteArray} {a : Int} {x : ByteArray} (hB : Bx nb t a x G) : w.cell? ⟨nb, 0, none⟩ = some (.string t) ∧ w.cell? ⟨nb, 1, none⟩ = some (.int .u8 a) ∧ w.cell? ⟨nb, 2, none⟩ = some (.string x) := by
  have h : w.heap[nb]? = some G.bx := (H.live .box nb hB.kB).2.2
  rw [hB.bx] at h
  exact ⟨cell_of_row w nb 0 _ 47 _ h, cell_of_row w nb 1 _ 47 _ h, cell_of_row w nb 2 _ 47 _ h⟩

/-- from[d:] -/
theorem slice_run {v : Value} {L : List Nat} {d : Nat} (hrow : w.ownsRow base 3 1 v L.length (ints L)) (hd : d ≤ L.length) :
    ∃ a c', (∀ W, (Instr.slice 42 v (some (.int .i64 (d : Nat))) none none).run Try.prog W = .ok (.slice a (L.length - d) c') W) ∧ (d < L.length → ∃ g, v.ownBlock = some g ∧ a = some ⟨g, d, none⟩) := by
  rcases hrow.2 with ⟨rfl, h0⟩ | ⟨g, cap, cur, rfl, _, _, hnc, hcm, _, _⟩
  · have e : d = 0 := by omega
    subst e
    rw [h0]
    exact ⟨none, 0, fun W => by
      simp [Instr.slice, Instr.sliceBounds, Instr.sliceBound, run_underlying Try.underlying42, asIntOf, Result.andThen], fun h => by omega⟩
  · refine ⟨(if cap = d then some ⟨g, 0, none⟩ else some ⟨g, d, none⟩), cap - d, fun W => ?_, fun h => ⟨g, rfl, by rw [if_neg (by omega)]⟩⟩
    have h1 : (0 : Int) ≤ (d : Int) ∧ (d : Int) ≤ (L.length : Int) := by omega
    simp [Instr.slice, Instr.sliceBounds, Instr.sliceBound, run_underlying Try.underlying42, asIntOf, Result.andThen, h1, hd]
    split
    · rfl
    · simp [Addr.add]
      exact fun h => h.symm

theorem row_cell {v : Value} {L : List Nat} {g i u : Nat} (hrow : w.ownsRow base 3 1 v L.length (ints L)) (hg : v.ownBlock = some g) (hu : L[i]? = some u) : w.cell? ⟨g, i, none⟩ = some (.int .i64 (u : Nat)) := by
  rcases hrow.2 with ⟨rfl, h0⟩ | ⟨g', cap, cur, rfl, _, hh, hnc, hcm, hcs, htk⟩
  · simp [Value.ownBlock] at hg
  · simp [Value.ownBlock] at hg
    subst hg
    rw [cell_of_row w g' i cur 3 _ hh]
    have hi : i < L.length := by
      rw [List.getElem?_eq_some_iff] at hu
      exact hu.1
    have : (cur.toList.take (L.length * 1))[i]? = some (.int .i64 (u : Nat)) := by
      rw [htk]
      simp [ints, hu]
    rw [List.getElem?_take_of_lt (by omega)] at this
    simpa using this

theorem wpList_append_run {P : Program} (w : World) {ops : Array Oper} {rest : List Oper} {o : Oper} {a : Act} {Q : Exit → Act → World → Prop} (hgd : o.guard = none) (s x : Operand) (t : TypeId)
    (ho : o.op = .call { callee := .builtin .append, args := #[s, x], argTypes := #[t, t] }) (v u r : Value) (hs : a.eval s = v) (hx : a.eval x = u) (w1 : World) (hr : (Builtin.append_ #[t, t] o.type #[v, u]).run P w = .ok r w1) (h : wpList P ops Q rest (a.put o.dst r) w1) : wpList P ops Q (o :: rest) a w :=
  wpList_plain hgd fun K' hK' => by
    have := step_append_run (P := P) (ops := #[]) (K := K') (Q := Q) (E := True) w hgd s x t ho v u r hs hx w1 hr (hK' _ _ h)
    have hw : Region.wanted o (yielded #[] a.tmps) = true := by simp [Region.wanted, hgd]
    rw [if_pos hw] at this
    exact this
end
end Go.Proofs.Qxb6600445a
