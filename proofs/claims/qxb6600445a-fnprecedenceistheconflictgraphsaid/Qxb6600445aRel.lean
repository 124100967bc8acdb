import Derived.Test.Qxb6600445aSteps2
import Derived.Test.Qxb6600445aSem
import Derived.Test.Qxb6600445aOps
namespace Go.Proofs.Qxb6600445a
open Go.RowKit
open Go.Maps (Keyed)
set_option linter.unusedVariables false

def box (t : ByteArray) (a : Int) (x : ByteArray) : Obj := .cells #[.string t, .int .u8 a, .string x] 47 (0, 0)

theorem mapF_empty {w : World} {P : Program} {k : TypeId} {b : Nat} (h : w.heap[b]? = some (.map #[] 0)) : mapF w P k b 0 (fun _ => none) := by
  obtain ⟨D, ⟨es, clock, h1, h2⟩, h3⟩ := mapF_made w P k
  rw [show (w.alloc (.map #[] 0)).heap[w.heap.size]? = some (.map #[] 0) from heap_alloc_new w _] at h1
  exact ⟨D, ⟨es, clock, h.trans h1, h2⟩, h3⟩
theorem mapF_none {w : World} {P : Program} {k : TypeId} {b n : Nat} {g : ByteArray → Option Value} (h : mapF w P k b n (fun _ => none)) (hg : ∀ t, g t = none) : mapF w P k b n (keyF g) := by
  have : keyF g = fun _ => none := by
    funext l
    cases l <;> simp [keyF, hg]
  rw [this]; exact h

theorem four (w : World) (O1 O2 O3 O4 : Obj) : let W := (((w.alloc O1).alloc O2).alloc O3).alloc O4
    W.heap[w.heap.size]? = some O1 ∧ W.heap[w.heap.size + 1]? = some O2 ∧ W.heap[w.heap.size + 2]? = some O3 ∧ W.heap[w.heap.size + 3]? = some O4 ∧ W.heap.size = w.heap.size + 4 ∧ Below w.heap.size w W := by
  intro W
  have e1 : (w.alloc O1).heap.size = w.heap.size + 1 := by simp
  have e2 : ((w.alloc O1).alloc O2).heap.size = w.heap.size + 2 := by simp
  have e3 : (((w.alloc O1).alloc O2).alloc O3).heap.size = w.heap.size + 3 := by simp
  refine ⟨?_, ?_, ?_, ?_, by simp [W], ((((Below.refl _ _).alloc (Nat.le_refl _) _).alloc (by simp) _).alloc (by simp; omega) _).alloc (by simp; omega) _⟩
  · show ((((w.alloc O1).alloc O2).alloc O3).alloc O4).heap[w.heap.size]? = _
    rw [Below.heap_alloc _ _ _ (by rw [e3]; omega), Below.heap_alloc _ _ _ (by rw [e2]; omega), Below.heap_alloc _ _ _ (by rw [e1]; omega)]
    exact heap_alloc_new w O1
  · show ((((w.alloc O1).alloc O2).alloc O3).alloc O4).heap[w.heap.size + 1]? = _
    rw [Below.heap_alloc _ _ _ (by rw [e3]; omega), Below.heap_alloc _ _ _ (by rw [e2]; omega), ← e1]
    exact heap_alloc_new _ O2
  · show ((((w.alloc O1).alloc O2).alloc O3).alloc O4).heap[w.heap.size + 2]? = _
    rw [Below.heap_alloc _ _ _ (by rw [e3]; omega), ← e2]
    exact heap_alloc_new _ O3
  · show ((((w.alloc O1).alloc O2).alloc O3).alloc O4).heap[w.heap.size + 3]? = _
    rw [← e3]
    exact heap_alloc_new _ O4

theorem mem_start (tx : Nat → ByteArray) (act : Nat → Int) (it : Nat → ByteArray) (w : World) :
    Mem ((((w.alloc (.map #[] 0)).alloc (.map #[] 0)).alloc (.map #[] 0)).alloc (.map #[] 0)) w.heap.size 0 (fun _ => none) (fun _ => 0) (fun t => eAt tx act t 0) (fun x t => opn tx act it x 0 t) (fun _ => []) (RFm tx act it 0) (WRm tx act it 0) (fun _ => nilS) (fun _ => nilS) (fun _ => nilS) := by
  obtain ⟨f1, f2, f3, f4, f5, f6⟩ := four w (.map #[] 0) (.map #[] 0) (.map #[] 0) (.map #[] 0)
  have r0 : ∀ t, RFm tx act it 0 t = [] := fun t => by simp [RFm, eAt, rfs]
  have w0 : ∀ t, WRm tx act it 0 t = [] := fun t => by simp [WRm, eAt, wrs]
  refine ⟨⟨0, Nat.le_refl _, mapF_none (mapF_empty f1) (fun _ => rfl)⟩, ⟨0, Nat.le_refl _, mapF_none (mapF_empty f2) (fun _ => by simp [eAt])⟩, ⟨0, fun _ => none, Nat.le_refl _, mapF_none (mapF_empty f3) (fun _ => rfl), fun _ => rfl⟩, ⟨0, fun _ => none, Nat.le_refl _, mapF_none (mapF_empty f4) (fun _ => rfl), fun _ => rfl⟩,
    fun x b h => (by cases h), fun x y b h => (by cases h), fun x y b b' h => (by cases h), fun x => World.ownsRow_nil _ _ _ _, fun t => ?_, fun t => ?_, fun o o' g h => ?_, fun x _ => ⟨rfl, rfl, fun t => by simp [opn, hist, memB]⟩, fun x => ?_, fun t x h => ?_, by omega⟩
  · rw [r0]; exact World.ownsRow_nil _ _ _ _
  · rw [w0]; exact World.ownsRow_nil _ _ _ _
  · simp [blk, nilS, Value.ownBlock] at h
  · rw [r0, w0]; simp
  · rw [w0] at h; cases h

/-- what holds at the head of round k -/
structure Rel (tx : Nat → ByteArray) (act : Nat → Int) (it : Nat → ByteArray) (B : Nat) (w0 w : World) (k c : Nat) (X : ByteArray → Option Nat) (ob : ByteArray → Nat) (Wl : ByteArray → List ByteArray) (vW vR vP : ByteArray → Value) : Prop where
  mem : Mem w B c X ob (fun t => eAt tx act t k) (fun x t => opn tx act it x k t) Wl (RFm tx act it k) (WRm tx act it k) vW vR vP
  cle : c ≤ 4 * k
  win : Winv tx act it k Wl
  nox : ∀ x, X x = none → hist tx act it x k = []
  bel : Below B w0 w

section
variable {tx : Nat → ByteArray} {act : Nat → Int} {it : Nat → ByteArray} {B : Nat} {w0 w : World} {k c : Nat} {X : ByteArray → Option Nat} {ob : ByteArray → Nat} {Wl : ByteArray → List ByteArray} {vW vR vP : ByteArray → Value}

theorem not_op {a : Int} (h : isOp a = false) : isEnd a = false ∧ a ≠ 1 ∧ a ≠ 2 ∧ a ≠ 3 := by
  unfold isOp at h
  unfold isEnd
  simp at h ⊢
  omega

theorem other_flags (tx : Nat → ByteArray) (act : Nat → Int) (it : Nat → ByteArray) (k : Nat) (h : isOp (act k) = false) :
    allTo (okR tx act it) (k + 1) = allTo (okR tx act it) k ∧ allTo (okC tx act it) (k + 1) = allTo (okC tx act it) k ∧ allTo (okS tx act it) (k + 1) = allTo (okS tx act it) k := by
  obtain ⟨_, h1, h2, h3⟩ := not_op h
  refine ⟨?_, ?_, ?_⟩
  · show (_ && okR tx act it k) = _; simp [okR, h3]
  · show (_ && okC tx act it k) = _; simp [okC, h1]
  · show (_ && okS tx act it k) = _; simp [okS, h1, h2]

theorem other_rel (H : Rel tx act it B w0 w k c X ob Wl vW vR vP) (h : isOp (act k) = false) : ∀ w', w.heap.size ≤ w'.heap.size → Below w.heap.size w w' → Rel tx act it B w0 w' (k + 1) c X ob Wl vW vR vP := by
  intro w' _ hb
  obtain ⟨he, h1, h2, h3⟩ := not_op h
  have e1 : (fun t => eAt tx act t (k + 1)) = fun t => eAt tx act t k := funext fun t => eAt_no t k he
  have e2 : (fun x t => opn tx act it x (k + 1) t) = fun x t => opn tx act it x k t := funext fun x => funext fun t => by unfold opn; rw [hist_no x k h2, eAt_no t k he]
  have e3 : RFm tx act it (k + 1) = RFm tx act it k := funext fun t => by unfold RFm; rw [rfs_no t k h1, eAt_no t k he]
  have e4 : WRm tx act it (k + 1) = WRm tx act it k := funext fun t => by unfold WRm; rw [wrs_no t k h2, eAt_no t k he]
  refine ⟨?_, by have := H.cle; omega, winv_keep H.win h2 (fun t ht => by rw [eAt_no t k he]; exact ht), fun x hx => by rw [hist_no x k h2]; exact H.nox x hx, H.bel.trans (hb.mono (by have := H.mem.size; omega))⟩
  rw [e1, e2, e3, e4]
  exact H.mem.below hb
end

end Go.Proofs.Qxb6600445a
