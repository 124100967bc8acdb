import Derived.Test.Qxb6600445aRecL
namespace Go.Proofs.Qxb6600445a
open Go.RowKit
open Go.Maps (Keyed)
set_option linter.unusedVariables false

section
variable {B nb c : Nat} {w0 w w' : World} {X : ByteArray → Option Nat} {ob : ByteArray → Nat} {E : ByteArray → Int} {O : ByteArray → ByteArray → Bool} {Wl RF WR : ByteArray → List ByteArray} {vW vR vP : ByteArray → Value} {t x : ByteArray} {a : Int}

theorem St.nbRow (H : St B nb w0 w c X ob E O Wl RF WR vW vR vP t a x) (o : Nat × ByteArray) : blk vW vR vP o ≠ some nb := fun e => by
  obtain ⟨_, cur, ty, hc, ht⟩ := H.mem.rowsCells e
  rw [H.box] at hc
  rcases ht with rfl | rfl <;> simp [Go.Proofs.Qxb6600445a.box] at hc

/-- the box and what lay below are as they were -/
theorem St.keepers (H : St B nb w0 w c X ob E O Wl RF WR vW vR vP t a x) (hsz : w.heap.size ≤ w'.heap.size) (hos : w'.os = w.os) (htp : w'.tape = w.tape) (hou : w'.output = w.output) (hk : ∀ j, j < B → w'.heap[j]? = w.heap[j]?) : Below B w0 w' :=
  ⟨hos.trans H.bel.os, htp.trans H.bel.tape, hou.trans H.bel.output, Nat.le_trans H.bel.size hsz, fun j hj => (hk j hj).trans (H.bel.block j hj)⟩

/-- it.writes = append(it.writes, t) -/
theorem St.pushW (H : St B nb w0 w c X ob E O Wl RF WR vW vR vP t a x) {y : ByteArray} {b : Nat} (hy : X y = some b) (s : ByteArray) (hc : c < 1000000) :
    ∃ g cap w1, (Builtin.append_ #[39, 39] 39 #[vW y, .slice (some ⟨w.heap.size, 0, none⟩) 1 1]).run Try.prog (w.alloc (.cells #[.string s] 44)) = .ok (.slice (some ⟨g, 0, none⟩) ((Wl y).length + 1) cap) w1 ∧
      w1.cell? ⟨b, 0, none⟩ = some (vW y) ∧ w1.frozen? ⟨b, 0, none⟩ = false ∧
      St B nb w0 (w1.setCell ⟨b, 0, none⟩ (.slice (some ⟨g, 0, none⟩) ((Wl y).length + 1) cap)) (c + 1) X ob E O (up Wl y (Wl y ++ [s])) RF WR (up vW y (.slice (some ⟨g, 0, none⟩) ((Wl y).length + 1) cap)) vR vP t a x := by
  obtain ⟨i0, hi, hz0, hz1, hz2⟩ := info_parts info44
  have hl := (H.mem.lens y).1
  have hs := H.mem.size
  have e1 : (w.alloc (.cells #[.string s] 44)).heap.size = w.heap.size + 1 := by simp
  have hb : Below w.heap.size w (w.alloc (.cells #[.string s] 44)) := (Below.refl _ _).alloc (Nat.le_refl _) _
  have hrow := own_of_block (w' := w.alloc (.cells #[.string s] 44)) (H.mem.rowW y) (fun g hg => hb.block g (by obtain ⟨_, cur, h⟩ := own_block (H.mem.rowW y) hg; exact getElem_lt h))
  obtain ⟨g, cap, w1, hr, hown, hgr, hat, hlt⟩ := run_append_lies (P := Try.prog) (w.alloc (.cells #[.string s] 44)) 39 39 (B + 4) 44 i0 (.string ByteArray.empty) 1 16 Try.underlying39 hi hz0 hz1 hz2 (by rfl) (by decide) (vW y) (Wl y).length (strs (Wl y)) hrow ⟨w.heap.size, 0, none⟩ 1 1 [.string s] (by rfl) (World.news_of_block (heap_alloc_new w _)) (by simp [Value.oneCell']) (by decide) (by unfold maxLen; omega) (by omega) (by omega) _ rfl
  obtain ⟨hbx, _, _, hbB⟩ := H.mem.itm y b hy
  have lb := getElem_lt hbx
  have lnb := getElem_lt H.box
  have bW : (vW y).ownBlock ≠ some b := fun e => by
    obtain ⟨_, cur, hcur⟩ := own_block (H.mem.rowW y) e
    rw [hbx] at hcur; simp [item] at hcur
  have nbW : (vW y).ownBlock ≠ some nb := H.nbRow (0, y)
  have nbb : nb ≠ b := fun e => by
    have := H.box; rw [e, hbx] at this; simp [item, Go.Proofs.Qxb6600445a.box] at this
  have K : ∀ k, k < w.heap.size → (vW y).ownBlock ≠ some k → w1.heap[k]? = w.heap[k]? := fun k hk hne => (hgr.block k (by omega) (fun e => hne e.symm)).trans (hb.block k hk)
  have hb1 : w1.heap[b]? = some (item (vW y) (ob y)) := (K b lb bW).trans hbx
  have hne : g ≠ b := fun e => by
    subst e
    rcases hat with h | h
    · exact bW h
    · omega
  have S : ∀ k, k ≠ b → (w1.setCell ⟨b, 0, none⟩ (.slice (some ⟨g, 0, none⟩) ((Wl y).length + 1) cap)).heap[k]? = w1.heap[k]? := fun k hk => heap_setCell_other w1 ⟨b, 0, none⟩ k _ hk
  refine ⟨g, cap, w1, hr, cell_of_row w1 b 0 _ 67 _ hb1, frozen_of_row w1 b 0 _ 67 hb1, ⟨H.mem.setW y b hy _ _ ?_ ?_ ?_ ?_ (fun k hk h1 h2 => (S k h1).trans (K k hk h2)) (fun g' hg' => ?_), (S nb nbb).trans ((K nb lnb nbW).trans H.box), H.keepers ?_ ?_ ?_ ?_ (fun j hj => (S j (by omega)).trans (K j (by omega) (fun e => by have := (own_block (H.mem.rowW y) e).1; omega)))⟩⟩
  · exact heap_setCell_same w1 b 0 _ 67 _ hb1
  · have := own_of_block (w' := w1.setCell ⟨b, 0, none⟩ (.slice (some ⟨g, 0, none⟩) ((Wl y).length + 1) cap)) hown (fun g' hg' => S g' (by simp [Value.ownBlock] at hg'; omega))
    simpa [strs] using this
  · simp; omega
  · have := hgr.size
    simp
    omega
  · simp [Value.ownBlock] at hg'
    subst hg'
    rcases hat with h | h
    · exact .inl h
    · right; omega
  · have := hgr.size
    simp
    omega
  · exact hgr.os
  · exact hgr.tape
  · exact hgr.output
end
end Go.Proofs.Qxb6600445a
