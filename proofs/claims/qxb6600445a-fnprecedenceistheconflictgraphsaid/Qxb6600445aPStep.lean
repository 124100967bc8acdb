import Derived.Test.Qxb6600445aPMem
namespace Go.Proofs.Qxb6600445a
open Go.RowKit
open Go.Maps (Keyed)
set_option linter.unusedVariables false

def up2 {α : Type} (f : ByteArray → Nat → α) (x : ByteArray) (t : Nat) (v : α) : ByteArray → Nat → α := fun y s => if y = x ∧ s = t then v else f y s
theorem up2_at {α : Type} (f : ByteArray → Nat → α) (x : ByteArray) (t : Nat) (v : α) : up2 f x t v x t = v := by simp [up2]
theorem up2_ne {α : Type} (f : ByteArray → Nat → α) (x : ByteArray) (t : Nat) (v : α) {y : ByteArray} {s : Nat} (h : ¬ (y = x ∧ s = t)) : up2 f x t v y s = f y s := by simp [up2, h]
def upn {α : Type} (f : Nat → α) (t : Nat) (v : α) : Nat → α := fun s => if s = t then v else f s
theorem upn_at {α : Type} (f : Nat → α) (t : Nat) (v : α) : upn f t v t = v := by simp [upn]
theorem upn_ne {α : Type} (f : Nat → α) (t : Nat) (v : α) {s : Nat} (h : s ≠ t) : upn f t v s = f s := by simp [upn, h]

section
variable {base : Nat} {w0 w w' : World} {G : Gh}

theorem alloc_below (w : World) (ob : Obj) : Below w.heap.size w (w.alloc ob) := (Below.refl _ _).alloc (Nat.le_refl _) _

theorem HM.setBox (H : HM base w0 w G) (ob : Obj) : HM base w0 (w.alloc ob) { G with kB := some w.heap.size, bx := ob } := by
  have hb := alloc_below w ob
  refine H.step (· = .box) hb.size hb.os hb.tape hb.output (fun b hlt _ => hb.block b hlt) (fun o ho => ?_) (fun o b ho hob h => ?_) (fun o b ho hob => ?_) (fun o o' b h1 h2 _ _ _ => by rw [h1, h2]) H.nilW H.nilA H.nilU H.len H.lenS
  · cases o <;> first | rfl | exact absurd rfl ho
  · cases o <;> first | exact h | exact absurd rfl ho
  · subst ho
    have : w.heap.size = b := by simpa [bk] using hob
    subst this
    exact ⟨H.base_le, by simp, heap_alloc_new _ _, .inr (Nat.le_refl _)⟩

theorem HM.newItem (H : HM base w0 w G) {x : ByteArray} (hxl : x.size ≤ maxLen) (hX : G.X x = none) (hW : G.vW x = nilS) (hA : G.vA x = nilS) (hAA : ∀ t, G.A x t = none) (hc : G.c < 1000000) :
    ∃ w', (Instr.mapUpdate 69 (.map (some G.kI)) (.string x) (pt (w.heap.size + 1))).run Try.prog ((w.alloc (.map #[] 0)).alloc (itemO nilS nilS w.heap.size)) = .ok () w' ∧
      HM base w0 w' { G with X := up G.X x (some (w.heap.size + 1)), Bb := up G.Bb x w.heap.size, c := G.c + 1 } := by
  obtain ⟨hB, hlt, n, hn, h⟩ := H.live .items _ rfl
  have e1 : (w.alloc (.map #[] 0)).heap.size = w.heap.size + 1 := by simp
  have hb : Below w.heap.size w ((w.alloc (.map #[] 0)).alloc (itemO nilS nilS w.heap.size)) := ((Below.refl _ _).alloc (Nat.le_refl _) _).alloc (by simp) _
  have h' := h.of_block (hb.block _ h.lt)
  obtain ⟨w', hr, hF, hT⟩ := h'.put law9 Try.underlying69 (by unfold maxLen; omega) (val := pt (w.heap.size + 1)) (key9 hxl) (keyF (up (fun x => (G.X x).map pt) x (some (pt (w.heap.size + 1))))) (keyF_up _ _ _).1 (keyF_up _ _ _).2
  have Gr := hT.grown
  have i1 : ((w.alloc (.map #[] 0)).alloc (itemO nilS nilS w.heap.size)).heap[w.heap.size + 1]? = some (itemO nilS nilS w.heap.size) := by rw [← e1]; exact heap_alloc_new _ _
  have i2 : ((w.alloc (.map #[] 0)).alloc (itemO nilS nilS w.heap.size)).heap[w.heap.size]? = some (.map #[] 0) := by
    rw [Below.heap_alloc _ _ _ (by rw [e1]; omega)]; exact heap_alloc_new _ _
  have k : ∀ k, k < ((w.alloc (.map #[] 0)).alloc (itemO nilS nilS w.heap.size)).heap.size → k ≠ G.kI → w'.heap[k]? = ((w.alloc (.map #[] 0)).alloc (itemO nilS nilS w.heap.size)).heap[k]? := fun k hk hne => Gr.block k hk (by simp; omega)
  have l1 := getElem_lt i1
  have l2 := getElem_lt i2
  have hgs := Gr.size
  refine ⟨w', hr, H.step (fun o => o = .items ∨ o = .item x ∨ o = .by_ x) (Nat.le_trans hb.size Gr.size) (Gr.os.trans hb.os) (Gr.tape.trans hb.tape) (Gr.output.trans hb.output) (fun b hbl hno => (k b (Nat.lt_of_lt_of_le hbl hb.size) (fun e => hno .items (.inl rfl) (by rw [e]; rfl))).trans (hb.block b hbl)) (fun o ho => ?_) (fun o b ho hob h => ?_) (fun o b ho hob => ?_) (fun o o' b h1 h2 hbn hb1 hb2 => ?_) H.nilW H.nilA H.nilU (fun y => by have := H.len y; simp; omega) H.lenS⟩
  · cases o with
    | item y => exact up_ne _ _ _ _ (fun e => ho (.inr (.inl (by rw [e]))))
    | by_ y =>
      have e : y ≠ x := fun e => ho (.inr (.inr (by rw [e])))
      simp only [bk, up_ne _ _ _ _ e]
    | _ => rfl
  · cases o with
    | items => exact absurd (.inl rfl) ho
    | item y =>
      have e : y ≠ x := fun e => ho (.inr (.inl (by rw [e])))
      simp only [Pr, up_ne _ _ _ _ e] at h ⊢
      exact h
    | by_ y =>
      obtain ⟨n, h1, h2⟩ := h
      exact ⟨n, Nat.le_succ_of_le h1, h2⟩
    | _ => exact h
  · rcases ho with rfl | rfl | rfl
    · have : G.kI = b := by simpa [bk] using hob
      subst this
      refine ⟨hB, Nat.lt_of_lt_of_le hlt (Nat.le_trans hb.size Gr.size), ⟨(if (keyF (fun x => Option.map pt (G.X x)) (kl x)).isSome = true then n else n + 1), ?_, ?_⟩, .inl rfl⟩
      · simp only; split <;> omega
      · have e : (up (fun x => (G.X x).map pt) x (some (pt (w.heap.size + 1))) : ByteArray → Option Value) = fun y => (up G.X x (some (w.heap.size + 1)) y).map pt := by
          funext y
          unfold up
          split <;> rfl
        rw [e] at hF
        exact hF
    · have : w.heap.size + 1 = b := by simpa [bk, up_at] using hob
      subst this
      refine ⟨by have := H.base_le; omega, by omega, ?_, .inr (by omega)⟩
      show w'.heap[w.heap.size + 1]? = some (itemO (G.vW x) (G.vA x) (up G.Bb x w.heap.size x))
      rw [up_at, hW, hA]
      exact (k _ l1 (by omega)).trans i1
    · have : w.heap.size = b := by simpa [bk, up_at] using hob
      subst this
      refine ⟨H.base_le, by omega, ⟨0, Nat.zero_le _, ?_⟩, .inr (Nat.le_refl _)⟩
      have e : (intF fun t => (G.A x t).map pt) = fun _ => none := by
        rw [← intF_none]
        congr 1
        funext t
        rw [hAA]; rfl
      show mapF w' Try.prog 3 w.heap.size 0 (intF fun t => (G.A x t).map pt)
      rw [e]
      exact mapF_empty ((k _ l2 (by omega)).trans i2)
  · have z1 : bk { G with X := up G.X x (some (w.heap.size + 1)), Bb := up G.Bb x w.heap.size, c := G.c + 1 } .items = some G.kI := rfl
    have z2 : bk { G with X := up G.X x (some (w.heap.size + 1)), Bb := up G.Bb x w.heap.size, c := G.c + 1 } (.item x) = some (w.heap.size + 1) := up_at _ _ _
    have z3 : bk { G with X := up G.X x (some (w.heap.size + 1)), Bb := up G.Bb x w.heap.size, c := G.c + 1 } (.by_ x) = some w.heap.size := by simp [bk, up_at]
    rcases h1 with rfl | rfl | rfl <;> rcases h2 with rfl | rfl | rfl <;> first | rfl | (exfalso; (first | rw [z1] at hb1 | rw [z2] at hb1 | rw [z3] at hb1); (first | rw [z1] at hb2 | rw [z2] at hb2 | rw [z3] at hb2); injection hb1 with hb1; injection hb2 with hb2; omega)

theorem HM.newAcc (H : HM base w0 w G) {x : ByteArray} {b t : Nat} (hx : G.X x = some b) (ht : t < 65536) (hA : G.A x t = none) (h0 : G.d0 x t = 0) (h1 : G.d1 x t = 0) (hw : G.wo x t = false) (hc : G.c < 1000000) :
    ∃ w', (Instr.mapUpdate 74 (.map (some (G.Bb x))) (.int .i64 (t : Nat)) (pt w.heap.size)).run Try.prog (w.alloc (accO 0 0 false)) = .ok () w' ∧
      HM base w0 w' { G with A := up2 G.A x t (some w.heap.size), c := G.c + 1 } := by
  obtain ⟨hB, hlt, n, hn, h⟩ := H.live (.by_ x) (G.Bb x) (by simp [bk, hx])
  have hb := alloc_below w (accO 0 0 false)
  have h' := h.of_block (hb.block _ h.lt)
  obtain ⟨w', hr, hF, hT⟩ := h'.put law3 Try.underlying74 (by unfold maxLen; omega) (val := pt w.heap.size) (key3 ht) (intF fun s => (up2 G.A x t (some w.heap.size) x s).map pt) (by rw [intF_at, up2_at]; rfl) (intF_ne _ _ t (fun s hs => by rw [up2_ne _ _ _ _ (fun h => hs h.2)]))
  have Gr := hT.grown
  have i1 : (w.alloc (accO 0 0 false)).heap[w.heap.size]? = some (accO 0 0 false) := heap_alloc_new _ _
  have k : ∀ k, k < (w.alloc (accO 0 0 false)).heap.size → k ≠ G.Bb x → w'.heap[k]? = (w.alloc (accO 0 0 false)).heap[k]? := fun k hk hne => Gr.block k hk (by simp; omega)
  have l1 := getElem_lt i1
  have hgs := Gr.size
  have zb : bk G (.by_ x) = some (G.Bb x) := by simp [bk, hx]
  refine ⟨w', hr, H.step (fun o => o = .by_ x ∨ o = .acc x t) (Nat.le_trans hb.size Gr.size) (Gr.os.trans hb.os) (Gr.tape.trans hb.tape) (Gr.output.trans hb.output) (fun b hbl hno => (k b (Nat.lt_of_lt_of_le hbl hb.size) (fun e => hno (.by_ x) (.inl rfl) (by rw [e]; exact zb))).trans (hb.block b hbl)) (fun o ho => ?_) (fun o b ho hob h => ?_) (fun o b' ho hob => ?_) (fun o o' b' h1 h2 hbn hb1 hb2 => ?_) H.nilW H.nilA H.nilU (fun y => by have := H.len y; simp; omega) H.lenS⟩
  · cases o with
    | acc y s => exact up2_ne _ _ _ _ (fun e => ho (.inr (by rw [e.1, e.2])))
    | _ => rfl
  · cases o with
    | items =>
      obtain ⟨n, h1, h2⟩ := h
      exact ⟨n, Nat.le_succ_of_le h1, h2⟩
    | by_ y =>
      have e : y ≠ x := fun e => ho (.inl (by rw [e]))
      obtain ⟨n, h1, h2⟩ := h
      refine ⟨n, Nat.le_succ_of_le h1, ?_⟩
      have e2 : (fun s => (up2 G.A x t (some w.heap.size) y s).map pt) = fun s => (G.A y s).map pt := by
        funext s
        rw [up2_ne _ _ _ _ (fun h => e h.1)]
      show mapF w' Try.prog 3 b n (intF fun s => (up2 G.A x t (some w.heap.size) y s).map pt)
      rw [e2]
      exact h2
    | _ => exact h
  · rcases ho with rfl | rfl
    · have : G.Bb x = b' := by
        have : some (G.Bb x) = some b' := zb.symm.trans hob
        injection this
      subst this
      refine ⟨hB, Nat.lt_of_lt_of_le hlt (Nat.le_trans hb.size Gr.size), ⟨_, ?_, hF⟩, .inl zb⟩
      show _ ≤ G.c + 1
      split <;> omega
    · have : w.heap.size = b' := by
        have : some w.heap.size = some b' := (up2_at _ _ _ _).symm.trans hob
        injection this
      subst this
      refine ⟨H.base_le, by omega, ?_, .inr (Nat.le_refl _)⟩
      show w'.heap[w.heap.size]? = some (accO (G.d0 x t) (G.d1 x t) (G.wo x t))
      rw [h0, h1, hw]
      exact (k _ l1 (by omega)).trans i1
  · have z1 : bk { G with A := up2 G.A x t (some w.heap.size), c := G.c + 1 } (.by_ x) = some (G.Bb x) := zb
    have z2 : bk { G with A := up2 G.A x t (some w.heap.size), c := G.c + 1 } (.acc x t) = some w.heap.size := up2_at _ _ _ _
    rcases h1 with rfl | rfl <;> rcases h2 with rfl | rfl <;> first | rfl | (exfalso; (first | rw [z1] at hb1 | rw [z2] at hb1); (first | rw [z1] at hb2 | rw [z2] at hb2); injection hb1 with hb1; injection hb2 with hb2; omega)

theorem info3' : (Try.prog.info? 3).map (fun i => (i.zero, i.size, i.bytes)) = some (some (.int .i64 0), 1, 8) := by kernel_rfl

/-- append(row, t), whoever owns the row -/
theorem push_row {v : Value} {l : List Nat} (hb : base ≤ w.heap.size) (hrow : w.ownsRow base 3 1 v l.length (ints l)) (hl : l.length < 1000000000000) (t : Nat) :
    ∃ g cap w1, (Builtin.append_ #[42, 42] 42 #[v, .slice (some ⟨w.heap.size, 0, none⟩) 1 1]).run Try.prog (w.alloc (.cells #[.int .i64 (t : Nat)] 3)) = .ok (.slice (some ⟨g, 0, none⟩) (l.length + 1) cap) w1 ∧
      w1.ownsRow base 3 1 (.slice (some ⟨g, 0, none⟩) (l.length + 1) cap) (l ++ [t]).length (ints (l ++ [t])) ∧ (v.ownBlock = some g ∨ w.heap.size ≤ g) ∧ base ≤ g ∧ g < w1.heap.size ∧ w.heap.size ≤ w1.heap.size ∧
      (∀ k, k < w.heap.size → v.ownBlock ≠ some k → w1.heap[k]? = w.heap[k]?) ∧ w1.os = w.os ∧ w1.tape = w.tape ∧ w1.output = w.output := by
  obtain ⟨i0, hi, hz0, hz1, hz2⟩ := infoParts info3'
  have e1 : (w.alloc (.cells #[.int .i64 (t : Nat)] 3)).heap.size = w.heap.size + 1 := by simp
  have hbl := alloc_below w (.cells #[.int .i64 (t : Nat)] 3)
  have hrow' := own_of_block (w' := w.alloc (.cells #[.int .i64 (t : Nat)] 3)) hrow (fun g hg => hbl.block g (by obtain ⟨_, cur, h⟩ := own_block hrow hg; exact getElem_lt h))
  obtain ⟨g, cap, w1, hr, hown, hgr, hat, hlt⟩ := run_append_lies (P := Try.prog) (w.alloc (.cells #[.int .i64 (t : Nat)] 3)) 42 42 base 3 i0 (.int .i64 0) 1 8 Try.underlying42 hi hz0 hz1 hz2 (by rfl) (by decide) v l.length (ints l) hrow' ⟨w.heap.size, 0, none⟩ 1 1 [.int .i64 (t : Nat)] (by rfl) (World.news_of_block (heap_alloc_new w _)) (by simp [Value.oneCell']) (by decide) (by unfold maxLen; omega) (by omega) (by omega) _ rfl
  have hs := hgr.size
  have hg : base ≤ g := (own_block hown (g := g) rfl).1
  refine ⟨g, cap, w1, hr, ?_, ?_, hg, hlt, by omega, fun k hk hne => (hgr.block k (by omega) (fun e => hne e.symm)).trans (hbl.block k hk), hgr.os, hgr.tape, hgr.output⟩
  · simpa [ints] using hown
  · rcases hat with h | h
    · exact .inl h
    · right; omega

theorem own_slice {g n c : Nat} : (Value.slice (some ⟨g, 0, none⟩) n c).ownBlock = some g := rfl

/-- it.accessors = append(it.accessors, t) -/
theorem HM.pushA (H : HM base w0 w G) {x : ByteArray} {b : Nat} (hx : G.X x = some b) (t : Nat) (hc : G.c < 1000000) :
    ∃ g cap w1, (Builtin.append_ #[42, 42] 42 #[G.vA x, .slice (some ⟨w.heap.size, 0, none⟩) 1 1]).run Try.prog (w.alloc (.cells #[.int .i64 (t : Nat)] 3)) = .ok (.slice (some ⟨g, 0, none⟩) ((G.Al x).length + 1) cap) w1 ∧
      w1.cell? ⟨b, 1, none⟩ = some (G.vA x) ∧ w1.frozen? ⟨b, 1, none⟩ = false ∧
      HM base w0 (w1.setCell ⟨b, 1, none⟩ (.slice (some ⟨g, 0, none⟩) ((G.Al x).length + 1) cap)) { G with Al := up G.Al x (G.Al x ++ [t]), vA := up G.vA x (.slice (some ⟨g, 0, none⟩) ((G.Al x).length + 1) cap), c := G.c + 1 } := by
  obtain ⟨g, cap, w1, hr, hown, hat, hbg, hlt, hs, K, o1, o2, o3⟩ := push_row H.base_le (H.rowAc x) (by have := (H.len x).2; omega) t
  obtain ⟨hB, lb, hbx⟩ := H.live (.item x) b hx
  have bne : (G.vA x).ownBlock ≠ some b := fun e => by
    have := H.inj (.ac x) (.item x) b e hx
    cases this
  have hb1 : w1.heap[b]? = some (itemO (G.vW x) (G.vA x) (G.Bb x)) := (K b lb bne).trans hbx
  have hne : g ≠ b := fun e => by
    subst e
    rcases hat with h | h
    · exact bne h
    · omega
  generalize hv : Value.slice (some ⟨g, 0, none⟩) ((G.Al x).length + 1) cap = v' at *
  have hvo : v'.ownBlock = some g := by rw [← hv]; rfl
  have Sx : ∀ k, k ≠ b → (w1.setCell ⟨b, 1, none⟩ v').heap[k]? = w1.heap[k]? := fun k hk => heap_setCell_other w1 ⟨b, 1, none⟩ k _ hk
  have ssz : (w1.setCell ⟨b, 1, none⟩ v').heap.size = w1.heap.size := by simp
  refine ⟨g, cap, w1, by rw [hv]; exact hr, cell_of_row w1 b 1 _ 76 _ hb1, frozen_of_row w1 b 1 _ 76 hb1, ?_⟩
  rw [hv]
  refine H.step (fun o => o = .ac x ∨ o = .item x) (by omega) o1 o2 o3 (fun k hk hno => (Sx k (fun e => hno (.item x) (.inr rfl) (by rw [e]; exact hx))).trans (K k hk (hno (.ac x) (.inl rfl)))) (fun o ho => ?_) (fun o b ho hob h => ?_) (fun o b' ho hob => ?_) (fun o o' b' h1 h2 hbn hb1 hb2 => ?_) H.nilW (fun y => ?_) H.nilU (fun y => ?_) H.lenS
  · cases o with
    | ac y =>
      have e : y ≠ x := fun e => ho (.inl (by rw [e]))
      simp only [bk, up_ne _ _ _ _ e]
    | _ => rfl
  · cases o with
    | items =>
      obtain ⟨n, h1, h2⟩ := h
      exact ⟨n, Nat.le_succ_of_le h1, h2⟩
    | by_ y =>
      obtain ⟨n, h1, h2⟩ := h
      exact ⟨n, Nat.le_succ_of_le h1, h2⟩
    | ac y =>
      have e : y ≠ x := fun e => ho (.inl (by rw [e]))
      simp only [Pr, up_ne _ _ _ _ e] at h ⊢
      exact h
    | item y =>
      have e : y ≠ x := fun e => ho (.inr (by rw [e]))
      simp only [Pr, up_ne _ _ _ _ e] at h ⊢
      exact h
    | _ => exact h
  · rcases ho with rfl | rfl
    · have : g = b' := by
        have : some g = some b' := by rw [← hvo, ← hob]; simp [bk, up_at]
        injection this
      subst this
      refine ⟨hbg, by omega, ?_, hat⟩
      show (w1.setCell ⟨b, 1, none⟩ v').ownsRow base 3 1 (up G.vA x v' x) (up G.Al x (G.Al x ++ [t]) x).length (ints (up G.Al x (G.Al x ++ [t]) x))
      rw [up_at, up_at]
      exact own_of_block hown (fun g' hg' => Sx g' (by rw [hvo] at hg'; cases hg'; exact hne))
    · have : b = b' := by
        have : some b = some b' := hx.symm.trans hob
        injection this
      subst this
      refine ⟨hB, by omega, ?_, .inl hx⟩
      show (w1.setCell ⟨b, 1, none⟩ v').heap[b]? = some (itemO (G.vW x) (up G.vA x v' x) (G.Bb x))
      rw [up_at]
      exact heap_setCell_same w1 b 1 _ 76 _ hb1
  · rcases h1 with rfl | rfl <;> rcases h2 with rfl | rfl <;> first | rfl | (exfalso; first | (have : some b = some b' := hx.symm.trans hb1; injection this with this; omega) | (have : some b = some b' := hx.symm.trans hb2; injection this with this; omega))
  · by_cases e : y = x
    · subst e
      show NilOk (up G.vA y v' y) _
      rw [up_at]
      intro h
      rw [hvo] at h; cases h
    · show NilOk (up G.vA x v' y) (up G.Al x (G.Al x ++ [t]) y)
      rw [up_ne _ _ _ _ e, up_ne _ _ _ _ e]
      exact H.nilA y
  · have := H.len y
    show (G.Wl y).length ≤ G.c + 1 ∧ (up G.Al x (G.Al x ++ [t]) y).length ≤ G.c + 1
    by_cases e : y = x
    · subst e; rw [up_at]; simp; omega
    · rw [up_ne _ _ _ _ e]; omega
/-- it.writers = append(it.writers, t) -/
theorem HM.pushW (H : HM base w0 w G) {x : ByteArray} {b : Nat} (hx : G.X x = some b) (t : Nat) (hc : G.c < 1000000) :
    ∃ g cap w1, (Builtin.append_ #[42, 42] 42 #[G.vW x, .slice (some ⟨w.heap.size, 0, none⟩) 1 1]).run Try.prog (w.alloc (.cells #[.int .i64 (t : Nat)] 3)) = .ok (.slice (some ⟨g, 0, none⟩) ((G.Wl x).length + 1) cap) w1 ∧
      w1.cell? ⟨b, 0, none⟩ = some (G.vW x) ∧ w1.frozen? ⟨b, 0, none⟩ = false ∧
      HM base w0 (w1.setCell ⟨b, 0, none⟩ (.slice (some ⟨g, 0, none⟩) ((G.Wl x).length + 1) cap)) { G with Wl := up G.Wl x (G.Wl x ++ [t]), vW := up G.vW x (.slice (some ⟨g, 0, none⟩) ((G.Wl x).length + 1) cap), c := G.c + 1 } := by
  obtain ⟨g, cap, w1, hr, hown, hat, hbg, hlt, hs, K, o1, o2, o3⟩ := push_row H.base_le (H.rowW x) (by have := (H.len x).1; omega) t
  obtain ⟨hB, lb, hbx⟩ := H.live (.item x) b hx
  have bne : (G.vW x).ownBlock ≠ some b := fun e => by
    have := H.inj (.wr x) (.item x) b e hx
    cases this
  have hb1 : w1.heap[b]? = some (itemO (G.vW x) (G.vA x) (G.Bb x)) := (K b lb bne).trans hbx
  have hne : g ≠ b := fun e => by
    subst e
    rcases hat with h | h
    · exact bne h
    · omega
  generalize hv : Value.slice (some ⟨g, 0, none⟩) ((G.Wl x).length + 1) cap = v' at *
  have hvo : v'.ownBlock = some g := by rw [← hv]; rfl
  have Sx : ∀ k, k ≠ b → (w1.setCell ⟨b, 0, none⟩ v').heap[k]? = w1.heap[k]? := fun k hk => heap_setCell_other w1 ⟨b, 0, none⟩ k _ hk
  have ssz : (w1.setCell ⟨b, 0, none⟩ v').heap.size = w1.heap.size := by simp
  refine ⟨g, cap, w1, by rw [hv]; exact hr, cell_of_row w1 b 0 _ 76 _ hb1, frozen_of_row w1 b 0 _ 76 hb1, ?_⟩
  rw [hv]
  refine H.step (fun o => o = .wr x ∨ o = .item x) (by omega) o1 o2 o3 (fun k hk hno => (Sx k (fun e => hno (.item x) (.inr rfl) (by rw [e]; exact hx))).trans (K k hk (hno (.wr x) (.inl rfl)))) (fun o ho => ?_) (fun o b ho hob h => ?_) (fun o b' ho hob => ?_) (fun o o' b' h1 h2 hbn hb1 hb2 => ?_) (fun y => ?_) H.nilA H.nilU (fun y => ?_) H.lenS
  · cases o with
    | wr y =>
      have e : y ≠ x := fun e => ho (.inl (by rw [e]))
      simp only [bk, up_ne _ _ _ _ e]
    | _ => rfl
  · cases o with
    | items =>
      obtain ⟨n, h1, h2⟩ := h
      exact ⟨n, Nat.le_succ_of_le h1, h2⟩
    | by_ y =>
      obtain ⟨n, h1, h2⟩ := h
      exact ⟨n, Nat.le_succ_of_le h1, h2⟩
    | wr y =>
      have e : y ≠ x := fun e => ho (.inl (by rw [e]))
      simp only [Pr, up_ne _ _ _ _ e] at h ⊢
      exact h
    | item y =>
      have e : y ≠ x := fun e => ho (.inr (by rw [e]))
      simp only [Pr, up_ne _ _ _ _ e] at h ⊢
      exact h
    | _ => exact h
  · rcases ho with rfl | rfl
    · have : g = b' := by
        have : some g = some b' := by rw [← hvo, ← hob]; simp [bk, up_at]
        injection this
      subst this
      refine ⟨hbg, by omega, ?_, hat⟩
      show (w1.setCell ⟨b, 0, none⟩ v').ownsRow base 3 1 (up G.vW x v' x) (up G.Wl x (G.Wl x ++ [t]) x).length (ints (up G.Wl x (G.Wl x ++ [t]) x))
      rw [up_at, up_at]
      exact own_of_block hown (fun g' hg' => Sx g' (by rw [hvo] at hg'; cases hg'; exact hne))
    · have : b = b' := by
        have : some b = some b' := hx.symm.trans hob
        injection this
      subst this
      refine ⟨hB, by omega, ?_, .inl hx⟩
      show (w1.setCell ⟨b, 0, none⟩ v').heap[b]? = some (itemO (up G.vW x v' x) (G.vA x) (G.Bb x))
      rw [up_at]
      exact heap_setCell_same w1 b 0 _ 76 _ hb1
  · rcases h1 with rfl | rfl <;> rcases h2 with rfl | rfl <;> first | rfl | (exfalso; first | (have : some b = some b' := hx.symm.trans hb1; injection this with this; omega) | (have : some b = some b' := hx.symm.trans hb2; injection this with this; omega))
  · by_cases e : y = x
    · subst e
      show NilOk (up G.vW y v' y) _
      rw [up_at]
      intro h
      rw [hvo] at h; cases h
    · show NilOk (up G.vW x v' y) (up G.Wl x (G.Wl x ++ [t]) y)
      rw [up_ne _ _ _ _ e, up_ne _ _ _ _ e]
      exact H.nilW y
  · have := H.len y
    show (up G.Wl x (G.Wl x ++ [t]) y).length ≤ G.c + 1 ∧ (G.Al y).length ≤ G.c + 1
    by_cases e : y = x
    · subst e; rw [up_at]; simp; omega
    · rw [up_ne _ _ _ _ e]; omega

theorem HM.setD (H : HM base w0 w G) {x : ByteArray} {t b : Nat} (hx : G.A x t = some b) (i : Nat) (v : Value) (D0 D1 : ByteArray → Nat → Nat) (WO : ByteArray → Nat → Bool)
    (ho : ∀ y s, ¬ (y = x ∧ s = t) → D0 y s = G.d0 y s ∧ D1 y s = G.d1 y s ∧ WO y s = G.wo y s)
    (hv : (#[Value.int .i64 (G.d0 x t : Nat), .int .i64 (G.d1 x t : Nat), .bool (G.wo x t)] : Array Value).setIfInBounds i v = #[.int .i64 (D0 x t : Nat), .int .i64 (D1 x t : Nat), .bool (WO x t)]) :
    HM base w0 (w.setCell ⟨b, i, none⟩ v) { G with d0 := D0, d1 := D1, wo := WO } := by
  obtain ⟨hB, lb, hbx⟩ := H.live (.acc x t) b hx
  have Sx : ∀ k, k ≠ b → (w.setCell ⟨b, i, none⟩ v).heap[k]? = w.heap[k]? := fun k hk => heap_setCell_other w ⟨b, i, none⟩ k _ hk
  have ssz : (w.setCell ⟨b, i, none⟩ v).heap.size = w.heap.size := by simp
  refine H.step (fun o => o = .acc x t) (by omega) rfl rfl rfl (fun k hk hno => Sx k (fun e => hno (.acc x t) rfl (by rw [e]; exact hx))) (fun o ho' => ?_) (fun o b ho' hob h => ?_) (fun o b' ho' hob => ?_) (fun o o' b' h1 h2 _ _ _ => by rw [h1, h2]) H.nilW H.nilA H.nilU H.len H.lenS
  · cases o <;> rfl
  · cases o with
    | acc y s =>
      obtain ⟨e1, e2, e3⟩ := ho y s (fun e => ho' (by rw [e.1, e.2]))
      show _ = some (accO (D0 y s) (D1 y s) (WO y s))
      rw [e1, e2, e3]
      exact h
    | _ => exact h
  · subst ho'
    have : b = b' := by
      have : some b = some b' := hx.symm.trans hob
      injection this
    subst this
    refine ⟨hB, by omega, ?_, .inl hx⟩
    show (w.setCell ⟨b, i, none⟩ v).heap[b]? = some (accO (D0 x t) (D1 x t) (WO x t))
    have := heap_setCell_same w b i _ 80 v hbx
    rw [hv] at this
    exact this

theorem HM.setD0 (H : HM base w0 w G) {x : ByteArray} {t b : Nat} (hx : G.A x t = some b) (n : Nat) : HM base w0 (w.setCell ⟨b, 0, none⟩ (.int .i64 (n : Nat))) { G with d0 := up2 G.d0 x t n } :=
  H.setD hx 0 _ (up2 G.d0 x t n) G.d1 G.wo (fun y s h => ⟨up2_ne _ _ _ _ h, rfl, rfl⟩) (by rw [up2_at]; rfl)
theorem HM.setD1 (H : HM base w0 w G) {x : ByteArray} {t b : Nat} (hx : G.A x t = some b) (n : Nat) : HM base w0 (w.setCell ⟨b, 1, none⟩ (.int .i64 (n : Nat))) { G with d1 := up2 G.d1 x t n } :=
  H.setD hx 1 _ G.d0 (up2 G.d1 x t n) G.wo (fun y s h => ⟨rfl, up2_ne _ _ _ _ h, rfl⟩) (by rw [up2_at]; rfl)
theorem HM.setWo (H : HM base w0 w G) {x : ByteArray} {t b : Nat} (hx : G.A x t = some b) (n : Bool) : HM base w0 (w.setCell ⟨b, 2, none⟩ (.bool n)) { G with wo := up2 G.wo x t n } :=
  H.setD hx 2 _ G.d0 G.d1 (up2 G.wo x t n) (fun y s h => ⟨rfl, rfl, up2_ne _ _ _ _ h⟩) (by rw [up2_at]; rfl)

/-- g.edges[e] = struct{}{} -/
theorem HM.putEdge (H : HM base w0 w G) {u v : Nat} (hu : u < 65536) (hv : v < 65536) (hc : G.e < 1000000000000) :
    ∃ w', (Instr.mapUpdate 55 (.map (some G.kE)) (arc u v) (.agg #[])).run Try.prog w = .ok () w' ∧ HM base w0 w' { G with Es := fun a b => G.Es a b || (a == u && b == v), e := G.e + 1 } := by
  obtain ⟨hB, hlt, n, hn, h⟩ := H.live .edges _ rfl
  obtain ⟨w', hr, hF, hT⟩ := h.put law83 Try.underlying55 (by unfold maxLen; omega) (val := .agg #[]) (key83 hu hv) (arcF fun a b => G.Es a b = true ∨ (a = u ∧ b = v)) (arcF_put hu hv).1 (arcF_put hu hv).2
  have Gr := hT.grown
  have hgs := Gr.size
  refine ⟨w', hr, H.step (fun o => o = .edges) hgs Gr.os Gr.tape Gr.output (fun b hbl hno => Gr.block b hbl (fun e => hno .edges rfl (by rw [e]; rfl))) (fun o ho => ?_) (fun o b ho hob h => ?_) (fun o b' ho hob => ?_) (fun o o' b' h1 h2 _ _ _ => by rw [h1, h2]) H.nilW H.nilA H.nilU H.len (fun y => by have := H.lenS y; simp; omega)⟩
  · cases o <;> rfl
  · cases o <;> first | exact absurd rfl ho | exact h
  · subst ho
    have : G.kE = b' := by
      have : some G.kE = some b' := hob
      injection this
    subst this
    refine ⟨hB, by omega, ⟨(if (arcF (fun u v => G.Es u v = true) (alit u v)).isSome = true then n else n + 1), ?_, ?_⟩, .inl rfl⟩
    rotate_left
    · have e : (fun a b => G.Es a b = true ∨ (a = u ∧ b = v)) = fun a b => (G.Es a b || (a == u && b == v)) = true := by
        funext a b
        simp
      rw [e] at hF
      exact hF
    · show _ ≤ G.e + 1
      split <;> omega

/-- g.succ[u] = append(g.succ[u], t) -/
theorem HM.pushS (H : HM base w0 w G) {u : Nat} (hu : u < G.m) (t : Nat) (hc : G.e < 900000000000) :
    ∃ g cap w1, (Builtin.append_ #[42, 42] 42 #[G.sv u, .slice (some ⟨w.heap.size, 0, none⟩) 1 1]).run Try.prog (w.alloc (.cells #[.int .i64 (t : Nat)] 3)) = .ok (.slice (some ⟨g, 0, none⟩) ((G.Sl u).length + 1) cap) w1 ∧
      w1.cell? ⟨G.kS, u, none⟩ = some (G.sv u) ∧ w1.frozen? ⟨G.kS, u, none⟩ = false ∧ w1.cell? ⟨G.kG, 0, none⟩ = some (.slice (some ⟨G.kS, 0, none⟩) G.m G.m) ∧
      HM base w0 (w1.setCell ⟨G.kS, u, none⟩ (.slice (some ⟨g, 0, none⟩) ((G.Sl u).length + 1) cap)) { G with Sl := upn G.Sl u (G.Sl u ++ [t]), sv := upn G.sv u (.slice (some ⟨g, 0, none⟩) ((G.Sl u).length + 1) cap), e := G.e + 1 } := by
  obtain ⟨g, cap, w1, hr, hown, hat, hbg, hlt, hs, K, o1, o2, o3⟩ := push_row H.base_le (H.rowS u) (by have := H.lenS u; omega) t
  obtain ⟨hB, lb, hbx⟩ := H.live .succ G.kS rfl
  obtain ⟨_, lg, hgx⟩ := H.live .graph G.kG rfl
  have bne : (G.sv u).ownBlock ≠ some G.kS := fun e => by
    have := H.inj (.sl u) .succ G.kS e rfl
    cases this
  have gne : (G.sv u).ownBlock ≠ some G.kG := fun e => by
    have := H.inj (.sl u) .graph G.kG e rfl
    cases this
  have hb1 : w1.heap[G.kS]? = some (.cells (rowA G.m G.sv) 42 (0, 0)) := (K _ lb bne).trans hbx
  have hg1 : w1.heap[G.kG]? = some (graphO G.kS G.m G.kE) := (K _ lg gne).trans hgx
  have hne : g ≠ G.kS := fun e => by
    subst e
    rcases hat with h | h
    · exact bne h
    · omega
  generalize hv : Value.slice (some ⟨g, 0, none⟩) ((G.Sl u).length + 1) cap = v' at *
  have hvo : v'.ownBlock = some g := by rw [← hv]; rfl
  have Sx : ∀ k, k ≠ G.kS → (w1.setCell ⟨G.kS, u, none⟩ v').heap[k]? = w1.heap[k]? := fun k hk => heap_setCell_other w1 ⟨G.kS, u, none⟩ k _ hk
  have ssz : (w1.setCell ⟨G.kS, u, none⟩ v').heap.size = w1.heap.size := by simp
  refine ⟨g, cap, w1, by rw [hv]; exact hr, by rw [cell_of_row w1 G.kS u _ 42 _ hb1]; exact rowA_at hu, frozen_of_row w1 G.kS u _ 42 hb1, cell_of_row w1 G.kG 0 _ 57 _ hg1, ?_⟩
  rw [hv]
  refine H.step (fun o => o = .sl u ∨ o = .succ) (by omega) o1 o2 o3 (fun k hk hno => (Sx k (fun e => hno .succ (.inr rfl) (by rw [e]; rfl))).trans (K k hk (hno (.sl u) (.inl rfl)))) (fun o ho => ?_) (fun o b ho hob h => ?_) (fun o b' ho hob => ?_) (fun o o' b' h1 h2 hbn hb1 hb2 => ?_) H.nilW H.nilA (fun y => ?_) H.len (fun y => ?_)
  · cases o with
    | sl y =>
      have e : y ≠ u := fun e => ho (.inl (by rw [e]))
      simp only [bk, upn_ne _ _ _ e]
    | _ => rfl
  · cases o with
    | edges =>
      obtain ⟨n, h1, h2⟩ := h
      exact ⟨n, Nat.le_succ_of_le h1, h2⟩
    | sl y =>
      have e : y ≠ u := fun e => ho (.inl (by rw [e]))
      simp only [Pr, upn_ne _ _ _ e] at h ⊢
      exact h
    | succ => exact absurd (.inr rfl) ho
    | _ => exact h
  · rcases ho with rfl | rfl
    · have : g = b' := by
        have : some g = some b' := by rw [← hvo, ← hob]; simp [bk, upn_at]
        injection this
      subst this
      refine ⟨hbg, by omega, ?_, hat⟩
      show (w1.setCell ⟨G.kS, u, none⟩ v').ownsRow base 3 1 (upn G.sv u v' u) (upn G.Sl u (G.Sl u ++ [t]) u).length (ints (upn G.Sl u (G.Sl u ++ [t]) u))
      rw [upn_at, upn_at]
      exact own_of_block hown (fun g' hg' => Sx g' (by rw [hvo] at hg'; cases hg'; exact hne))
    · have : G.kS = b' := by
        have : some G.kS = some b' := hob
        injection this
      subst this
      refine ⟨hB, by omega, ?_, .inl rfl⟩
      show (w1.setCell ⟨G.kS, u, none⟩ v').heap[G.kS]? = some (.cells (rowA G.m (upn G.sv u v')) 42 (0, 0))
      have := heap_setCell_same w1 G.kS u _ 42 v' hb1
      rw [rowA_set] at this
      exact this
  · rcases h1 with rfl | rfl <;> rcases h2 with rfl | rfl <;> first | rfl | (exfalso; first | (have : some G.kS = some b' := hb1; injection this with this; omega) | (have : some G.kS = some b' := hb2; injection this with this; omega))
  · by_cases e : y = u
    · subst e
      show NilOk (upn G.sv y v' y) _
      rw [upn_at]
      intro h
      rw [hvo] at h; cases h
    · show NilOk (upn G.sv u v' y) (upn G.Sl u (G.Sl u ++ [t]) y)
      rw [upn_ne _ _ _ e, upn_ne _ _ _ e]
      exact H.nilU y
  · have := H.lenS y
    show (upn G.Sl u (G.Sl u ++ [t]) y).length ≤ G.e + 1
    by_cases e : y = u
    · subst e; rw [upn_at]; simp; omega
    · rw [upn_ne _ _ _ e]; omega
end
end Go.Proofs.Qxb6600445a
