import Derived.Test.Qxb6600445aSteps
namespace Go.Proofs.Qxb6600445a
open Go.RowKit
open Go.Maps (Keyed)
set_option linter.unusedVariables false

section
variable {w w' : World} {B c : Nat} {X : ByteArray → Option Nat} {ob : ByteArray → Nat} {E : ByteArray → Int} {O : ByteArray → ByteArray → Bool} {Wl RF WR : ByteArray → List ByteArray} {vW vR vP : ByteArray → Value}

theorem getElem_lt {w : World} {b : Nat} {o : Obj} (h : w.heap[b]? = some o) : b < w.heap.size := (Array.getElem?_eq_some_iff.1 h).1

/-- the writes of item x turn -/
theorem Mem.setW (H : Mem w B c X ob E O Wl RF WR vW vR vP) (x : ByteArray) (b : Nat) (hx : X x = some b) (v' : Value) (l' : List ByteArray)
    (hb : w'.heap[b]? = some (item v' (ob x))) (ho : w'.ownsRow (B + 4) 44 1 v' l'.length (strs l')) (hl : l'.length ≤ c + 1) (hsz : w.heap.size ≤ w'.heap.size)
    (hk : ∀ k, k < w.heap.size → k ≠ b → (vW x).ownBlock ≠ some k → w'.heap[k]? = w.heap[k]?) (hlie : ∀ g, v'.ownBlock = some g → (vW x).ownBlock = some g ∨ w.heap.size ≤ g) :
    Mem w' B (c + 1) X ob E O (up Wl x l') RF WR (up vW x v') vR vP := by
  have H' := H.mono (Nat.le_succ c)
  obtain ⟨hbx, _, _, _⟩ := H.itm x b hx
  have rown : ∀ g, (vW x).ownBlock = some g → ∃ cur, w.heap[g]? = some (.cells cur 44 (0, 0)) := fun g h => (own_block (H.rowW x) h).2
  have fm : ∀ {k m n f}, mapF w Try.prog k m n f → mapF w' Try.prog k m n f := fun {k m n f} h => by
    obtain ⟨es, cl, hm⟩ := h.isMap
    refine h.of_block (hk m h.lt (fun e => by subst e; rw [hbx] at hm; cases hm) (fun e => ?_))
    obtain ⟨cur, hc⟩ := rown m e
    rw [hc] at hm; cases hm
  have fo : ∀ {o : Nat × ByteArray} {e : TypeId} {v : Value} {n : Nat} {xs : List Value}, o ≠ (0, x) → blk vW vR vP o = v.ownBlock → (e = 44 ∨ e = 64) → w.ownsRow (B + 4) e 1 v n xs → w'.ownsRow (B + 4) e 1 v n xs := fun {o e v n xs} hne hbl he h =>
    own_of_block h (fun g hg => by
      obtain ⟨_, cur, hc⟩ := own_block h hg
      refine hk g (getElem_lt hc) (fun e' => ?_) (fun e' => hne (H.apart o (0, x) g (hbl.trans hg) (by simpa [blk] using e')))
      subst e'
      rw [hbx] at hc
      rcases he with rfl | rfl <;> simp [item] at hc)
  refine ⟨?_, ?_, ?_, ?_, fun y b' hy => ?_, H.inj, H.obinj, fun y => ?_, fun t => fo (o := (1, t)) (by simp) (by simp [blk]) (.inl rfl) (H.rowR t), fun t => fo (o := (2, t)) (by simp) (by simp [blk]) (.inr rfl) (H.rowP t), ?_, fun y hy => ?_, fun y => ?_, H.here, Nat.le_trans H.size hsz⟩
  · obtain ⟨n, h1, h2⟩ := H'.items; exact ⟨n, h1, fm h2⟩
  · obtain ⟨n, h1, h2⟩ := H'.ended; exact ⟨n, h1, fm h2⟩
  · obtain ⟨n, f, h1, h2, h3⟩ := H'.wrote; exact ⟨n, f, h1, fm h2, h3⟩
  · obtain ⟨n, f, h1, h2, h3⟩ := H'.readF; exact ⟨n, f, h1, fm h2, h3⟩
  · obtain ⟨h1, ⟨n', h2, h3⟩, h4, h5⟩ := H'.itm y b' hy
    refine ⟨?_, ⟨n', h2, fm h3⟩, h4, h5⟩
    by_cases e : y = x
    · subst e
      rw [hx] at hy
      cases hy
      rw [up_at]
      exact hb
    · rw [up_ne _ _ _ _ e, hk b' (getElem_lt h1) (fun e' => e (H.inj y x b' hy (by rw [hx, e']))) (fun e' => ?_)]
      · exact h1
      · obtain ⟨cur, hc⟩ := rown b' e'
        rw [h1] at hc
        simp [item] at hc
  · by_cases e : y = x
    · subst e; rw [up_at, up_at]; exact ho
    · rw [up_ne _ _ _ _ e, up_ne _ _ _ _ e]
      exact fo (o := (0, y)) (fun h => e (by cases h; rfl)) (by simp [blk]) (.inl rfl) (H.rowW y)
  · refine apart_up (o := (0, x)) (fun o' ho' => ?_) H.apart (fun g hg => ?_)
    · unfold blk
      obtain ⟨i, s⟩ := o'
      by_cases e : s = x
      · subst e
        have : i ≠ 0 := fun h => ho' (by rw [h])
        simp [this]
      · simp [up_ne _ _ _ _ e]
    · simp [blk, up_at] at hg
      rcases hlie g hg with h | h
      · exact .inl (by simpa [blk] using h)
      · refine .inr fun o' ho' => ?_
        obtain ⟨_, cur, t, hc, _⟩ := H.rowsCells ho'
        have := getElem_lt hc
        omega
  · have e : y ≠ x := fun e => by subst e; rw [hx] at hy; cases hy
    rw [up_ne _ _ _ _ e, up_ne _ _ _ _ e]
    exact H.absent y hy
  · have := H'.lens y
    by_cases e : y = x
    · subst e; rw [up_at]; exact ⟨hl, this.2.1, this.2.2⟩
    · rw [up_ne _ _ _ _ e]; exact this

/-- wrote[t] = append(wrote[t], it) -/
theorem Mem.addWrote (H : Mem w B c X ob E O Wl RF WR vW vR vP) {n : Nat} {f : ByteArray → Option Value} (t x : ByteArray) (b : Nat) (hx : X x = some b) (v' : Value) (hn : n ≤ c + 1) (hf : ∀ s, (f s).getD nilS = vP s)
    (hF : mapF w' Try.prog 44 (B + 2) n (keyF (up f t (some v')))) (ho : w'.ownsRow (B + 4) 64 1 v' ((WR t).length + 1) (((WR t).map fun x => pt ((X x).getD 0)) ++ [pt b])) (hsz : w.heap.size ≤ w'.heap.size)
    (hk : ∀ k, k < w.heap.size → k ≠ B + 2 → (vP t).ownBlock ≠ some k → w'.heap[k]? = w.heap[k]?) (hlie : ∀ g, v'.ownBlock = some g → (vP t).ownBlock = some g ∨ w.heap.size ≤ g) :
    Mem w' B (c + 1) X ob E O Wl RF (up WR t (WR t ++ [x])) vW vR (up vP t v') := by
  have H' := H.mono (Nat.le_succ c)
  obtain ⟨n0, f0, _, h0, _⟩ := H.wrote
  obtain ⟨es0, cl0, hm0⟩ := h0.isMap
  have rown : ∀ g, (vP t).ownBlock = some g → ∃ cur, w.heap[g]? = some (.cells cur 64 (0, 0)) := fun g h => (own_block (H.rowP t) h).2
  have fm : ∀ {k m n f}, mapF w Try.prog k m n f → m ≠ B + 2 → mapF w' Try.prog k m n f := fun {k m n f} h hne => by
    obtain ⟨es, cl, hm⟩ := h.isMap
    refine h.of_block (hk m h.lt hne (fun e => ?_))
    obtain ⟨cur, hc⟩ := rown m e
    rw [hc] at hm; cases hm
  have fo : ∀ {o : Nat × ByteArray} {e : TypeId} {v : Value} {n : Nat} {xs : List Value}, o ≠ (2, t) → blk vW vR vP o = v.ownBlock → w.ownsRow (B + 4) e 1 v n xs → w'.ownsRow (B + 4) e 1 v n xs := fun {o e v n xs} hne hbl h =>
    own_of_block h (fun g hg => by
      obtain ⟨_, cur, hc⟩ := own_block h hg
      refine hk g (getElem_lt hc) (fun e' => ?_) (fun e' => hne (H.apart o (2, t) g (hbl.trans hg) (by simpa [blk] using e')))
      subst e'
      rw [hm0] at hc
      cases hc)
  refine ⟨?_, ?_, ⟨n, _, hn, hF, fun s => ?_⟩, ?_, fun y b' hy => ?_, H.inj, H.obinj, fun y => fo (o := (0, y)) (by simp) (by simp [blk]) (H.rowW y), fun s => fo (o := (1, s)) (by simp) (by simp [blk]) (H.rowR s), fun s => ?_, ?_, H.absent, fun s => ?_, fun s y hy => ?_, Nat.le_trans H.size hsz⟩
  · obtain ⟨n, h1, h2⟩ := H'.items; exact ⟨n, h1, fm h2 (by omega)⟩
  · obtain ⟨n, h1, h2⟩ := H'.ended; exact ⟨n, h1, fm h2 (by omega)⟩
  · by_cases e : s = t
    · subst e; rw [up_at, up_at]; rfl
    · rw [up_ne _ _ _ _ e, up_ne _ _ _ _ e]; exact hf s
  · obtain ⟨n, f, h1, h2, h3⟩ := H'.readF; exact ⟨n, f, h1, fm h2 (by omega), h3⟩
  · obtain ⟨h1, ⟨n', h2, h3⟩, h4, h5⟩ := H'.itm y b' hy
    refine ⟨?_, ⟨n', h2, fm h3 (by omega)⟩, h4, h5⟩
    rw [hk b' (getElem_lt h1) (fun e' => ?_) (fun e' => ?_)]
    · exact h1
    · subst e'; rw [hm0] at h1; cases h1
    · obtain ⟨cur, hc⟩ := rown b' e'
      rw [h1] at hc
      simp [item] at hc
  · by_cases e : s = t
    · subst e
      rw [up_at, up_at, List.length_append, List.map_append]
      simpa [hx] using ho
    · rw [up_ne _ _ _ _ e, up_ne _ _ _ _ e]
      exact fo (o := (2, s)) (fun h => e (by cases h; rfl)) (by simp [blk]) (H.rowP s)
  · refine apart_up (o := (2, t)) (fun o' ho' => ?_) H.apart (fun g hg => ?_)
    · unfold blk
      obtain ⟨i, s⟩ := o'
      by_cases e : s = t
      · subst e
        have : i ≠ 2 := fun h => ho' (by rw [h])
        simp [this]
      · simp [up_ne _ _ _ _ e]
    · simp [blk, up_at] at hg
      rcases hlie g hg with h | h
      · exact .inl (by simpa [blk] using h)
      · refine .inr fun o' ho' => ?_
        obtain ⟨_, cur, t, hc, _⟩ := H.rowsCells ho'
        have := getElem_lt hc
        omega
  · have := H'.lens s
    have h2 := H.lens s
    by_cases e : s = t
    · subst e; rw [up_at]; exact ⟨this.1, this.2.1, by simp; omega⟩
    · rw [up_ne _ _ _ _ e]; exact this
  · by_cases e : s = t
    · subst e
      rw [up_at] at hy
      rcases List.mem_append.1 hy with h | h
      · exact H.here s y h
      · simp at h; subst h; exact ⟨b, hx⟩
    · rw [up_ne _ _ _ _ e] at hy; exact H.here s y hy

/-- readFrom[t] = append(readFrom[t], from) -/
theorem Mem.addRead (H : Mem w B c X ob E O Wl RF WR vW vR vP) {n : Nat} {f : ByteArray → Option Value} (t x : ByteArray) (v' : Value) (hn : n ≤ c + 1) (hf : ∀ s, (f s).getD nilS = vR s)
    (hF : mapF w' Try.prog 44 (B + 3) n (keyF (up f t (some v')))) (ho : w'.ownsRow (B + 4) 44 1 v' ((RF t).length + 1) (strs (RF t) ++ [.string x])) (hsz : w.heap.size ≤ w'.heap.size)
    (hk : ∀ k, k < w.heap.size → k ≠ B + 3 → (vR t).ownBlock ≠ some k → w'.heap[k]? = w.heap[k]?) (hlie : ∀ g, v'.ownBlock = some g → (vR t).ownBlock = some g ∨ w.heap.size ≤ g) :
    Mem w' B (c + 1) X ob E O Wl (up RF t (RF t ++ [x])) WR vW (up vR t v') vP := by
  have H' := H.mono (Nat.le_succ c)
  obtain ⟨n0, f0, _, h0, _⟩ := H.readF
  obtain ⟨es0, cl0, hm0⟩ := h0.isMap
  have rown : ∀ g, (vR t).ownBlock = some g → ∃ cur, w.heap[g]? = some (.cells cur 44 (0, 0)) := fun g h => (own_block (H.rowR t) h).2
  have fm : ∀ {k m n f}, mapF w Try.prog k m n f → m ≠ B + 3 → mapF w' Try.prog k m n f := fun {k m n f} h hne => by
    obtain ⟨es, cl, hm⟩ := h.isMap
    refine h.of_block (hk m h.lt hne (fun e => ?_))
    obtain ⟨cur, hc⟩ := rown m e
    rw [hc] at hm; cases hm
  have fo : ∀ {o : Nat × ByteArray} {e : TypeId} {v : Value} {n : Nat} {xs : List Value}, o ≠ (1, t) → blk vW vR vP o = v.ownBlock → w.ownsRow (B + 4) e 1 v n xs → w'.ownsRow (B + 4) e 1 v n xs := fun {o e v n xs} hne hbl h =>
    own_of_block h (fun g hg => by
      obtain ⟨_, cur, hc⟩ := own_block h hg
      refine hk g (getElem_lt hc) (fun e' => ?_) (fun e' => hne (H.apart o (1, t) g (hbl.trans hg) (by simpa [blk] using e')))
      subst e'
      rw [hm0] at hc
      cases hc)
  refine ⟨?_, ?_, ?_, ⟨n, _, hn, hF, fun s => ?_⟩, fun y b' hy => ?_, H.inj, H.obinj, fun y => fo (o := (0, y)) (by simp) (by simp [blk]) (H.rowW y), fun s => ?_, fun s => fo (o := (2, s)) (by simp) (by simp [blk]) (H.rowP s), ?_, H.absent, fun s => ?_, H.here, Nat.le_trans H.size hsz⟩
  · obtain ⟨n, h1, h2⟩ := H'.items; exact ⟨n, h1, fm h2 (by omega)⟩
  · obtain ⟨n, h1, h2⟩ := H'.ended; exact ⟨n, h1, fm h2 (by omega)⟩
  · obtain ⟨n, f, h1, h2, h3⟩ := H'.wrote; exact ⟨n, f, h1, fm h2 (by omega), h3⟩
  · by_cases e : s = t
    · subst e; rw [up_at, up_at]; rfl
    · rw [up_ne _ _ _ _ e, up_ne _ _ _ _ e]; exact hf s
  · obtain ⟨h1, ⟨n', h2, h3⟩, h4, h5⟩ := H'.itm y b' hy
    refine ⟨?_, ⟨n', h2, fm h3 (by omega)⟩, h4, h5⟩
    rw [hk b' (getElem_lt h1) (fun e' => ?_) (fun e' => ?_)]
    · exact h1
    · subst e'; rw [hm0] at h1; cases h1
    · obtain ⟨cur, hc⟩ := rown b' e'
      rw [h1] at hc
      simp [item] at hc
  · by_cases e : s = t
    · subst e
      rw [up_at, up_at, List.length_append]
      simpa [strs] using ho
    · rw [up_ne _ _ _ _ e, up_ne _ _ _ _ e]
      exact fo (o := (1, s)) (fun h => e (by cases h; rfl)) (by simp [blk]) (H.rowR s)
  · refine apart_up (o := (1, t)) (fun o' ho' => ?_) H.apart (fun g hg => ?_)
    · unfold blk
      obtain ⟨i, s⟩ := o'
      by_cases e : s = t
      · subst e
        have : i ≠ 1 := fun h => ho' (by rw [h])
        simp [this]
      · simp [up_ne _ _ _ _ e]
    · simp [blk, up_at] at hg
      rcases hlie g hg with h | h
      · exact .inl (by simpa [blk] using h)
      · refine .inr fun o' ho' => ?_
        obtain ⟨_, cur, t, hc, _⟩ := H.rowsCells ho'
        have := getElem_lt hc
        omega
  · have := H'.lens s
    have h2 := H.lens s
    by_cases e : s = t
    · subst e; rw [up_at]; exact ⟨this.1, by simp; omega, this.2.2⟩
    · rw [up_ne _ _ _ _ e]; exact this

/-- a new item -/
theorem Mem.newItem (H : Mem w B c X ob E O Wl RF WR vW vR vP) {n : Nat} (x : ByteArray) (b m : Nat) (hx : X x = none) (hb : w.heap.size ≤ b) (hm : w.heap.size ≤ m) (hn : n ≤ c + 1)
    (hF : mapF w' Try.prog 9 B n (keyF (up (fun x => (X x).map pt) x (some (pt b))))) (hi : w'.heap[b]? = some (item nilS m)) (hO : mapF w' Try.prog 44 m 0 (keyF fun _ => none)) (hsz : w.heap.size ≤ w'.heap.size)
    (hk : ∀ k, k < w.heap.size → k ≠ B → w'.heap[k]? = w.heap[k]?) :
    Mem w' B (c + 1) (up X x (some b)) (up ob x m) E O Wl RF WR vW vR vP := by
  have H' := H.mono (Nat.le_succ c)
  obtain ⟨n0, _, h0⟩ := H.items
  obtain ⟨es0, cl0, hm0⟩ := h0.isMap
  obtain ⟨x1, x2, x3⟩ := H.absent x hx
  have fm : ∀ {k m n f}, mapF w Try.prog k m n f → m ≠ B → mapF w' Try.prog k m n f := fun {k m n f} h hne => h.of_block (hk m h.lt hne)
  have fo : ∀ {e : TypeId} {v : Value} {n : Nat} {xs : List Value}, w.ownsRow (B + 4) e 1 v n xs → w'.ownsRow (B + 4) e 1 v n xs := fun {e v n xs} h =>
    own_of_block h (fun g hg => by
      obtain ⟨hge, cur, hc⟩ := own_block h hg
      exact hk g (getElem_lt hc) (by omega))
  refine ⟨⟨n, hn, ?_⟩, ?_, ?_, ?_, fun y b' hy => ?_, fun y z b' hy hz => ?_, fun y z b1 b2 hy hz he => ?_, fun y => fo (H.rowW y), fun s => fo (H.rowR s), fun s => ?_, H.apart, fun y hy => ?_, H'.lens, fun s y hy => ?_, Nat.le_trans H.size hsz⟩
  · have e : (up (fun x => (X x).map pt) x (some (pt b)) : ByteArray → Option Value) = fun y => (up X x (some b) y).map pt := by
      funext y
      unfold up
      by_cases h : y = x <;> simp [h]
    rw [e] at hF
    exact hF
  · obtain ⟨n, h1, h2⟩ := H'.ended; exact ⟨n, h1, fm h2 (by omega)⟩
  · obtain ⟨n, f, h1, h2, h3⟩ := H'.wrote; exact ⟨n, f, h1, fm h2 (by omega), h3⟩
  · obtain ⟨n, f, h1, h2, h3⟩ := H'.readF; exact ⟨n, f, h1, fm h2 (by omega), h3⟩
  · by_cases e : y = x
    · subst e
      rw [up_at] at hy
      cases hy
      rw [up_at, x2]
      have hs := H.size
      refine ⟨hi, ⟨0, Nat.zero_le _, ?_⟩, by omega, by omega⟩
      have e : (fun t => if O y t then some (Value.bool true) else none) = fun _ => none := by funext t; simp [x3]
      rw [e]
      exact hO
    · rw [up_ne _ _ _ _ e] at hy
      rw [up_ne _ _ _ _ e]
      obtain ⟨h1, ⟨n', h2, h3⟩, h4, h5⟩ := H'.itm y b' hy
      exact ⟨(hk b' (getElem_lt h1) (by omega)).trans h1, ⟨n', h2, fm h3 (by omega)⟩, h4, h5⟩
  · have old : ∀ z, z ≠ x → ∀ b', X z = some b' → b' < w.heap.size := fun z _ b' hz => getElem_lt (H.itm z b' hz).1
    by_cases e : y = x
    · by_cases e2 : z = x
      · rw [e, e2]
      · subst e
        rw [up_at] at hy
        rw [up_ne _ _ _ _ e2] at hz
        cases hy
        have := old z e2 _ hz
        omega
    · rw [up_ne _ _ _ _ e] at hy
      by_cases e2 : z = x
      · subst e2
        rw [up_at] at hz
        cases hz
        have := old y e _ hy
        omega
      · rw [up_ne _ _ _ _ e2] at hz
        exact H.inj y z b' hy hz
  · have old : ∀ z, ∀ b', X z = some b' → ob z < w.heap.size := fun z b' hz => by obtain ⟨_, ⟨_, _, h⟩, _⟩ := H.itm z b' hz; exact h.lt
    by_cases e : y = x
    · by_cases e2 : z = x
      · rw [e, e2]
      · subst e
        rw [up_at] at he
        rw [up_ne _ _ _ _ e2] at hz he
        have := old z _ hz
        omega
    · rw [up_ne _ _ _ _ e] at hy he
      by_cases e2 : z = x
      · subst e2
        rw [up_at] at he
        have := old y _ hy
        omega
      · rw [up_ne _ _ _ _ e2] at hz he
        exact H.obinj y z b1 b2 hy hz he
  · have e : (WR s).map (fun y => pt ((up X x (some b) y).getD 0)) = (WR s).map (fun y => pt ((X y).getD 0)) := by
      apply List.map_congr_left
      intro y hy
      have : y ≠ x := fun e => by
        subst e
        obtain ⟨b', hb'⟩ := H.here s y hy
        rw [hx] at hb'; cases hb'
      rw [up_ne _ _ _ _ this]
    rw [e]
    exact fo (H.rowP s)
  · by_cases e : y = x
    · subst e; rw [up_at] at hy; cases hy
    · rw [up_ne _ _ _ _ e] at hy; exact H.absent y hy
  · by_cases e : y = x
    · subst e; exact ⟨b, up_at _ _ _⟩
    · rw [up_ne _ _ _ _ e]; exact H.here s y hy
end
end Go.Proofs.Qxb6600445a
