import Derived.Test.Qxb6600448aChildN
namespace Go.Proofs.Qxb6600448a
open Go.RowKit
open Go.Maps (Keyed)
set_option linter.unusedVariables false

def ptr (o : Option Nat) : Value := .pointer (o.map fun b => ⟨b, 0, none⟩)

abbrev Ch := Nat → Int → List UInt8 → Option Nat

def NodeAt (w : World) (ch : Ch) (mp : Nat → Option Nat) (cnt : Nat → Nat) (b : Nat) : Prop :=
  w.heap[b]? = some (node (.map (mp b)) (ptr (ch b 1 [])) (ptr (ch b 2 []))) ∧
  (mp b = none → cnt b = 0 ∧ ∀ s, ch b 0 s = none) ∧
  (∀ m, mp b = some m → mapF w Try.prog 9 m (cnt b) (litF (ch b 0)))

/-- the nodes N, their edges ch, how many literal children each has; all from block base on -/
def Tree (w : World) (base : Nat) (N : Nat → Prop) (ch : Ch) (cnt : Nat → Nat) : Prop :=
  ∃ mp, (∀ b, N b → NodeAt w ch mp cnt b) ∧ (∀ b b' m, N b → N b' → mp b = some m → mp b' = some m → b = b') ∧ (∀ b, N b → base ≤ b ∧ ∀ m, mp b = some m → base ≤ m)

/-- blocks of cells of another type stay -/
def keepT (w w' : World) : Prop := ∀ (k : Nat) (cs : Array Value) (t : TypeId) (fr : Nat × Nat), w.heap[k]? = some (.cells cs t fr) → t ≠ 51 → w'.heap[k]? = some (.cells cs t fr)

def addC (ch : Ch) (b : Nat) (κ : Int) (t : List UInt8) (r : Nat) : Ch := fun b' κ' t' => if b' = r then none else if b' = b ∧ κ' = κ ∧ t' = t then some r else ch b' κ' t'
def addN (cnt : Nat → Nat) (b : Nat) (κ : Int) (r : Nat) : Nat → Nat := fun b' => if b' = r then 0 else if b' = b ∧ κ = 0 then cnt b + 1 else cnt b'
def nk (κ : Int) (s : List UInt8) : List UInt8 := if κ = 0 then s else []

theorem keepT_below {w w' : World} (h : Below w.heap.size w w') : keepT w w' := fun k cs t fr hk _ => (h.block k (Array.getElem?_eq_some_iff.1 hk).1).trans hk

theorem Tree.below {w w' : World} {base : Nat} {N : Nat → Prop} {ch : Ch} {cnt : Nat → Nat} (h : Tree w base N ch cnt) (hb : Below w.heap.size w w') : Tree w' base N ch cnt := by
  obtain ⟨mp, h1, h2, h3⟩ := h
  refine ⟨mp, fun b hN => ?_, h2, h3⟩
  obtain ⟨a1, a2, a3⟩ := h1 b hN
  exact ⟨(hb.block b (Array.getElem?_eq_some_iff.1 a1).1).trans a1, a2, fun m hm => (a3 m hm).of_block (hb.block m (a3 m hm).lt)⟩

theorem Tree.lt {w : World} {base : Nat} {N : Nat → Prop} {ch : Ch} {cnt : Nat → Nat} (h : Tree w base N ch cnt) {b : Nat} (hN : N b) : base ≤ b ∧ b < w.heap.size := by
  obtain ⟨mp, h1, h2, h3⟩ := h
  exact ⟨(h3 b hN).1, (Array.getElem?_eq_some_iff.1 (h1 b hN).1).1⟩

/-- a step that writes the node b and its map alone, and makes new blocks, one of them the node r -/
theorem grow_tree {w w' : World} {base : Nat} {N : Nat → Prop} {ch : Ch} {cnt : Nat → Nat} {mp : Nat → Option Nat} {b r : Nat} {κ : Int} {t : List UInt8} (mp' : Option Nat)
    (h1 : ∀ b, N b → NodeAt w ch mp cnt b) (h2 : ∀ b b' m, N b → N b' → mp b = some m → mp b' = some m → b = b') (h3 : ∀ b, N b → base ≤ b ∧ ∀ m, mp b = some m → base ≤ m)
    (hN : N b) (hr : w.heap.size ≤ r) (hbase : base ≤ w.heap.size) (hnew : w'.heap[r]? = some fresh)
    (hmp : mp' = mp b ∨ ∃ m, mp' = some m ∧ w.heap.size ≤ m)
    (hnode : NodeAt w' (addC ch b κ t r) (fun x => if x = b then mp' else if x = r then none else mp x) (addN cnt b κ r) b)
    (hframe : ∀ k, k < w.heap.size → k ≠ b → mp b ≠ some k → w'.heap[k]? = w.heap[k]?) :
    Tree w' base (fun x => N x ∨ x = r) (addC ch b κ t r) (addN cnt b κ r) := by
  have hbl : b < w.heap.size := (Array.getElem?_eq_some_iff.1 (h1 b hN).1).1
  have hNlt : ∀ x, N x → x < w.heap.size := fun x hx => (Array.getElem?_eq_some_iff.1 (h1 x hx).1).1
  have hne : b ≠ r := by omega
  refine ⟨fun x => if x = b then mp' else if x = r then none else mp x, fun x hx => ?_, fun x y m hx hy => ?_, fun x hx => ?_⟩
  · by_cases e : x = b
    · subst e; exact hnode
    rcases hx with hx | rfl
    · have hxr : x ≠ r := by have := hNlt x hx; omega
      obtain ⟨a1, a2, a3⟩ := h1 x hx
      have ec : ∀ κ' t', addC ch b κ t r x κ' t' = ch x κ' t' := fun κ' t' => by simp [addC, hxr, e]
      have en : addN cnt b κ r x = cnt x := by simp [addN, hxr, e]
      refine ⟨?_, ?_, ?_⟩
      · simp only [ec, if_neg e, if_neg hxr]
        rw [hframe x (hNlt x hx) e (fun hm => ?_)]
        · exact a1
        · -- a map block is no node
          obtain ⟨es, cl, hh⟩ := ((h1 b hN).2.2 x hm).isMap
          rw [a1] at hh; simp [node] at hh
      · simp only [ec, en, if_neg e, if_neg hxr]
        exact a2
      · simp only [en, if_neg e, if_neg hxr]
        intro m hm
        have : mapF w' Try.prog 9 m (cnt x) (litF (ch x 0)) := (a3 m hm).of_block (hframe m (a3 m hm).lt (fun hmb => by
          obtain ⟨es, cl, hh⟩ := (a3 m hm).isMap
          rw [hmb, (h1 b hN).1] at hh; simp [node] at hh) (fun hmb => e (h2 x b m hx hN hm hmb)))
        have e0 : addC ch b κ t r x 0 = ch x 0 := funext fun t' => ec 0 t'
        rw [e0]
        exact this
    · refine ⟨?_, ?_, ?_⟩
      · simp only [if_neg e, if_pos]
        simp [addC, ptr]
        exact hnew
      · intro _
        exact ⟨by simp [addN], fun s => by simp [addC]⟩
      · intro m hm
        simp [e] at hm
  · dsimp only
    have key : ∀ z, (N z ∨ z = r) → ∀ m, (if z = b then mp' else if z = r then none else mp z) = some m → (z = b ∧ mp' = some m) ∨ (z ≠ b ∧ N z ∧ mp z = some m) := fun z hz m hm => by
      by_cases e : z = b
      · rw [if_pos e] at hm; exact .inl ⟨e, hm⟩
      · rw [if_neg e] at hm
        by_cases e2 : z = r
        · rw [if_pos e2] at hm; cases hm
        · rw [if_neg e2] at hm; exact .inr ⟨e, hz.resolve_right e2, hm⟩
    have cross : ∀ z m, z ≠ b → N z → mp z = some m → mp' = some m → False := fun z m hz hNz hmz hm' => by
      rcases hmp with h | ⟨m0, h, hge⟩
      · rw [h] at hm'; exact hz (h2 z b m hNz hN hmz hm')
      · rw [h] at hm'; cases hm'
        have := ((h1 z hNz).2.2 _ hmz).lt
        omega
    intro hmx hmy
    rcases key x hx m hmx with ⟨ex, hx'⟩ | ⟨ex, nx, hx'⟩ <;> rcases key y hy m hmy with ⟨ey, hy'⟩ | ⟨ey, ny, hy'⟩
    · rw [ex, ey]
    · exact (cross y m ey ny hy' hx').elim
    · exact (cross x m ex nx hx' hy').elim
    · exact h2 x y m nx ny hx' hy'
  · rcases hx with hx | rfl
    · refine ⟨(h3 x hx).1, fun m hm => ?_⟩
      by_cases e : x = b
      · simp only [if_pos e] at hm
        rcases hmp with h | ⟨m0, h, hge⟩
        · rw [h] at hm; exact (h3 b hN).2 m hm
        · rw [h] at hm; cases hm; omega
      · have hxr : x ≠ r := by have := hNlt x hx; omega
        simp only [if_neg e, if_neg hxr] at hm
        exact (h3 x hx).2 m hm
    · refine ⟨by omega, fun m hm => ?_⟩
      simp [hne.symm] at hm

theorem frame_keep {w w' : World} {base : Nat} {N : Nat → Prop} {ch : Ch} {cnt : Nat → Nat} {mp : Nat → Option Nat} {b : Nat}
    (h1 : ∀ b, N b → NodeAt w ch mp cnt b) (h3 : ∀ b, N b → base ≤ b ∧ ∀ m, mp b = some m → base ≤ m) (hN : N b) (hbase : base ≤ w.heap.size)
    (hos : w'.os = w.os) (htape : w'.tape = w.tape) (hout : w'.output = w.output) (hsz : w.heap.size ≤ w'.heap.size)
    (hframe : ∀ k, k < w.heap.size → k ≠ b → mp b ≠ some k → w'.heap[k]? = w.heap[k]?) : Below base w w' ∧ keepT w w' := by
  refine ⟨⟨hos, htape, hout, hsz, fun k hk => hframe k (by omega) (fun e => by have := (h3 b hN).1; omega) (fun e => by have := (h3 b hN).2 k e; omega)⟩, fun k cs t fr hk ht => ?_⟩
  rw [hframe k (Array.getElem?_eq_some_iff.1 hk).1 (fun e => ?_) (fun e => ?_)]
  · exact hk
  · rw [e, (h1 b hN).1] at hk
    simp [node] at hk
    exact ht hk.2.1.symm
  · obtain ⟨es, cl, hh⟩ := ((h1 b hN).2.2 k e).isMap
    rw [hk] at hh
    cases hh

/-- THE CONTRACT OF child -/
theorem child_any (b : Nat) (κ : Int) (s : ByteArray) (w : World) (base : Nat) (N : Nat → Prop) (ch : Ch) (cnt : Nat → Nat) (hT : Tree w base N ch cnt) (hN : N b) (hbase : base ≤ w.heap.size) (hs : s.size ≤ maxLen) (hκ : κ = 0 ∨ κ = 1 ∨ κ = 2) (hc : cnt b < maxLen) :
    Calls Try.prog 30 #[.pointer (some ⟨b, 0, none⟩), .agg #[.int .i64 κ, .string s]] w fun e w' => ∃ r, e = .returned (.pointer (some ⟨r, 0, none⟩)) ∧ Below base w w' ∧ keepT w w' ∧
      ((ch b κ (nk κ s.data.toList) = some r ∧ Tree w' base N ch cnt) ∨
       (ch b κ (nk κ s.data.toList) = none ∧ w.heap.size ≤ r ∧ Tree w' base (fun x => N x ∨ x = r) (addC ch b κ (nk κ s.data.toList) r) (addN cnt b κ r))) := by
  have hT0 := hT
  obtain ⟨mp, h1, h2, h3⟩ := hT
  obtain ⟨a1, a2, a3⟩ := h1 b hN
  have hbl : b < w.heap.size := (Array.getElem?_eq_some_iff.1 a1).1
  rcases hκ with rfl | rfl | rfl
  · have ek : nk 0 s.data.toList = s.data.toList := by simp [nk]
    rw [ek]
    cases hm : mp b with
    | none =>
      rw [hm] at a1
      refine (lit_first b _ _ s w a1 hs).mono ?_
      rintro e w' ⟨r, mb, hr, hmb, rfl, hf, hb', hF, hg⟩
      have hfr : ∀ k, k < w.heap.size → k ≠ b → mp b ≠ some k → w'.heap[k]? = w.heap[k]? := fun k hk hkb _ => hg.block k hk (by simpa using hkb)
      have K := frame_keep h1 h3 hN hbase hg.os hg.tape hg.output hg.size hfr
      refine ⟨r, rfl, K.1, K.2, .inr ⟨(a2 hm).2 _, hr, grow_tree (some mb) h1 h2 h3 hN hr hbase hf (.inr ⟨mb, rfl, hmb⟩) ?_ hfr⟩⟩
      have hbr : b ≠ r := by omega
      refine ⟨?_, ?_, ?_⟩
      · simp [addC, hbr]; exact hb'
      · intro h; simp at h
      · intro m hm'
        simp at hm'
        subst hm'
        have e1 : addN cnt b 0 r b = 1 := by simp [addN, hbr, (a2 hm).1]
        rw [e1]
        have e2 : addC ch b 0 s.data.toList r b 0 = fun t => if t = s.data.toList then some r else none := by
          funext t
          simp [addC, hbr, (a2 hm).2]
        rw [e2]
        exact hF
    | some mb =>
      have hF := a3 mb hm
      rw [hm] at a1
      cases hg : ch b 0 s.data.toList with
      | some r =>
        refine (lit_hit b mb _ _ _ _ r s w a1 hF hs hg).mono ?_
        rintro e w' ⟨rfl, hbl'⟩
        exact ⟨r, rfl, hbl'.mono hbase, keepT_below hbl', .inl ⟨rfl, hT0.below hbl'⟩⟩
      | none =>
        refine (lit_more b mb _ _ _ _ s w a1 hF hs hg hc).mono ?_
        rintro e w' ⟨r, hr, rfl, hf, hF', hg'⟩
        have hfr : ∀ k, k < w.heap.size → k ≠ b → mp b ≠ some k → w'.heap[k]? = w.heap[k]? := fun k hk _ hkm => hg'.block k hk (fun e => hkm (by rw [hm, e]))
        have K := frame_keep h1 h3 hN hbase hg'.os hg'.tape hg'.output hg'.size hfr
        refine ⟨r, rfl, K.1, K.2, .inr ⟨rfl, hr, grow_tree (mp b) h1 h2 h3 hN hr hbase hf (.inl rfl) ?_ hfr⟩⟩
        have hbr : b ≠ r := by omega
        have hbm : b ≠ mb := fun e => by
          obtain ⟨es, cl, hh⟩ := hF.isMap
          rw [← e, a1] at hh; simp [node] at hh
        refine ⟨?_, ?_, ?_⟩
        · simp [addC, hbr, hm]
          rw [hg'.block b hbl (by simpa using hbm)]
          exact a1
        · intro h; simp [hm] at h
        · intro m hm'
          simp [hm] at hm'
          subst hm'
          have e1 : addN cnt b 0 r b = cnt b + 1 := by simp [addN, hbr]
          rw [e1]
          have e2 : addC ch b 0 s.data.toList r b 0 = addF (ch b 0) s.data.toList r := by
            funext t
            simp [addC, hbr, addF]
          rw [e2]
          exact hF'
  · have ek : nk 1 s.data.toList = [] := by simp [nk]
    rw [ek]
    cases hg : ch b 1 [] with
    | some r =>
      rw [hg] at a1
      refine (wild_hit b _ _ ⟨r, 0, none⟩ s w a1).mono ?_
      rintro e w' ⟨rfl, hbl'⟩
      exact ⟨r, rfl, hbl'.mono hbase, keepT_below hbl', .inl ⟨rfl, hT0.below hbl'⟩⟩
    | none =>
      rw [hg] at a1
      refine (wild_new b _ _ s w a1).mono ?_
      rintro e w' ⟨r, hr, rfl, hf, hb', hg'⟩
      have hfr : ∀ k, k < w.heap.size → k ≠ b → mp b ≠ some k → w'.heap[k]? = w.heap[k]? := fun k hk hkb _ => hg'.block k hk (by simpa using hkb)
      have K := frame_keep h1 h3 hN hbase hg'.os hg'.tape hg'.output hg'.size hfr
      refine ⟨r, rfl, K.1, K.2, .inr ⟨rfl, hr, grow_tree (mp b) h1 h2 h3 hN hr hbase hf (.inl rfl) ?_ hfr⟩⟩
      have hbr : b ≠ r := by omega
      have e0 : addC ch b 1 [] r b 0 = ch b 0 := by funext t; simp [addC, hbr]
      have e1 : addN cnt b 1 r b = cnt b := by simp [addN, hbr]
      refine ⟨?_, ?_, ?_⟩
      · simp [addC, hbr]; exact hb'
      · intro h
        simp at h
        rw [e0, e1]
        exact a2 h
      · intro m hm'
        simp at hm'
        rw [e0, e1]
        have hF := a3 m hm'
        exact hF.of_block (hg'.block m hF.lt (fun e => by
          obtain ⟨es, cl, hh⟩ := hF.isMap
          cases e
          rw [a1] at hh; simp [node] at hh))
  · have ek : nk 2 s.data.toList = [] := by simp [nk]
    rw [ek]
    cases hg : ch b 2 [] with
    | some r =>
      rw [hg] at a1
      refine (deep_hit b _ _ ⟨r, 0, none⟩ s w a1).mono ?_
      rintro e w' ⟨rfl, hbl'⟩
      exact ⟨r, rfl, hbl'.mono hbase, keepT_below hbl', .inl ⟨rfl, hT0.below hbl'⟩⟩
    | none =>
      rw [hg] at a1
      refine (deep_new b _ _ s w a1).mono ?_
      rintro e w' ⟨r, hr, rfl, hf, hb', hg'⟩
      have hfr : ∀ k, k < w.heap.size → k ≠ b → mp b ≠ some k → w'.heap[k]? = w.heap[k]? := fun k hk hkb _ => hg'.block k hk (by simpa using hkb)
      have K := frame_keep h1 h3 hN hbase hg'.os hg'.tape hg'.output hg'.size hfr
      refine ⟨r, rfl, K.1, K.2, .inr ⟨rfl, hr, grow_tree (mp b) h1 h2 h3 hN hr hbase hf (.inl rfl) ?_ hfr⟩⟩
      have hbr : b ≠ r := by omega
      have e0 : addC ch b 2 [] r b 0 = ch b 0 := by funext t; simp [addC, hbr]
      have e1 : addN cnt b 2 r b = cnt b := by simp [addN, hbr]
      refine ⟨?_, ?_, ?_⟩
      · simp [addC, hbr]; exact hb'
      · intro h
        simp at h
        rw [e0, e1]
        exact a2 h
      · intro m hm'
        simp at hm'
        rw [e0, e1]
        have hF := a3 m hm'
        exact hF.of_block (hg'.block m hF.lt (fun e => by
          obtain ⟨es, cl, hh⟩ := hF.isMap
          cases e
          rw [a1] at hh; simp [node] at hh))
end Go.Proofs.Qxb6600448a
