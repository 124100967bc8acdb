import Derived.Test.Qxb6600445aBase
namespace Go.Proofs.Qxb6600445a
open Go.RowKit
open Go.Maps (Keyed)
set_option linter.unusedVariables false

def up {α : Type} (f : ByteArray → α) (t : ByteArray) (v : α) : ByteArray → α := fun s => if s = t then v else f s
theorem up_at {α : Type} (f : ByteArray → α) (t : ByteArray) (v : α) : up f t v t = v := by simp [up]
theorem up_ne {α : Type} (f : ByteArray → α) (t s : ByteArray) (v : α) (h : s ≠ t) : up f t v s = f s := by simp [up, h]

def nilS : Value := .slice none 0 0
def pt (b : Nat) : Value := .pointer (some ⟨b, 0, none⟩)
/-- a map keyed by strings -/
def keyF (f : ByteArray → Option Value) : Lit → Option Value
  | .string s => f ⟨s.toArray⟩
  | _ => none
def kl (t : ByteArray) : Lit := .string t.data.toList
theorem keyF_at (f : ByteArray → Option Value) (t : ByteArray) : keyF f (kl t) = f t := by simp [keyF, kl]
theorem keyF_up (f : ByteArray → Option Value) (t : ByteArray) (o : Option Value) : keyF (up f t o) (kl t) = o ∧ ∀ x, x ≠ kl t → keyF (up f t o) x = keyF f x := by
  refine ⟨by rw [keyF_at, up_at], fun x hx => ?_⟩
  cases x with
  | string s =>
    show up f t o ⟨s.toArray⟩ = f ⟨s.toArray⟩
    apply up_ne
    intro e
    apply hx
    show Lit.string s = Lit.string t.data.toList
    rw [← e]
  | _ => rfl

theorem law9 : Keyed Try.prog 9 := Go.Maps.string_keyed Try.underlying9
theorem law44 : Keyed Try.prog 44 := Go.Maps.string_keyed Try.underlying44

theorem zero64 (w : World) : (zeroValue 64).run Try.prog w = .ok (.pointer none) w := by kernel_rfl
theorem zero45 (w : World) : (zeroValue 45).run Try.prog w = .ok (.int .u8 0) w := by kernel_rfl
theorem zero68 (w : World) : (zeroValue 68).run Try.prog w = .ok (.slice none 0 0) w := by kernel_rfl
theorem zero39 (w : World) : (zeroValue 39).run Try.prog w = .ok (.slice none 0 0) w := by kernel_rfl
theorem zero4 (w : World) : (zeroValue 4).run Try.prog w = .ok (.bool false) w := by kernel_rfl

def item (vw : Value) (ob : Nat) : Obj := .cells #[vw, .map (some ob)] 67 (0, 0)
def strs (l : List ByteArray) : List Value := l.map Value.string

/-- which block a row of o lies in -/
def blk (vW vR vP : ByteArray → Value) (o : Nat × ByteArray) : Option Nat :=
  if o.1 = 0 then (vW o.2).ownBlock else if o.1 = 1 then (vR o.2).ownBlock else if o.1 = 2 then (vP o.2).ownBlock else none

structure Mem (w : World) (B c : Nat) (X : ByteArray → Option Nat) (ob : ByteArray → Nat) (E : ByteArray → Int) (O : ByteArray → ByteArray → Bool) (Wl RF WR : ByteArray → List ByteArray) (vW vR vP : ByteArray → Value) : Prop where
  items : ∃ n, n ≤ c ∧ mapF w Try.prog 9 B n (keyF fun x => (X x).map pt)
  ended : ∃ n, n ≤ c ∧ mapF w Try.prog 44 (B + 1) n (keyF fun t => if E t = 0 then none else some (.int .u8 (E t)))
  wrote : ∃ n f, n ≤ c ∧ mapF w Try.prog 44 (B + 2) n (keyF f) ∧ ∀ t, (f t).getD nilS = vP t
  readF : ∃ n f, n ≤ c ∧ mapF w Try.prog 44 (B + 3) n (keyF f) ∧ ∀ t, (f t).getD nilS = vR t
  itm : ∀ x b, X x = some b → w.heap[b]? = some (item (vW x) (ob x)) ∧ (∃ n, n ≤ c ∧ mapF w Try.prog 44 (ob x) n (keyF fun t => if O x t then some (.bool true) else none)) ∧ B + 4 ≤ ob x ∧ B + 4 ≤ b
  inj : ∀ x y b, X x = some b → X y = some b → x = y
  obinj : ∀ x y b b', X x = some b → X y = some b' → ob x = ob y → x = y
  rowW : ∀ x, w.ownsRow (B + 4) 44 1 (vW x) (Wl x).length (strs (Wl x))
  rowR : ∀ t, w.ownsRow (B + 4) 44 1 (vR t) (RF t).length (strs (RF t))
  rowP : ∀ t, w.ownsRow (B + 4) 64 1 (vP t) (WR t).length ((WR t).map fun x => pt ((X x).getD 0))
  apart : ∀ o o' g, blk vW vR vP o = some g → blk vW vR vP o' = some g → o = o'
  absent : ∀ x, X x = none → Wl x = [] ∧ vW x = nilS ∧ ∀ t, O x t = false
  lens : ∀ x, (Wl x).length ≤ c ∧ (RF x).length ≤ c ∧ (WR x).length ≤ c
  here : ∀ t x, x ∈ WR t → ∃ b, X x = some b
  size : B + 4 ≤ w.heap.size

theorem own_of_block {w w' : World} {base : Nat} {e : TypeId} {v : Value} {n : Nat} {xs : List Value} (h : w.ownsRow base e 1 v n xs) (hb : ∀ g, v.ownBlock = some g → w'.heap[g]? = w.heap[g]?) : w'.ownsRow base e 1 v n xs := by
  obtain ⟨h1, h2⟩ := h
  refine ⟨h1, ?_⟩
  rcases h2 with h' | ⟨g, cap, cur, e', hbb, hg, r⟩
  · exact .inl h'
  · subst e'
    exact .inr ⟨g, cap, cur, rfl, hbb, (hb g rfl).trans hg, r⟩

theorem own_block {w : World} {base : Nat} {e : TypeId} {v : Value} {n : Nat} {xs : List Value} (h : w.ownsRow base e 1 v n xs) {g : Nat} (hg : v.ownBlock = some g) : base ≤ g ∧ ∃ cur, w.heap[g]? = some (.cells cur e (0, 0)) := by
  rcases h.2 with ⟨rfl, _⟩ | ⟨g', cap, cur, rfl, hb, hh, _⟩
  · simp [Value.ownBlock] at hg
  · simp [Value.ownBlock] at hg
    subst hg
    exact ⟨hb, cur, hh⟩

section
variable {w w' : World} {B c : Nat} {X : ByteArray → Option Nat} {ob : ByteArray → Nat} {E : ByteArray → Int} {O : ByteArray → ByteArray → Bool} {Wl RF WR : ByteArray → List ByteArray} {vW vR vP : ByteArray → Value}

/-- new blocks alone -/
theorem Mem.below (H : Mem w B c X ob E O Wl RF WR vW vR vP) (hb : Below w.heap.size w w') : Mem w' B c X ob E O Wl RF WR vW vR vP where
  items := by obtain ⟨n, h1, h2⟩ := H.items; exact ⟨n, h1, h2.of_block (hb.block _ h2.lt)⟩
  ended := by obtain ⟨n, h1, h2⟩ := H.ended; exact ⟨n, h1, h2.of_block (hb.block _ h2.lt)⟩
  wrote := by obtain ⟨n, f, h1, h2, h3⟩ := H.wrote; exact ⟨n, f, h1, h2.of_block (hb.block _ h2.lt), h3⟩
  readF := by obtain ⟨n, f, h1, h2, h3⟩ := H.readF; exact ⟨n, f, h1, h2.of_block (hb.block _ h2.lt), h3⟩
  itm := fun x b hx => by
    obtain ⟨h1, ⟨n, h2, h3⟩, h4⟩ := H.itm x b hx
    exact ⟨(hb.block _ (Array.getElem?_eq_some_iff.1 h1).1).trans h1, ⟨n, h2, h3.of_block (hb.block _ h3.lt)⟩, h4⟩
  inj := H.inj
  obinj := H.obinj
  rowW := fun x => own_of_block (H.rowW x) (fun g hg => hb.block g (by obtain ⟨_, cur, h⟩ := own_block (H.rowW x) hg; exact (Array.getElem?_eq_some_iff.1 h).1))
  rowR := fun x => own_of_block (H.rowR x) (fun g hg => hb.block g (by obtain ⟨_, cur, h⟩ := own_block (H.rowR x) hg; exact (Array.getElem?_eq_some_iff.1 h).1))
  rowP := fun x => own_of_block (H.rowP x) (fun g hg => hb.block g (by obtain ⟨_, cur, h⟩ := own_block (H.rowP x) hg; exact (Array.getElem?_eq_some_iff.1 h).1))
  apart := H.apart
  absent := H.absent
  lens := H.lens
  here := H.here
  size := Nat.le_trans H.size hb.size

theorem Mem.mono (H : Mem w B c X ob E O Wl RF WR vW vR vP) {c' : Nat} (h : c ≤ c') : Mem w B c' X ob E O Wl RF WR vW vR vP :=
  { H with
    items := by obtain ⟨n, h1, h2⟩ := H.items; exact ⟨n, by omega, h2⟩
    ended := by obtain ⟨n, h1, h2⟩ := H.ended; exact ⟨n, by omega, h2⟩
    wrote := by obtain ⟨n, f, h1, h2⟩ := H.wrote; exact ⟨n, f, by omega, h2⟩
    readF := by obtain ⟨n, f, h1, h2⟩ := H.readF; exact ⟨n, f, by omega, h2⟩
    itm := fun x b hx => by
      obtain ⟨h1, ⟨n, h2, h3⟩, h4⟩ := H.itm x b hx
      exact ⟨h1, ⟨n, by omega, h3⟩, h4⟩
    lens := fun x => by have := H.lens x; omega }

/-- a map's block is not a block of cells -/
theorem map_ne {P : Program} {k : TypeId} {m n b : Nat} {f : Lit → Option Value} {cs : Array Value} {t : TypeId} {fr : Nat × Nat} (hm : mapF w P k m n f) (hb : w.heap[b]? = some (.cells cs t fr)) : b ≠ m := fun e => by
  obtain ⟨es, cl, hh⟩ := hm.isMap
  rw [← e, hb] at hh
  cases hh
end
end Go.Proofs.Qxb6600445a
