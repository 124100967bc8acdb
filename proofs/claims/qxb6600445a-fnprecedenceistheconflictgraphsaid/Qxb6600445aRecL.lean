import Derived.Test.Qxb6600445aRel
import Derived.Deep.AppendLies
namespace Go.Proofs.Qxb6600445a
open Go.RowKit
open Go.Maps (Keyed)
set_option linter.unusedVariables false

theorem mapF.keys {w : World} {P : Program} {k : TypeId} {b c : Nat} {f : Lit → Option Value} (h : mapF w P k b c f) (K : Keyed P k) :
    ∃ L : List Lit, L.length = c ∧ L.Pairwise (· ≠ ·) ∧ (∀ l ∈ L, ∃ v, keyOf P k v = some l) ∧ ∀ v l, keyOf P k v = some l → ((f l).isSome = true ↔ l ∈ L) := by
  obtain ⟨D, h1, h2, h3⟩ := h
  obtain ⟨es0, e0, hp⟩ := h1.tidy K
  obtain ⟨es, clock, _, F, _, e1⟩ := h1
  rw [e0] at e1 h2 h3
  injection e1 with e1
  refine ⟨es0.map (·.1), by rw [List.length_map, ← h2]; rfl, ?_, fun l hl => ?_, fun v l hv => ?_⟩
  · rw [List.pairwise_map]; exact hp
  · obtain ⟨p, hp1, rfl⟩ := List.mem_map.1 hl
    rw [e1] at hp1
    have := (Go.WideShapes.sorted_perm _).mem_iff.1 hp1
    obtain ⟨x, hx, rfl⟩ := List.mem_map.1 this
    obtain ⟨y, hy⟩ := F.reads x hx
    rw [WideElems.rg_of hy]
    exact ⟨x.key, WideElems.rd_key hy⟩
  · rw [← (h3 v l hv).1, Go.Maps.has_eq, List.any_eq_true, List.mem_map]
    constructor
    · rintro ⟨p, hp1, hp2⟩
      exact ⟨p, hp1, WideAt.sameKey_eq hp2⟩
    · rintro ⟨p, hp1, rfl⟩
      exact ⟨p, hp1, WideAt.sameKey_self (K.key hv)⟩

theorem key44 {t : ByteArray} (h : t.size ≤ maxLen) : keyOf Try.prog 44 (.string t) = some (kl t) := WideMaps.keyOf_string_mk Try.underlying44 h
theorem key9 {t : ByteArray} (h : t.size ≤ maxLen) : keyOf Try.prog 9 (.string t) = some (kl t) := WideMaps.keyOf_string_mk Try.underlying9 h

/-- is another's write open? as the code asks it -/
theorem open_test {w : World} {m n : Nat} {O : ByteArray → Bool} (h : mapF w Try.prog 44 m n (keyF fun t => if O t then some (.bool true) else none)) (hO : ∀ t, O t = true → t.size ≤ maxLen) (T : ByteArray) :
    (1 < n ∨ (n = 1 ∧ O T = false)) ↔ ∃ t, t ≠ T ∧ O t = true := by
  obtain ⟨L, hl, hp, hk, hm⟩ := h.keys law44
  have at' : ∀ t, t.size ≤ maxLen → (O t = true ↔ kl t ∈ L) := fun t ht => by
    rw [← hm _ _ (key44 ht), keyF_at]
    cases O t <;> simp
  have back : ∀ l ∈ L, ∃ t, l = kl t ∧ O t = true := fun l hlL => by
    obtain ⟨v, hv⟩ := hk l hlL
    obtain ⟨s, rfl, rfl, hs⟩ := WideMaps.string_of_keyOf Try.underlying44 hv
    exact ⟨s, rfl, (at' s hs).2 hlL⟩
  constructor
  · intro hc
    match L, hl, hp, back with
    | [], hl, _, _ => simp at hl; omega
    | [l], hl, _, back =>
      simp at hl
      obtain ⟨t, rfl, ht⟩ := back l (by simp)
      refine ⟨t, fun e => ?_, ht⟩
      subst e
      rcases hc with h | ⟨_, h⟩
      · omega
      · rw [h] at ht; cases ht
    | l :: l' :: r, _, hp, back =>
      obtain ⟨t, rfl, ht⟩ := back l (by simp)
      obtain ⟨t', rfl, ht'⟩ := back l' (by simp)
      have hne : t ≠ t' := fun e => by
        have := (List.pairwise_cons.1 hp).1 (kl t') (by simp)
        exact this (by rw [e])
      by_cases e : t = T
      · exact ⟨t', fun e' => hne (by rw [e, e']), ht'⟩
      · exact ⟨t, e, ht⟩
  · rintro ⟨t, hne, ht⟩
    have m1 := (at' t (hO t ht)).1 ht
    have klinj : kl t ≠ kl T := fun e => by
      simp [kl] at e
      exact hne (ByteArray.ext e)
    cases hT : O T with
    | false =>
      have : L.length ≠ 0 := fun e => by rw [List.length_eq_zero_iff] at e; rw [e] at m1; cases m1
      by_cases h1 : n = 1
      · exact .inr ⟨h1, rfl⟩
      · left; omega
    | true =>
      have m2 := (at' T (hO T hT)).1 hT
      left
      match L, hl, m1, m2 with
      | [l], hl, m1, m2 => simp at m1 m2; exact absurd (m1.trans m2.symm) klinj
      | l :: l' :: r, hl, _, _ => simp at hl; omega

/-- what holds within a round -/
structure St (B nb : Nat) (w0 w : World) (c : Nat) (X : ByteArray → Option Nat) (ob : ByteArray → Nat) (E : ByteArray → Int) (O : ByteArray → ByteArray → Bool) (Wl RF WR : ByteArray → List ByteArray) (vW vR vP : ByteArray → Value) (t : ByteArray) (a : Int) (x : ByteArray) : Prop where
  mem : Mem w B c X ob E O Wl RF WR vW vR vP
  box : w.heap[nb]? = some (box t a x)
  bel : Below B w0 w

section
variable {B nb c : Nat} {w0 w w' : World} {X : ByteArray → Option Nat} {ob : ByteArray → Nat} {E : ByteArray → Int} {O : ByteArray → ByteArray → Bool} {Wl RF WR : ByteArray → List ByteArray} {vW vR vP : ByteArray → Value} {t x : ByteArray} {a : Int}

theorem St.below (H : St B nb w0 w c X ob E O Wl RF WR vW vR vP t a x) (hb : Below w.heap.size w w') : St B nb w0 w' c X ob E O Wl RF WR vW vR vP t a x :=
  ⟨H.mem.below hb, (hb.block nb (getElem_lt H.box)).trans H.box, H.bel.trans (hb.mono (by have := H.mem.size; omega))⟩

theorem St.boxCells (H : St B nb w0 w c X ob E O Wl RF WR vW vR vP t a x) : w.cell? ⟨nb, 0, none⟩ = some (.string t) ∧ w.cell? ⟨nb, 1, none⟩ = some (.int .u8 a) ∧ w.cell? ⟨nb, 2, none⟩ = some (.string x) :=
  ⟨cell_of_row w nb 0 _ 47 _ H.box, cell_of_row w nb 1 _ 47 _ H.box, cell_of_row w nb 2 _ 47 _ H.box⟩
theorem St.itemCells (H : St B nb w0 w c X ob E O Wl RF WR vW vR vP t a x) {y : ByteArray} {b : Nat} (hy : X y = some b) : w.cell? ⟨b, 0, none⟩ = some (vW y) ∧ w.cell? ⟨b, 1, none⟩ = some (.map (some (ob y))) ∧ ∀ i, w.frozen? ⟨b, i, none⟩ = false := by
  obtain ⟨h, _⟩ := H.mem.itm y b hy
  exact ⟨cell_of_row w b 0 _ 67 _ h, cell_of_row w b 1 _ 67 _ h, fun i => frozen_of_row w b i _ 67 h⟩

theorem St.lookItems (H : St B nb w0 w c X ob E O Wl RF WR vW vR vP t a x) {y : ByteArray} (hy : y.size ≤ maxLen) : (Instr.lookup 60 (.map (some B)) (.string y) false).run Try.prog w = .ok (((X y).map pt).getD (.pointer none)) w := by
  obtain ⟨n, _, h⟩ := H.mem.items
  rw [h.look law9 Try.underlying60 (zero64 _) (key9 hy), keyF_at]
theorem St.lookEnded (H : St B nb w0 w c X ob E O Wl RF WR vW vR vP t a x) {y : ByteArray} (hy : y.size ≤ maxLen) : (Instr.lookup 61 (.map (some (B + 1))) (.string y) false).run Try.prog w = .ok (.int .u8 (E y)) w := by
  obtain ⟨n, _, h⟩ := H.mem.ended
  rw [h.look law44 Try.underlying61 (zero45 _) (key44 hy), keyF_at]
  by_cases e : E y = 0 <;> simp [e]
theorem St.lookWrote (H : St B nb w0 w c X ob E O Wl RF WR vW vR vP t a x) {y : ByteArray} (hy : y.size ≤ maxLen) : (Instr.lookup 62 (.map (some (B + 2))) (.string y) false).run Try.prog w = .ok (vP y) w := by
  obtain ⟨n, f, _, h, hf⟩ := H.mem.wrote
  rw [h.look law44 Try.underlying62 (zero68 _) (key44 hy), keyF_at, ← hf y]
  rfl
theorem St.lookRead (H : St B nb w0 w c X ob E O Wl RF WR vW vR vP t a x) {y : ByteArray} (hy : y.size ≤ maxLen) : (Instr.lookup 63 (.map (some (B + 3))) (.string y) false).run Try.prog w = .ok (vR y) w := by
  obtain ⟨n, f, _, h, hf⟩ := H.mem.readF
  rw [h.look law44 Try.underlying63 (zero39 _) (key44 hy), keyF_at, ← hf y]
  rfl
theorem St.lookOpen (H : St B nb w0 w c X ob E O Wl RF WR vW vR vP t a x) {y z : ByteArray} {b : Nat} (hz : X z = some b) (hy : y.size ≤ maxLen) : (Instr.lookup 65 (.map (some (ob z))) (.string y) false).run Try.prog w = .ok (.bool (O z y)) w := by
  obtain ⟨_, ⟨n, _, h⟩, _⟩ := H.mem.itm z b hz
  rw [h.look law44 Try.underlying65 (zero4 _) (key44 hy), keyF_at]
  cases O z y <;> rfl
theorem St.lenOpen (H : St B nb w0 w c X ob E O Wl RF WR vW vR vP t a x) {z : ByteArray} {b : Nat} (hz : X z = some b) (hO : ∀ y, O z y = true → y.size ≤ maxLen) (T : ByteArray) : ∃ n : Nat, n ≤ c ∧ (∀ ty, (Builtin.len_ #[65] ty #[.map (some (ob z))]).run Try.prog w = .ok (.int .i64 n) w) ∧ ((1 < n ∨ (n = 1 ∧ O z T = false)) ↔ ∃ y, y ≠ T ∧ O z y = true) := by
  obtain ⟨_, ⟨n, hn, h⟩, _⟩ := H.mem.itm z b hz
  exact ⟨n, hn, fun ty => h.len Try.underlying65 ty, open_test h hO T⟩

theorem info_parts {e : TypeId} {z : Option Value} {s b : Nat} (h : (Try.prog.info? e).map (fun i => (i.zero, i.size, i.bytes)) = some (z, s, b)) : ∃ i, Try.prog.info? e = some i ∧ i.zero = z ∧ i.size = s ∧ i.bytes = b := by
  cases hh : Try.prog.info? e with
  | none => rw [hh] at h; cases h
  | some i => rw [hh] at h; simp at h; exact ⟨i, rfl, h.1, h.2.1, h.2.2⟩
theorem info44 : (Try.prog.info? 44).map (fun i => (i.zero, i.size, i.bytes)) = some (some (.string ByteArray.empty), 1, 16) := by kernel_rfl
theorem info64 : (Try.prog.info? 64).map (fun i => (i.zero, i.size, i.bytes)) = some (some (.pointer none), 1, 8) := by kernel_rfl

theorem St.newItem (H : St B nb w0 w c X ob E O Wl RF WR vW vR vP t a x) {y : ByteArray} (hy : y.size ≤ maxLen) (hX : X y = none) (hc : c < 1000000) :
    ∃ w', (Instr.mapUpdate 60 (.map (some B)) (.string y) (pt (w.heap.size + 1))).run Try.prog ((w.alloc (.map #[] 0)).alloc (item nilS w.heap.size)) = .ok () w' ∧ St B nb w0 w' (c + 1) (up X y (some (w.heap.size + 1))) (up ob y w.heap.size) E O Wl RF WR vW vR vP t a x := by
  obtain ⟨n, hn, h⟩ := H.mem.items
  have e1 : (w.alloc (.map #[] 0)).heap.size = w.heap.size + 1 := by simp
  have hb : Below w.heap.size w ((w.alloc (.map #[] 0)).alloc (item nilS w.heap.size)) := ((Below.refl _ _).alloc (Nat.le_refl _) _).alloc (by simp) _
  have h' := h.of_block (hb.block B h.lt)
  obtain ⟨w', hr, hF, hT⟩ := h'.put law9 Try.underlying60 (by unfold maxLen; omega) (val := pt (w.heap.size + 1)) (key9 hy) (keyF (up (fun x => (X x).map pt) y (some (pt (w.heap.size + 1))))) (keyF_up _ _ _).1 (keyF_up _ _ _).2
  have G := hT.grown
  have hs := H.mem.size
  have i1 : ((w.alloc (.map #[] 0)).alloc (item nilS w.heap.size)).heap[w.heap.size + 1]? = some (item nilS w.heap.size) := by rw [← e1]; exact heap_alloc_new _ _
  have i2 : ((w.alloc (.map #[] 0)).alloc (item nilS w.heap.size)).heap[w.heap.size]? = some (.map #[] 0) := by
    rw [Below.heap_alloc _ _ _ (by rw [e1]; omega)]; exact heap_alloc_new _ _
  have k : ∀ k, k < ((w.alloc (.map #[] 0)).alloc (item nilS w.heap.size)).heap.size → k ≠ B → w'.heap[k]? = ((w.alloc (.map #[] 0)).alloc (item nilS w.heap.size)).heap[k]? := fun k hk hne => G.block k hk (by simp; omega)
  have l1 := getElem_lt i1
  have l2 := getElem_lt i2
  have lb := getElem_lt H.box
  have nbne : nb ≠ B := map_ne h H.box
  refine ⟨w', hr, H.mem.newItem y (w.heap.size + 1) w.heap.size hX (by omega) (Nat.le_refl _) ?_ hF ((k _ l1 (by omega)).trans i1) ?_ (Nat.le_trans hb.size G.size) (fun j hj hne => (k j (Nat.lt_of_lt_of_le hj hb.size) hne).trans (hb.block j hj)), (k nb (Nat.lt_of_lt_of_le lb hb.size) nbne).trans ((hb.block nb lb).trans H.box), ?_⟩
  · split <;> omega
  · exact mapF_none (mapF_empty ((k _ l2 (by omega)).trans i2)) (fun _ => rfl)
  · have hb2 : Below B w0 ((w.alloc (.map #[] 0)).alloc (item nilS w.heap.size)) := H.bel.trans (hb.mono (by omega))
    exact ⟨G.os.trans hb2.os, G.tape.trans hb2.tape, G.output.trans hb2.output, Nat.le_trans hb2.size G.size, fun j hj => (k j (by have := hb.size; omega) (by omega)).trans (hb2.block j hj)⟩
end
end Go.Proofs.Qxb6600445a
