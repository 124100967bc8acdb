import Derived.Test.Qxb6600445aMem
namespace Go.Proofs.Qxb6600445a
open Go.RowKit
open Go.Maps (Keyed)
set_option linter.unusedVariables false

section
variable {w w' : World} {B c : Nat} {X : ByteArray → Option Nat} {ob : ByteArray → Nat} {E : ByteArray → Int} {O : ByteArray → ByteArray → Bool} {Wl RF WR : ByteArray → List ByteArray} {vW vR vP : ByteArray → Value}

theorem Mem.rowsCells (H : Mem w B c X ob E O Wl RF WR vW vR vP) {o : Nat × ByteArray} {g : Nat} (h : blk vW vR vP o = some g) : B + 4 ≤ g ∧ ∃ cur t, w.heap[g]? = some (.cells cur t (0, 0)) ∧ (t = 44 ∨ t = 64) := by
  unfold blk at h
  split at h
  · obtain ⟨a, cur, b⟩ := own_block (H.rowW o.2) h; exact ⟨a, cur, 44, b, .inl rfl⟩
  · split at h
    · obtain ⟨a, cur, b⟩ := own_block (H.rowR o.2) h; exact ⟨a, cur, 44, b, .inl rfl⟩
    · split at h
      · obtain ⟨a, cur, b⟩ := own_block (H.rowP o.2) h; exact ⟨a, cur, 64, b, .inr rfl⟩
      · cases h

/-- what a change of one map's block leaves alone -/
theorem Mem.turn (H : Mem w B c X ob E O Wl RF WR vW vR vP) {m : Nat} (hm : ∃ es cl, w.heap[m]? = some (.map es cl)) (hT : w.mapTurned w' m) :
    (∀ {k m' n f}, mapF w Try.prog k m' n f → m' ≠ m → mapF w' Try.prog k m' n f) ∧ (∀ {b : Nat} {cs : Array Value} {t : TypeId} {fr : Nat × Nat}, w.heap[b]? = some (Obj.cells cs t fr) → w'.heap[b]? = some (Obj.cells cs t fr)) ∧
    (∀ {base : Nat} {e : TypeId} {v : Value} {n : Nat} {xs : List Value}, w.ownsRow base e 1 v n xs → w'.ownsRow base e 1 v n xs) ∧ w.heap.size ≤ w'.heap.size := by
  obtain ⟨es, cl, hm⟩ := hm
  have hg := hT.grown
  have hc : ∀ {b : Nat} {cs : Array Value} {t : TypeId} {fr : Nat × Nat}, w.heap[b]? = some (Obj.cells cs t fr) → w'.heap[b]? = some (Obj.cells cs t fr) := fun {b cs t fr} h => by
    rw [hg.block b (Array.getElem?_eq_some_iff.1 h).1 (fun e => by cases e; rw [hm] at h; cases h)]; exact h
  refine ⟨fun h hne => h.of_block (hg.block _ h.lt (fun e => hne (by cases e; rfl))), hc, fun h => own_of_block h (fun g hgb => ?_), hg.size⟩
  obtain ⟨_, cur, hh⟩ := own_block h hgb
  rw [hh, hc hh]

theorem Mem.putEnded (H : Mem w B c X ob E O Wl RF WR vW vR vP) {n : Nat} (t : ByteArray) (a : Int) (ha : a ≠ 0) (hn : n ≤ c + 1) (hT : w.mapTurned w' (B + 1)) (hF : mapF w' Try.prog 44 (B + 1) n (keyF (up (fun t => if E t = 0 then none else some (.int .u8 (E t))) t (some (.int .u8 a))))) :
    Mem w' B (c + 1) X ob (up E t a) O Wl RF WR vW vR vP := by
  obtain ⟨n0, _, h0⟩ := H.ended
  obtain ⟨fm, fc, fo, fs⟩ := H.turn h0.isMap hT
  have H' := H.mono (Nat.le_succ c)
  refine ⟨?_, ?_, ?_, ?_, fun x b hx => ?_, H.inj, H.obinj, fun x => fo (H.rowW x), fun x => fo (H.rowR x), fun x => fo (H.rowP x), H.apart, H.absent, H'.lens, H.here, Nat.le_trans H.size fs⟩
  · obtain ⟨n, h1, h2⟩ := H'.items; exact ⟨n, h1, fm h2 (by omega)⟩
  · refine ⟨n, hn, ?_⟩
    have e : (up (fun t => if E t = 0 then none else some (.int .u8 (E t))) t (some (.int .u8 a)) : ByteArray → Option Value) = fun s => if up E t a s = 0 then none else some (.int .u8 (up E t a s)) := by
      funext s
      unfold up
      by_cases h : s = t
      · simp [h, ha]
      · simp [h]
    rw [e] at hF
    exact hF
  · obtain ⟨n, f, h1, h2, h3⟩ := H'.wrote; exact ⟨n, f, h1, fm h2 (by omega), h3⟩
  · obtain ⟨n, f, h1, h2, h3⟩ := H'.readF; exact ⟨n, f, h1, fm h2 (by omega), h3⟩
  · obtain ⟨h1, ⟨n, h2, h3⟩, h4, h5⟩ := H'.itm x b hx
    exact ⟨fc h1, ⟨n, h2, fm h3 (by omega)⟩, h4, h5⟩

theorem Mem.setO (H : Mem w B c X ob E O Wl RF WR vW vR vP) {n c' : Nat} (hcc : c ≤ c') (x : ByteArray) (b : Nat) (hx : X x = some b) (Ox : ByteArray → Bool) (hn : n ≤ c') (hT : w.mapTurned w' (ob x)) (hF : mapF w' Try.prog 44 (ob x) n (keyF fun t => if Ox t then some (.bool true) else none)) :
    Mem w' B c' X ob E (up O x Ox) Wl RF WR vW vR vP := by
  obtain ⟨_, ⟨n0, _, h0⟩, hob, _⟩ := H.itm x b hx
  obtain ⟨fm, fc, fo, fs⟩ := H.turn h0.isMap hT
  have H' := H.mono hcc
  refine ⟨?_, ?_, ?_, ?_, fun y b' hy => ?_, H.inj, H.obinj, fun x => fo (H.rowW x), fun x => fo (H.rowR x), fun x => fo (H.rowP x), H.apart, fun y hy => ?_, H'.lens, H.here, Nat.le_trans H.size fs⟩
  · obtain ⟨n, h1, h2⟩ := H'.items; exact ⟨n, h1, fm h2 (by omega)⟩
  · obtain ⟨n, h1, h2⟩ := H'.ended; exact ⟨n, h1, fm h2 (by omega)⟩
  · obtain ⟨n, f, h1, h2, h3⟩ := H'.wrote; exact ⟨n, f, h1, fm h2 (by omega), h3⟩
  · obtain ⟨n, f, h1, h2, h3⟩ := H'.readF; exact ⟨n, f, h1, fm h2 (by omega), h3⟩
  · obtain ⟨h1, ⟨n', h2, h3⟩, h4, h5⟩ := H'.itm y b' hy
    refine ⟨fc h1, ?_, h4, h5⟩
    by_cases e : y = x
    · subst e
      rw [up_at]
      exact ⟨n, hn, hF⟩
    · rw [up_ne _ _ _ _ e]
      exact ⟨n', h2, fm h3 (fun e' => e (H.obinj y x b' b hy hx e'))⟩
  · have e : y ≠ x := fun e => by subst e; rw [hx] at hy; cases hy
    rw [up_ne _ _ _ _ e]
    exact H.absent y hy

/-- the row of one owner turns: it lies where it lay, or in a new block -/
theorem apart_up {o : Nat × ByteArray} {blk blk' : Nat × ByteArray → Option Nat} (ho : ∀ o', o' ≠ o → blk' o' = blk o') (hap : ∀ o o' g, blk o = some g → blk o' = some g → o = o') (hnew : ∀ g, blk' o = some g → blk o = some g ∨ ∀ o', blk o' ≠ some g) :
    ∀ o1 o2 g, blk' o1 = some g → blk' o2 = some g → o1 = o2 := by
  intro o1 o2 g h1 h2
  by_cases e1 : o1 = o
  · by_cases e2 : o2 = o
    · rw [e1, e2]
    · rw [ho o2 e2] at h2
      rw [e1] at h1
      rcases hnew g h1 with h | h
      · exact absurd (hap o o2 g h h2).symm e2
      · exact absurd h2 (h o2)
  · rw [ho o1 e1] at h1
    by_cases e2 : o2 = o
    · rw [e2] at h2
      rcases hnew g h2 with h | h
      · exact absurd (hap o o1 g h h1).symm e1
      · exact absurd h1 (h o1)
    · rw [ho o2 e2] at h2
      exact hap o1 o2 g h1 h2

/-- delete(wrote, t) -/
theorem Mem.delWrote (H : Mem w B c X ob E O Wl RF WR vW vR vP) {n : Nat} {f : ByteArray → Option Value} (t : ByteArray) (hn : n ≤ c) (hf : ∀ s, (f s).getD nilS = vP s) (hT : w.mapTurned w' (B + 2)) (hF : mapF w' Try.prog 44 (B + 2) n (keyF (up f t none))) :
    Mem w' B c X ob E O Wl RF (up WR t []) vW vR (up vP t nilS) := by
  obtain ⟨n0, f0, _, h0, _⟩ := H.wrote
  obtain ⟨fm, fc, fo, fs⟩ := H.turn h0.isMap hT
  refine ⟨?_, ?_, ⟨n, up f t none, hn, hF, fun s => ?_⟩, ?_, fun y b' hy => ?_, H.inj, H.obinj, fun x => fo (H.rowW x), fun x => fo (H.rowR x), fun s => ?_, ?_, H.absent, fun s => ?_, fun s x hx => ?_, Nat.le_trans H.size fs⟩
  · obtain ⟨n, h1, h2⟩ := H.items; exact ⟨n, h1, fm h2 (by omega)⟩
  · obtain ⟨n, h1, h2⟩ := H.ended; exact ⟨n, h1, fm h2 (by omega)⟩
  · by_cases e : s = t
    · subst e; rw [up_at, up_at]; rfl
    · rw [up_ne _ _ _ _ e, up_ne _ _ _ _ e]; exact hf s
  · obtain ⟨n, f, h1, h2, h3⟩ := H.readF; exact ⟨n, f, h1, fm h2 (by omega), h3⟩
  · obtain ⟨h1, ⟨n', h2, h3⟩, h4, h5⟩ := H.itm y b' hy
    exact ⟨fc h1, ⟨n', h2, fm h3 (by omega)⟩, h4, h5⟩
  · by_cases e : s = t
    · subst e; rw [up_at, up_at]; exact World.ownsRow_nil _ _ _ _
    · rw [up_ne _ _ _ _ e, up_ne _ _ _ _ e]; exact fo (H.rowP s)
  · refine apart_up (o := (2, t)) (fun o' ho' => ?_) H.apart (fun g hg => ?_)
    · unfold blk
      obtain ⟨i, s⟩ := o'
      by_cases e : s = t
      · subst e
        have : i ≠ 2 := fun h => ho' (by rw [h])
        simp [this]
      · simp [up_ne _ _ _ _ e]
    · simp [blk, up_at, nilS, Value.ownBlock] at hg
  · have := H.lens s
    by_cases e : s = t
    · subst e; rw [up_at]; exact ⟨this.1, this.2.1, Nat.zero_le _⟩
    · rw [up_ne _ _ _ _ e]; exact this
  · by_cases e : s = t
    · subst e; rw [up_at] at hx; cases hx
    · rw [up_ne _ _ _ _ e] at hx; exact H.here s x hx

/-- delete(readFrom, t) -/
theorem Mem.delRead (H : Mem w B c X ob E O Wl RF WR vW vR vP) {n : Nat} {f : ByteArray → Option Value} (t : ByteArray) (hn : n ≤ c) (hf : ∀ s, (f s).getD nilS = vR s) (hT : w.mapTurned w' (B + 3)) (hF : mapF w' Try.prog 44 (B + 3) n (keyF (up f t none))) :
    Mem w' B c X ob E O Wl (up RF t []) WR vW (up vR t nilS) vP := by
  obtain ⟨n0, f0, _, h0, _⟩ := H.readF
  obtain ⟨fm, fc, fo, fs⟩ := H.turn h0.isMap hT
  refine ⟨?_, ?_, ?_, ⟨n, up f t none, hn, hF, fun s => ?_⟩, fun y b' hy => ?_, H.inj, H.obinj, fun x => fo (H.rowW x), fun s => ?_, fun x => fo (H.rowP x), ?_, H.absent, fun s => ?_, H.here, Nat.le_trans H.size fs⟩
  · obtain ⟨n, h1, h2⟩ := H.items; exact ⟨n, h1, fm h2 (by omega)⟩
  · obtain ⟨n, h1, h2⟩ := H.ended; exact ⟨n, h1, fm h2 (by omega)⟩
  · obtain ⟨n, f, h1, h2, h3⟩ := H.wrote; exact ⟨n, f, h1, fm h2 (by omega), h3⟩
  · by_cases e : s = t
    · subst e; rw [up_at, up_at]; rfl
    · rw [up_ne _ _ _ _ e, up_ne _ _ _ _ e]; exact hf s
  · obtain ⟨h1, ⟨n', h2, h3⟩, h4, h5⟩ := H.itm y b' hy
    exact ⟨fc h1, ⟨n', h2, fm h3 (by omega)⟩, h4, h5⟩
  · by_cases e : s = t
    · subst e; rw [up_at, up_at]; exact World.ownsRow_nil _ _ _ _
    · rw [up_ne _ _ _ _ e, up_ne _ _ _ _ e]; exact fo (H.rowR s)
  · refine apart_up (o := (1, t)) (fun o' ho' => ?_) H.apart (fun g hg => ?_)
    · unfold blk
      obtain ⟨i, s⟩ := o'
      by_cases e : s = t
      · subst e
        have : i ≠ 1 := fun h => ho' (by rw [h])
        simp [this]
      · simp [up_ne _ _ _ _ e]
    · simp [blk, up_at, nilS, Value.ownBlock] at hg
  · have := H.lens s
    by_cases e : s = t
    · subst e; rw [up_at]; exact ⟨this.1, Nat.zero_le _, this.2.2⟩
    · rw [up_ne _ _ _ _ e]; exact this
end
end Go.Proofs.Qxb6600445a
