import Derived.Test.Qxb6600445aBase
import Derived.ProofKit
import Derived.OpenShut
import Derived.ShutString
import Derived.ChangeOld
import Derived.Below
import Derived.Deep.Slices
import Derived.Deep.Strs
namespace Go.Proofs.Qxb6600445a
open Go.ChangeShapes Go.WideShapes Go.ChangeAt Go.RowKit
open Go.Deep (open_slice1 open_strs)
set_option linter.unusedVariables false

theorem cells5 : Try.prog.cellsOf 5 = 1 := by kernel_rfl
theorem cells9 : Try.prog.cellsOf 9 = 1 := by kernel_rfl

theorem open_names {H : Type} {enc : TypeId × Value → H} {W : World} {sp : Nat → Bool} {held : Bool} {fuel : Nat} {a : Option Addr} {len cap : Nat} {x : DataW H × List MemPlace}
    (h : DataW.trod enc Try.prog W 0 sp held fuel 22 [.slice a len cap] = some x) :
    ∃ b off f, StrsAt W a len b off f ∧ (∀ j, (f j).size ≤ maxLen) ∧ len ≤ maxLen := by
  rcases open_strs Try.underlying22 Try.underlying9 cells9 h with ⟨h0, _⟩ | ⟨ad, l, c, m, S, hcs, hb, hl, hm, hmm, _, hx⟩
  · simp at h0
    obtain ⟨rfl, rfl, rfl⟩ := h0
    exact ⟨0, 0, fun _ => ByteArray.empty, ⟨fun h => by omega, fun j hj => by omega⟩, fun j => Nat.zero_le _, Nat.zero_le _⟩
  · simp at hcs
    obtain ⟨rfl, rfl, rfl⟩ := hcs
    have hlm : len ≤ m := by rw [hmm]; split <;> omega
    obtain ⟨b, off, spot⟩ := ad
    refine ⟨b, off, fun i => if i < len then S i else ByteArray.empty, ⟨fun h0 => ?_, fun j hj => ?_⟩, fun j => ?_, by omega⟩
    · have hs : spot = none := by simpa [Addr.add] using World.cell?_spot (hx 0 (by omega)).1
      rw [hs]
    · have e := (hx j (by omega)).1
      have hs : spot = none := by simpa [Addr.add] using World.cell?_spot (hx 0 (by omega)).1
      subst hs
      rw [Addr.add_lit] at e
      simp only [if_pos hj]
      exact e
    · simp only
      split
      · exact (hx j (by omega)).2
      · exact Nat.zero_le _

theorem open_u8s {H : Type} {enc : TypeId × Value → H} {W : World} {sp : Nat → Bool} {held : Bool} {fuel : Nat} {a : Option Addr} {len cap : Nat} {x : DataW H × List MemPlace}
    (h : DataW.trod enc Try.prog W 0 sp held fuel 23 [.slice a len cap] = some x) :
    ∃ b off f, BytesAt W a len b off f ∧ (∀ j, 0 ≤ f j) ∧ len ≤ maxLen := by
  rcases open_slice1 Try.underlying23 cells5 h with ⟨h0, _⟩ | ⟨ad, l, c, m, n, V, D, Pl, hcs, hb, hl, hm, hmm, _, hx⟩
  · simp at h0
    obtain ⟨rfl, rfl, rfl⟩ := h0
    exact ⟨0, 0, fun _ => 0, ⟨fun h => by omega, fun j hj => by omega⟩, fun j => Int.le_refl _, Nat.zero_le _⟩
  · simp at hcs
    obtain ⟨rfl, rfl, rfl⟩ := hcs
    have hlm : len ≤ m := by rw [hmm]; split <;> omega
    obtain ⟨b, off, spot⟩ := ad
    have each : ∀ i, ∃ q : Int, 0 ≤ q ∧ (i < len → V i = .int .u8 q) := by
      intro i
      by_cases hi : i < len
      · obtain ⟨h1, h2⟩ := hx i (by omega)
        obtain ⟨q, e0, _, hw⟩ := DataW.trod_int Try.underlying5 h2
        simp at e0
        exact ⟨q, by have e1 : IntKind.u8.min = 0 := rfl; simp [Lit.wf] at hw; omega, fun _ => e0⟩
      · exact ⟨0, Int.le_refl _, fun h => absurd h hi⟩
    obtain ⟨f, hf⟩ : ∃ f : Nat → Int, ∀ i, 0 ≤ f i ∧ (i < len → V i = .int .u8 (f i)) := ⟨fun i => (each i).choose, fun i => (each i).choose_spec⟩
    refine ⟨b, off, f, ⟨fun h0 => ?_, fun j hj => ?_⟩, fun j => (hf j).1, by omega⟩
    · have hs : spot = none := by simpa [Addr.add] using World.cell?_spot (hx 0 (by omega)).1
      rw [hs]
    · have e := (hx j (by omega)).1
      have hs : spot = none := by simpa [Addr.add] using World.cell?_spot (hx 0 (by omega)).1
      subst hs
      rw [Addr.add_lit, (hf j).2 hj] at e
      exact e
def WordsAt (w : World) (a : Option Addr) (n b off : Nat) (f : Nat → Int) : Prop :=
  (0 < n → a = some ⟨b, off, none⟩) ∧ ∀ j, j < n → w.cell? ⟨b, off + j, none⟩ = some (.int .u16 (f j))
def BoolsAt (w : World) (a : Option Addr) (n b off : Nat) (f : Nat → Bool) : Prop :=
  (0 < n → a = some ⟨b, off, none⟩) ∧ ∀ j, j < n → w.cell? ⟨b, off + j, none⟩ = some (.bool (f j))
theorem cells41 : Try.prog.cellsOf 41 = 1 := by kernel_rfl
theorem cells4 : Try.prog.cellsOf 4 = 1 := by kernel_rfl

theorem open_u16s {H : Type} {enc : TypeId × Value → H} {W : World} {sp : Nat → Bool} {held : Bool} {fuel : Nat} {a : Option Addr} {len cap : Nat} {x : DataW H × List MemPlace}
    (h : DataW.trod enc Try.prog W 0 sp held fuel 33 [.slice a len cap] = some x) :
    ∃ b off f, WordsAt W a len b off f ∧ (∀ j, 0 ≤ f j ∧ f j ≤ 65535) ∧ len ≤ maxLen := by
  rcases open_slice1 Try.underlying33 cells41 h with ⟨h0, _⟩ | ⟨ad, l, c, m, n, V, D, Pl, hcs, hb, hl, hm, hmm, _, hx⟩
  · simp at h0
    obtain ⟨rfl, rfl, rfl⟩ := h0
    exact ⟨0, 0, fun _ => 0, ⟨fun h => by omega, fun j hj => by omega⟩, fun j => ⟨Int.le_refl _, (show (0:Int) ≤ 65535 by decide)⟩, Nat.zero_le _⟩
  · simp at hcs
    obtain ⟨rfl, rfl, rfl⟩ := hcs
    have hlm : len ≤ m := by rw [hmm]; split <;> omega
    obtain ⟨b, off, spot⟩ := ad
    have each : ∀ i, ∃ q : Int, (0 ≤ q ∧ q ≤ 65535) ∧ (i < len → V i = .int .u16 q) := by
      intro i
      by_cases hi : i < len
      · obtain ⟨h1, h2⟩ := hx i (by omega)
        obtain ⟨q, e0, _, hw⟩ := DataW.trod_int Try.underlying41 h2
        simp at e0
        exact ⟨q, by have e1 : IntKind.u16.min = 0 := rfl; have e2 : IntKind.u16.max = 65535 := rfl; simp [Lit.wf] at hw; omega, fun _ => e0⟩
      · exact ⟨0, ⟨Int.le_refl _, by decide⟩, fun h => absurd h hi⟩
    obtain ⟨f, hf⟩ : ∃ f : Nat → Int, ∀ i, (0 ≤ f i ∧ f i ≤ 65535) ∧ (i < len → V i = .int .u16 (f i)) := ⟨fun i => (each i).choose, fun i => (each i).choose_spec⟩
    refine ⟨b, off, f, ⟨fun h0 => ?_, fun j hj => ?_⟩, fun j => (hf j).1, by omega⟩
    · have hs : spot = none := by simpa [Addr.add] using World.cell?_spot (hx 0 (by omega)).1
      rw [hs]
    · have e := (hx j (by omega)).1
      have hs : spot = none := by simpa [Addr.add] using World.cell?_spot (hx 0 (by omega)).1
      subst hs
      rw [Addr.add_lit, (hf j).2 hj] at e
      exact e
theorem open_bools {H : Type} {enc : TypeId × Value → H} {W : World} {sp : Nat → Bool} {held : Bool} {fuel : Nat} {a : Option Addr} {len cap : Nat} {x : DataW H × List MemPlace}
    (h : DataW.trod enc Try.prog W 0 sp held fuel 34 [.slice a len cap] = some x) :
    ∃ b off f, BoolsAt W a len b off f ∧ len ≤ maxLen := by
  rcases open_slice1 Try.underlying34 cells4 h with ⟨h0, _⟩ | ⟨ad, l, c, m, n, V, D, Pl, hcs, hb, hl, hm, hmm, _, hx⟩
  · simp at h0
    obtain ⟨rfl, rfl, rfl⟩ := h0
    exact ⟨0, 0, fun _ => false, ⟨fun h => by omega, fun j hj => by omega⟩, Nat.zero_le _⟩
  · simp at hcs
    obtain ⟨rfl, rfl, rfl⟩ := hcs
    have hlm : len ≤ m := by rw [hmm]; split <;> omega
    obtain ⟨b, off, spot⟩ := ad
    have each : ∀ i, ∃ q : Bool, i < len → V i = .bool q := by
      intro i
      by_cases hi : i < len
      · obtain ⟨h1, h2⟩ := hx i (by omega)
        obtain ⟨q, e0, _⟩ := DataW.trod_bool Try.underlying4 h2
        simp at e0
        exact ⟨q, fun _ => e0⟩
      · exact ⟨false, fun h => absurd h hi⟩
    obtain ⟨f, hf⟩ : ∃ f : Nat → Bool, ∀ i, i < len → V i = .bool (f i) := ⟨fun i => (each i).choose, fun i => (each i).choose_spec⟩
    refine ⟨b, off, f, ⟨fun h0 => ?_, fun j hj => ?_⟩, by omega⟩
    · have hs : spot = none := by simpa [Addr.add] using World.cell?_spot (hx 0 (by omega)).1
      rw [hs]
    · have e := (hx j (by omega)).1
      have hs : spot = none := by simpa [Addr.add] using World.cell?_spot (hx 0 (by omega)).1
      subst hs
      rw [Addr.add_lit, hf j hj] at e
      exact e
end Go.Proofs.Qxb6600445a
