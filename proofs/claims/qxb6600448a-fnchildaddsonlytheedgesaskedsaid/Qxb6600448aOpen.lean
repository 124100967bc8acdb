import Derived.Test.Qxb6600448aCloneS
import Derived.ProofKit
import Derived.OpenShut
import Derived.ShutString
import Derived.ChangeOld
import Derived.Below
import Derived.Deep.Slices
import Derived.Deep.Strs
namespace Go.Proofs.Qxb6600448a
open Go.ChangeShapes Go.WideShapes Go.ChangeAt Go.RowKit
open Go.Deep (open_slice trod_struct3 choose_lt add_add)
set_option linter.unusedVariables false

theorem cells32 : Try.prog.cellsOf 32 = 3 := by kernel_rfl
theorem cells3 : Try.prog.cellsOf 3 = 1 := by kernel_rfl
theorem cells9 : Try.prog.cellsOf 9 = 1 := by kernel_rfl

theorem open_steps {H : Type} {enc : TypeId × Value → H} {W : World} {sp : Nat → Bool} {held : Bool} {fuel : Nat} {a : Option Addr} {len cap : Nat} {x : DataW H × List MemPlace}
    (h : DataW.trod enc Try.prog W 0 sp held fuel 22 [.slice a len cap] = some x) :
    ∃ b off st, Steps W a len cap b off st ∧ (∀ j, (st j).text.size ≤ maxLen) ∧ len ≤ maxLen := by
  rcases open_slice Try.underlying22 h with ⟨h0, _⟩ | ⟨ad, l, c, m, n, D, Pl, hcs, hb, hl, hm, hmm, _, hx⟩
  · simp at h0
    obtain ⟨rfl, rfl, rfl⟩ := h0
    exact ⟨0, 0, fun _ => ⟨0, 0, ByteArray.empty⟩, ⟨fun _ => ⟨rfl, rfl⟩, fun h => by omega, fun j hj => by omega⟩, fun j => Nat.zero_le _, Nat.zero_le _⟩
  · simp at hcs
    obtain ⟨rfl, rfl, rfl⟩ := hcs
    have hlm : len ≤ m := by rw [hmm]; split <;> omega
    have each : ∀ i, ∃ q : St, q.text.size ≤ maxLen ∧ (i < len → W.cell? (ad.add (i * 3)) = some (.int .i64 q.par) ∧ W.cell? (ad.add (i * 3 + 1)) = some (.int .i64 q.kind) ∧ W.cell? (ad.add (i * 3 + 2)) = some (.string q.text)) := by
      intro i
      by_cases hi : i < len
      · obtain ⟨cs', h1, h2⟩ := hx i (by omega)
        rw [cells32] at h1
        obtain ⟨_, hlen, hcell⟩ := World.cells?_some h1
        obtain ⟨y0, y1, y2, k, _, _, g0, g1, g2⟩ := trod_struct3 Try.underlying32 h2
        match cs', hlen with
        | [v0, v1, v2], _ =>
          simp [cells3, cells9] at g0 g1 g2
          obtain ⟨p, e0, _, _⟩ := DataW.trod_int Try.underlying3 g0
          obtain ⟨kk, e1, _, _⟩ := DataW.trod_int Try.underlying3 g1
          obtain ⟨s, e2, _, hs⟩ := DataW.trod_string Try.underlying9 g2
          simp at e0 e1 e2
          subst e0 e1 e2
          have f0 := hcell 0 (by omega)
          have f1 := hcell 1 (by omega)
          have f2 := hcell 2 (by omega)
          rw [add_add] at f0 f1 f2
          exact ⟨⟨p, kk, s⟩, hs, fun _ => ⟨by simpa using f0, by simpa using f1, by simpa using f2⟩⟩
      · exact ⟨⟨0, 0, ByteArray.empty⟩, Nat.zero_le _, fun h => absurd h hi⟩
    have hst : ∃ st : Nat → St, ∀ i, (st i).text.size ≤ maxLen ∧ (i < len → W.cell? (ad.add (i * 3)) = some (.int .i64 (st i).par) ∧ W.cell? (ad.add (i * 3 + 1)) = some (.int .i64 (st i).kind) ∧ W.cell? (ad.add (i * 3 + 2)) = some (.string (st i).text)) :=
      ⟨fun i => (each i).choose, fun i => (each i).choose_spec⟩
    obtain ⟨st, hst⟩ := hst
    obtain ⟨b, off, spot⟩ := ad
    by_cases h0 : 0 < len
    · have hs : spot = none := by simpa [Addr.add] using World.cell?_spot ((hst 0).2 h0).1
      subst hs
      refine ⟨b, off, st, ⟨fun h => (by cases h), fun _ => rfl, fun j hj => ?_⟩, fun j => (hst j).1, by omega⟩
      have := (hst j).2 hj
      simp only [Addr.add_lit, Nat.add_assoc] at this ⊢
      exact this
    · exact ⟨0, 0, st, ⟨fun h => (by cases h), fun h => absurd h h0, fun j hj => by omega⟩, fun j => (hst j).1, by omega⟩
end Go.Proofs.Qxb6600448a
