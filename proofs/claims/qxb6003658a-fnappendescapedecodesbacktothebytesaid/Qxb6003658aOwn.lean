import Derived.Test.Qxb6003658aCode
namespace Go.Proofs.Qxb6003658a
open Go.RowKit
set_option linter.unusedVariables false

/-- a slice of bytes that can be read: nil, or its elements' cells are there -/
def Src (w : World) (a : Option Addr) (n : Nat) (l : List Int) : Prop :=
  l.length = n ∧ ((a = none ∧ n = 0) ∨ ∃ x, a = some x ∧ ∀ j, j < n → w.cell? (x.add j) = some (.int .u8 (l.getD j 0)))

theorem grown_of_below {w w' : World} (h : Below w.heap.size w w') : w.grownBy w' none := ⟨h.os, h.tape, h.output, h.size, fun k hk _ => h.block k hk⟩
theorem below_of_grown {w w' : World} (h : w.grownBy w' none) : Below w.heap.size w w' := (Below.refl _ _).grown h (Nat.le_refl _) (fun k h => by cases h)

theorem cellsOf_at (l : List Int) (j : Nat) (h : j < l.length) : (cellsOf l)[j]? = some (.int .u8 (l.getD j 0)) := by
  simp [cellsOf, h]

/-- what an owned slice of bytes looks like -/
theorem own_src {w : World} {base : Nat} {v : Value} {n : Nat} {l : List Int} (h : w.ownsRow base 5 1 v n (cellsOf l)) :
    ∃ a c, v = .slice a n c ∧ Src w a n l := by
  have hl : l.length = n := by simpa [cellsOf] using h.1
  rcases h.2 with ⟨rfl, rfl⟩ | ⟨g, cap, cur, rfl, hb, hg, hnc, hcm, hcs, htake⟩
  · exact ⟨none, 0, rfl, hl, .inl ⟨rfl, rfl⟩⟩
  · refine ⟨_, _, rfl, hl, .inr ⟨_, rfl, fun j hj => ?_⟩⟩
    rw [Addr.add_lit, Nat.zero_add, h.cellAt j (by omega), cellsOf_at l j (by omega)]

theorem own_cells {w : World} {base g n c : Nat} {l : List Int} (h : w.ownsRow base 5 1 (.slice (some ⟨g, 0, none⟩) n c) n (cellsOf l)) : l.length = n ∧ ∀ j, j < n → w.cell? ⟨g, j, none⟩ = some (.int .u8 (l.getD j 0)) := by
  have hl : l.length = n := by simpa [cellsOf] using h.1
  exact ⟨hl, fun j hj => by rw [h.cellAt j (by omega), cellsOf_at l j (by omega)]⟩

theorem own_some {w : World} {base : Nat} {a : Option Addr} {n c : Nat} {xs : List Value} (h : w.ownsRow base 5 1 (.slice a n c) n xs) (hn : 0 < n) : ∃ g, a = some ⟨g, 0, none⟩ := by
  obtain ⟨g, cap, hv, _⟩ := h.form hn
  simp at hv
  exact ⟨g, hv.1⟩

theorem clone_any (a : Option Addr) (n c : Nat) (l : List Int) (w : World) (hs : Src w a n l) (hn : n ≤ 1048576) :
    Calls Try.prog 7 #[.slice a n c] w fun e w' => ∃ a' c', e = .returned (.slice a' n c') ∧ w'.ownsRow w.heap.size 5 1 (.slice a' n c') n (cellsOf l) ∧ w.grownBy w' none := by
  obtain ⟨hl, ⟨rfl, rfl⟩ | ⟨x, rfl, hc⟩⟩ := hs
  · have : l = [] := List.eq_nil_of_length_eq_zero hl
    subst this
    have q := nilq
    go_enter Try.func7, Try.ntmps7
    go_wp2
    go_ret
    exact ⟨none, 0, rfl, World.ownsRow_nil _ _ _ _, World.grownBy.refl _ _⟩
  · refine (clone_some x n c l w hl hn hc).mono ?_
    rintro e w' ⟨rfl, hown, hb⟩
    exact ⟨_, _, rfl, hown, grown_of_below hb⟩

theorem keepN {w w' : World} {base : Nat} {v : Value} {n : Nat} {xs : List Value} (h : w.ownsRow base 5 1 v n xs) (g : w.grownBy w' none) : w'.ownsRow base 5 1 v n xs :=
  h.kept g (by cases v.ownBlock <;> simp)
theorem keepO {w w' : World} {base : Nat} {v : Value} {n : Nat} {xs : List Value} {row : Option Nat} (h : w.ownsRow base 5 1 v n xs) (g : w.grownBy w' row) (hr : ∀ k, row = some k → k < base) : w'.ownsRow base 5 1 v n xs := by
  refine h.kept g ?_
  cases hv : v.ownBlock with
  | none => exact .inl rfl
  | some k =>
    refine .inr fun e => ?_
    have := (h.lt k hv).1
    have := hr k e.symm
    omega
theorem own_lt {w : World} {base : Nat} {a : Option Addr} {n c : Nat} {xs : List Value} (h : w.ownsRow base 5 1 (.slice a n c) n xs) : ∀ k, a.map (·.block) = some k → base ≤ k ∧ k < w.heap.size := by
  intro k hk
  refine h.lt k ?_
  cases a with
  | none => simp at hk
  | some x => simpa [Value.ownBlock] using hk

theorem cellsOf_append (a b : List Int) : cellsOf a ++ cellsOf b = cellsOf (a ++ b) := by simp [cellsOf]

theorem zzesc (base : Nat) (a : Option Addr) (n cp : Nat) (l : List Int) (c : Int) (w : World) (hown : w.ownsRow base 5 1 (.slice a n cp) n (cellsOf l)) (hn : n ≤ 1048576) (hb : base ≤ w.heap.size) (h0 : 0 ≤ c) (h255 : c ≤ 255) (m : Nat) (hm : (esc c).length = m) :
    Calls Try.prog 11 #[.slice a n cp, .int .u8 c] w fun e w' => ∃ g c', e = .returned (.slice (some ⟨g, 0, none⟩) (n + m) c') ∧ w'.ownsRow base 5 1 (.slice (some ⟨g, 0, none⟩) (n + m) c') (n + m) (cellsOf (l ++ esc c)) ∧ w.grownBy w' (a.map (·.block)) := by
  refine (zzesc_any base _ n _ c w hown hn hb h0 h255).mono ?_
  rintro e w' ⟨v', rfl, h1, h2⟩
  rw [hm, cellsOf_append] at h1
  have := len_ge c h0 h255
  obtain ⟨g, cap, rfl, _⟩ := h1.form (by omega)
  refine ⟨g, cap, rfl, h1, ?_⟩
  cases a <;> exact h2

theorem zz14 (a : Option Addr) (n c : Nat) (a1 a2 : Int) (w : World) (hn : n ≤ 9223372036854775807) :
    Calls Try.prog 14 #[.slice a n c, .int .u8 a1, .int .u8 a2] w fun e w' => e = .returned (.bool (decide (n ≤ 1048576))) ∧ w = w' := by
  by_cases h : n ≤ 1048576
  · have hd : decide (n ≤ 1048576) = true := by simpa using h
    rw [hd]
    go_enter Try.func14, Try.ntmps14
    go_wp2
    go_ret
    exact ⟨rfl, rfl⟩
  · have hd : decide (n ≤ 1048576) = false := by simpa using h
    rw [hd]
    go_enter Try.func14, Try.ntmps14
    go_wp2
    go_ret
    exact ⟨rfl, rfl⟩
end Go.Proofs.Qxb6003658a
