import Derived.Test.Qxb6003658aHex4
namespace Go.Proofs.Qxb6003658a
open Go.RowKit
set_option linter.unusedVariables false

theorem zz6 (a : Option Addr) (n c : Nat) (w : World) (hn : n ≤ 9223372036854775807) :
    Calls Try.prog 6 #[.slice a n c] w fun e w' => e = .returned (.bool (decide (n ≤ 1048576))) ∧ w = w' := by
  by_cases h : n ≤ 1048576
  · have hd : decide (n ≤ 1048576) = true := by simpa using h
    rw [hd]
    go_enter Try.func6, Try.ntmps6
    go_wp2
    go_ret
    exact ⟨rfl, rfl⟩
  · have hd : decide (n ≤ 1048576) = false := by simpa using h
    rw [hd]
    go_enter Try.func6, Try.ntmps6
    go_wp2
    go_ret
    exact ⟨rfl, rfl⟩

theorem hx_big (a : Option Addr) (n c : Nat) (w : World) (hn : n ≤ 9223372036854775807) (hbig : 1048576 < n) :
    Calls Try.prog 3 #[.slice a n c] w fun e w' => e = .returned (.bool true) ∧ Below w.heap.size w w' := by
  have hd : decide (n ≤ 1048576) = false := by simp; omega
  go_enter Try.func3, Try.ntmps3
  go_wp2_with (go_at_call 6; refine (zz6 _ _ _ _ hn).mono ?_; rintro e w' ⟨rfl, rfl⟩; rw [hd])
  go_ret
  exact ⟨rfl, Below.refl _ _⟩

theorem own_cap {w : World} {base g n c : Nat} {xs : List Value} (h : w.ownsRow base 5 1 (.slice (some ⟨g, 0, none⟩) n c) n xs) : n ≤ c := by
  rcases h.2 with ⟨e, _⟩ | ⟨g', cap, cur, e, _, _, hnc, _⟩
  · simp at e
  · simp at e
    omega

theorem hexOut_cases (l : List Int) : hexOut l = (0, false) ∨ (hexOut l).2 = true := by
  unfold hexOut
  split
  · exact .inr rfl
  · exact .inl rfl

set_option maxHeartbeats 1000000 in
theorem hx_core (a : Option Addr) (n c : Nat) (l : List Int) (w : World) (hs : Src w a n l) (hn : n ≤ 1048576) (hb : ∀ j, 0 ≤ l.getD j 0 ∧ l.getD j 0 ≤ 255) :
    Calls Try.prog 3 #[.slice a n c] w fun e w' => e = .returned (.bool true) ∧ Below w.heap.size w w' := by
  have hd : decide (n ≤ 1048576) = true := by simpa using hn
  have HS : Hid (Src w a n l) := hs
  have HB : Hid (∀ j, 0 ≤ l.getD j 0 ∧ l.getD j 0 ≤ 255) := hb
  clear hs hb
  go_enter Try.func3, Try.ntmps3
  go_wp2_with (go_at_call 6; refine (zz6 _ _ _ _ (by omega)).mono ?_; rintro e w' ⟨rfl, rfl⟩; rw [hd])
  refine (clone_any a n c l w HS.out hn).mono ?_
  rintro e wA ⟨ab, cb, rfl, oA, gA⟩
  have bel := below_of_grown gA
  by_cases h4 : n < 4
  · clear oA gA
    go_wp2_with (first | (go_at_call 8; refine (hexM_short _ _ _ _ h4).mono ?_; rintro e w' ⟨rfl, rfl⟩) | (go_at_call 9; refine (zzhex_short _ _ _ _ h4).mono ?_; rintro e w' ⟨rfl, rfl⟩))
    go_ret
    exact ⟨rfl, bel⟩
  · obtain ⟨g, rfl⟩ := own_some oA (by omega)
    have cs := own_cells oA
    have hcap := own_cap oA
    have K8 := hid (hexM_long g 0 n cb l wA (by omega) (fun j hj => by rw [Nat.zero_add]; exact cs.2 j (by omega)) HB.out)
    have K9 := hid (zzhex_long g 0 n cb l wA (by omega) hcap (fun j hj => by rw [Nat.zero_add]; exact cs.2 j (by omega)) HB.out)
    clear cs oA gA
    rcases hexOut_cases l with ho | ho
    · rw [ho] at K8 K9
      clear ho
      go_wp2_with (first | (go_at_call 8; refine (K8.out).mono ?_; rintro e w' ⟨rfl, rfl⟩) | (go_at_call 9; refine (K9.out).mono ?_; rintro e w' ⟨rfl, rfl⟩))
      go_ret
      exact ⟨rfl, bel⟩
    · rw [ho] at K8 K9
      clear ho
      generalize (hexOut l).1 = x at *
      go_wp2_with (first | (go_at_call 8; refine (K8.out).mono ?_; rintro e w' ⟨rfl, rfl⟩) | (go_at_call 9; refine (K9.out).mono ?_; rintro e w' ⟨rfl, rfl⟩))
      go_ret
      exact ⟨rfl, bel⟩
end Go.Proofs.Qxb6003658a
