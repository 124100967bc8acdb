import Derived.Test.Qxb6003658aHxWalk
namespace Go.Proofs.Qxb6003658a
open Go.RowKit
set_option linter.unusedVariables false

/-- the reading of a two-sign escape -/
def jsu (l : Int) : Int × Bool :=
  if l = 34 then (34, true) else if l = 92 then (92, true) else if l = 47 then (47, true) else if l = 98 then (8, true) else if l = 102 then (12, true)
  else if l = 110 then (10, true) else if l = 114 then (13, true) else if l = 116 then (9, true) else (0, false)
def hse (c : Int) : Bool := decide (c = 34 ∨ c = 92 ∨ c = 8 ∨ c = 12 ∨ c = 10 ∨ c = 13 ∨ c = 9)
def hit2 (c : Int) (k : Nat) : Prop := ¬ k = 47 ∧ (jsu (k : Int)).2 = true ∧ (jsu (k : Int)).1 = c

theorem hit2_is (c : Int) (k : Nat) (h : hit2 c k) : hse c = true := by
  obtain ⟨h1, h2, h3⟩ := h
  unfold jsu at h2 h3
  unfold hse
  rw [decide_eq_true_eq]
  repeat' split at h3
  all_goals (try simp_all)
  all_goals omega
theorem miss2_is (c : Int) (h : ∀ k, k < 256 → ¬ hit2 c k) : hse c = false := by
  cases e : hse c with
  | false => rfl
  | true =>
    exfalso
    unfold hse at e
    rw [decide_eq_true_eq] at e
    rcases e with rfl | rfl | rfl | rfl | rfl | rfl | rfl
    · exact h 34 (by omega) (by unfold hit2; decide +kernel)
    · exact h 92 (by omega) (by unfold hit2; decide +kernel)
    · exact h 98 (by omega) (by unfold hit2; decide +kernel)
    · exact h 102 (by omega) (by unfold hit2; decide +kernel)
    · exact h 110 (by omega) (by unfold hit2; decide +kernel)
    · exact h 114 (by omega) (by unfold hit2; decide +kernel)
    · exact h 116 (by omega) (by unfold hit2; decide +kernel)

theorem jsu_any (l : Int) (w : World) : Calls Try.prog 13 #[.int .u8 l] w fun e w' => e = .returned (.tuple #[.int .u8 (jsu l).1, .bool (jsu l).2]) ∧ w = w' := by
  unfold jsu
  have f : ∀ k : Int, ¬ l = k → (l == k) = false := fun k h => beq_eq_false_iff_ne.2 h
  by_cases h1 : l = 34
  · subst h1
    go_enter Try.func13, Try.ntmps13
    go_wp2
    go_ret2
    exact ⟨rfl, rfl⟩
  by_cases h2 : l = 92
  · subst h2
    go_enter Try.func13, Try.ntmps13
    go_wp2
    go_ret2
    exact ⟨rfl, rfl⟩
  by_cases h3 : l = 47
  · subst h3
    go_enter Try.func13, Try.ntmps13
    go_wp2
    go_ret2
    exact ⟨rfl, rfl⟩
  by_cases h4 : l = 98
  · subst h4
    go_enter Try.func13, Try.ntmps13
    go_wp2
    go_ret2
    exact ⟨rfl, rfl⟩
  by_cases h5 : l = 102
  · subst h5
    go_enter Try.func13, Try.ntmps13
    go_wp2
    go_ret2
    exact ⟨rfl, rfl⟩
  by_cases h6 : l = 110
  · subst h6
    go_enter Try.func13, Try.ntmps13
    go_wp2
    go_ret2
    exact ⟨rfl, rfl⟩
  by_cases h7 : l = 114
  · subst h7
    go_enter Try.func13, Try.ntmps13
    go_wp2
    go_ret2
    exact ⟨rfl, rfl⟩
  by_cases h8 : l = 116
  · subst h8
    go_enter Try.func13, Try.ntmps13
    go_wp2
    go_ret2
    exact ⟨rfl, rfl⟩
  rw [if_neg h1, if_neg h2, if_neg h3, if_neg h4, if_neg h5, if_neg h6, if_neg h7, if_neg h8]
  have g1 := f _ h1
  have g2 := f _ h2
  have g3 := f _ h3
  have g4 := f _ h4
  have g5 := f _ h5
  have g6 := f _ h6
  have g7 := f _ h7
  have g8 := f _ h8
  clear f h1 h2 h3 h4 h5 h6 h7 h8
  go_enter Try.func13, Try.ntmps13
  go_wp2
  go_ret2
  exact ⟨rfl, rfl⟩

set_option maxRecDepth 100000 in
set_option maxHeartbeats 800000 in
theorem hse_any (c : Int) (w : World) (h0 : 0 ≤ c) (h1 : c ≤ 255) : Calls Try.prog 12 #[.int .u8 c] w fun e w' => e = .returned (.bool (hse c)) ∧ w = w' := by
  go_enter Try.func12, Try.ntmps12
  go_wp2
  go_loop [3] (fun i => ∃ k : Nat, k ≤ 256 ∧ i = .int .i64 k ∧ ∀ j, j < k → ¬ hit2 c j) (fun i => 256 - (intOf i).toNat)
  case atStart => exact ⟨0, by omega, rfl, fun j hj => by omega⟩
  case round =>
    obtain ⟨k, hk, rfl, hm0⟩ := hrel
    have HM := hid hm0
    clear hm0
    by_cases hlt : k < 256
    · have i1 : (k : Int) < 256 := by omega
      have HN := hid (show ¬ hit2 c k → ∀ j, j < k + 1 → ¬ hit2 c j from fun e j hj => by
        by_cases h : j < k
        · exact HM.out j h
        · have : j = k := by omega
          subst this; exact e)
      by_cases h47 : k = 47
      · have q : ((k : Int) == 47) = true := by simp; omega
        have HR := hid (HN.out (fun h => h.1 h47))
        clear h47
        go_wp2_with fail
        go_round
        case rel => exact ⟨k + 1, by omega, by go_num, HR.out⟩
        case measure => simp [intOf]; omega
      · have q : ((k : Int) == 47) = false := by simp; omega
        have J := hid (jsu_any (k : Int))
        have HI := hid (hit2_is c k)
        have HD := hid (show hit2 c k ↔ (¬ k = 47 ∧ (jsu (k : Int)).2 = true ∧ (jsu (k : Int)).1 = c) from Iff.rfl)
        have H47 := hid h47
        clear h47
        generalize (jsu (k : Int)).1 = d at *
        generalize (jsu (k : Int)).2 = ok at *
        cases ok with
        | false =>
          have HR := hid (HN.out (fun h => by have := (HD.out.1 h).2.1; cases this))
          go_wp2_with (go_at_call 13; refine (J.out _).mono ?_; rintro e w' ⟨rfl, rfl⟩)
          go_round
          case rel => exact ⟨k + 1, by omega, by go_num, HR.out⟩
          case measure => simp [intOf]; omega
        | true =>
          by_cases hdc : d = c
          · have q2 : (d == c) = true := by simpa using hdc
            have HR := hid (HI.out (HD.out.2 ⟨H47.out, rfl, hdc⟩))
            clear hdc
            go_wp2_with (go_at_call 13; refine (J.out _).mono ?_; rintro e w' ⟨rfl, rfl⟩)
            go_ret
            exact ⟨ret_bool HR.out.symm, rfl⟩
          · have q2 : (d == c) = false := by simpa using hdc
            have HR := hid (HN.out (fun h => hdc (HD.out.1 h).2.2))
            clear hdc
            go_wp2_with (go_at_call 13; refine (J.out _).mono ?_; rintro e w' ⟨rfl, rfl⟩)
            go_round
            case rel => exact ⟨k + 1, by omega, by go_num, HR.out⟩
            case measure => simp [intOf]; omega
    · have HF := hid (miss2_is c (fun j hj => HM.out j (by omega)))
      go_wp2
      go_ret
      exact ⟨ret_bool HF.out.symm, rfl⟩
end Go.Proofs.Qxb6003658a
