import Derived.Test.Qxb6003658aEsc
namespace Go.Proofs.Qxb6003658a
open Go.RowKit
set_option linter.unusedVariables false

theorem ret_bool {a b : Bool} (h : a = b) : Ending.returned (.bool a) = .returned (.bool b) := by rw [h]

/-- does s begin with p? -/
def isPre (p s : List Int) : Bool := s.take p.length == p

theorem isPre_long (p s : List Int) (h : s.length < p.length) : isPre p s = false := by
  unfold isPre
  rw [beq_eq_false_iff_ne]
  intro e
  have := congrArg List.length e
  simp at this
  omega

theorem isPre_bad (p s : List Int) (k : Nat) (h1 : k < p.length) (h2 : p.length ≤ s.length) (h : ¬ p.getD k 0 = s.getD k 0) : isPre p s = false := by
  unfold isPre
  rw [beq_eq_false_iff_ne]
  intro e
  apply h
  have := congrArg (fun l => l.getD k 0) e
  simp only [List.getD_eq_getElem?_getD, List.getElem?_take, if_pos h1] at this ⊢
  exact this.symm

theorem isPre_good (p s : List Int) (h2 : p.length ≤ s.length) (h : ∀ j, j < p.length → p.getD j 0 = s.getD j 0) : isPre p s = true := by
  unfold isPre
  rw [beq_iff_eq]
  apply List.ext_getElem?
  intro j
  by_cases hj : j < p.length
  · have := h j hj
    simp only [List.getD_eq_getElem?_getD] at this
    rw [List.getElem?_take, if_pos hj]
    rw [List.getElem?_eq_getElem hj, List.getElem?_eq_getElem (by omega)] at this ⊢
    simp at this
    rw [this]
  · rw [List.getElem?_take, if_neg hj, List.getElem?_eq_none (by omega)]

set_option maxHeartbeats 400000 in
theorem pre_any (b1 o1 n1 c1 b2 o2 n2 c2 : Nat) (p s : List Int) (w : World) (hp : p.length = n1) (hs : s.length = n2) (hn1 : n1 ≤ 1048586) (hn2 : n2 ≤ 1048586)
    (h1 : ∀ j, j < n1 → w.cell? ⟨b1, o1 + j, none⟩ = some (.int .u8 (p.getD j 0))) (h2 : ∀ j, j < n2 → w.cell? ⟨b2, o2 + j, none⟩ = some (.int .u8 (s.getD j 0))) :
    Calls Try.prog 15 #[.slice (some ⟨b1, o1, none⟩) n1 c1, .slice (some ⟨b2, o2, none⟩) n2 c2] w fun e w' => e = .returned (.bool (isPre p s)) ∧ ∃ m, w' = w.drewN m := by
  by_cases hlong : n2 < n1
  · rw [isPre_long p s (by omega)]
    go_enter Try.func15, Try.ntmps15
    go_wp2
    go_ret
    exact ⟨rfl, 0, rfl⟩
  · go_enter Try.func15, Try.ntmps15
    go_wp2
    go_loopw [5] (fun i wr => ∃ k : Nat, k ≤ n1 ∧ i = .int .i64 k ∧ (∃ m, wr = w.drewN m) ∧ ∀ j, j < k → p.getD j 0 = s.getD j 0) (fun i _ => n1 - (intOf i).toNat)
    case atStart => exact ⟨0, Nat.zero_le _, rfl, ⟨0, rfl⟩, fun j hj => by omega⟩
    case round =>
      obtain ⟨k, hk, rfl, ⟨m, rfl⟩, hall0⟩ := hrel
      have hall : Hid (∀ j, j < k → p.getD j 0 = s.getD j 0) := hall0
      clear hall0
      by_cases hlt : k < n1
      · have g1 := h1 k hlt
        have g2 := h2 k (by omega)
        have i1 : (k : Int) < (n1 : Int) := by omega
        have i2 : (k : Int) < (n2 : Int) := by omega
        have hb := isPre_bad p s k (by omega) (by omega)
        have hstep : Hid (p.getD k 0 = s.getD k 0 → ∀ j, j < k + 1 → p.getD j 0 = s.getD j 0) := fun e j hj => by
          by_cases h : j < k
          · exact hall.out j h
          · have : j = k := by omega
            subst this; exact e
        generalize p.getD k 0 = z1 at *
        generalize s.getD k 0 = z2 at *
        by_cases hz : z1 = z2
        · subst hz
          have hr := hstep.out rfl
          clear h1 h2 hall hstep hb
          have hr' : Hid (∀ j, j < k + 1 → p.getD j 0 = s.getD j 0) := hr
          clear hr
          go_wp2
          go_quiet (fail)
          go_wp2
          go_roundw
          case rel => exact ⟨k + 1, by omega, by go_num, ⟨_, rfl⟩, hr'.out⟩
          case measure => simp [intOf]; omega
        · have hf := hb hz
          have hne : (z1 != z2) = true := by simpa using hz
          have hF : Hid (isPre p s = false) := hf
          clear h1 h2 hall hstep hb hf
          go_wp2
          go_quiet (fail)
          go_wp2
          go_ret
          exact ⟨ret_bool hF.out.symm, _, World.drewN_drewN _ _ _⟩
      · have hT := isPre_good p s (by omega) (fun j hj => hall.out j (by omega))
        have hF : Hid (isPre p s = true) := hT
        clear h1 h2 hall hT
        go_wp2
        go_ret
        exact ⟨ret_bool hF.out.symm, _, rfl⟩

end Go.Proofs.Qxb6003658a
