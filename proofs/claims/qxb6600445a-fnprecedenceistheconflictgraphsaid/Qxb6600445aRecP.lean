import Derived.Test.Qxb6600445aRecN
namespace Go.Proofs.Qxb6600445a
open Go.RowKit
set_option linter.unusedVariables false

section
variable {tx : Nat → ByteArray} {act : Nat → Int} {it : Nat → ByteArray} {k n : Nat}

theorem up_same {α : Type} (f : ByteArray → α) (t : ByteArray) : up f t (f t) = f := by
  funext s
  unfold up
  by_cases h : s = t <;> simp [h]

theorem hist_size (ht : ∀ j, (tx j).size ≤ maxLen) (x : ByteArray) (k : Nat) : ∀ t ∈ hist tx act it x k, t.size ≤ maxLen := by
  induction k with
  | zero => intro t h; cases h
  | succ k ih =>
    intro t h
    have h' : t ∈ (if act k = 2 ∧ it k = x then hist tx act it x k ++ [tx k] else hist tx act it x k) := h
    split at h'
    · rcases List.mem_append.1 h' with h'' | h''
      · exact ih t h''
      · simp at h''; rw [h'']; exact ht k
    · exact ih t h'
theorem opn_size (ht : ∀ j, (tx j).size ≤ maxLen) (x t : ByteArray) (k : Nat) (h : opn tx act it x k t = true) : t.size ≤ maxLen := by
  unfold opn at h
  simp at h
  exact hist_size ht x k t ((memB_iff _ _).1 h.1)

/-- strict at k, as the code asks it -/
theorem okS_test (h : act k = 1 ∨ act k = 2) : okS tx act it k = true ↔ ¬ ∃ t, t ≠ tx k ∧ opn tx act it (it k) k t = true := by
  unfold okS
  rw [if_pos h, List.all_eq_true]
  constructor
  · rintro hall ⟨t, hne, ho⟩
    unfold opn at ho
    simp at ho
    have := hall t ((memB_iff _ _).1 ho.1)
    simp [ho.2, hne] at this
  · intro hno t ht
    simp
    by_cases e : t = tx k
    · exact .inr e
    · left
      intro h0
      exact hno ⟨t, e, by unfold opn; simp [(memB_iff _ _).2 ht, h0]⟩

/-! ### a write -/
theorem opn_write (h2 : act k = 2) (he : eAt tx act (tx k) k = 0) : (fun x t => opn tx act it x (k + 1) t) = up (fun x t => opn tx act it x k t) (it k) (up (fun t => opn tx act it (it k) k t) (tx k) true) := by
  funext x t
  have hn : isEnd (act k) = false := by simp [isEnd, h2]
  unfold opn
  rw [eAt_no t k hn, hist_yes x k h2]
  by_cases e : x = it k
  · subst e
    rw [if_pos rfl, up_at]
    by_cases e2 : t = tx k
    · subst e2
      rw [up_at, he]
      simp [memB]
    · rw [up_ne _ _ _ _ e2]
      simp [memB, Ne.symm e2]
  · rw [if_neg e, up_ne _ _ _ _ e]
theorem opn_is (he : eAt tx act (tx k) k = 0) (x : ByteArray) : opn tx act it x k (tx k) = memB (tx k) (hist tx act it x k) := by
  unfold opn; rw [he]; simp
theorem eAt_keep (hn : isEnd (act k) = false) : (fun t => eAt tx act t (k + 1)) = fun t => eAt tx act t k := funext fun t => eAt_no t k hn
theorem RFm_write (h2 : act k = 2) : RFm tx act it (k + 1) = RFm tx act it k := by
  have hn : isEnd (act k) = false := by simp [isEnd, h2]
  funext t
  unfold RFm
  rw [rfs_no t k (by omega), eAt_no t k hn]
theorem WRm_write (h2 : act k = 2) (he : eAt tx act (tx k) k = 0) : WRm tx act it (k + 1) = if opn tx act it (it k) k (tx k) = true then WRm tx act it k else up (WRm tx act it k) (tx k) (WRm tx act it k (tx k) ++ [it k]) := by
  have hn : isEnd (act k) = false := by simp [isEnd, h2]
  rw [opn_is he]
  funext t
  have e0 : WRm tx act it (k + 1) t = if eAt tx act t k = 0 then (if act k = 2 ∧ tx k = t ∧ memB t (hist tx act it (it k) k) = false then wrs tx act it t k ++ [it k] else wrs tx act it t k) else [] := by
    unfold WRm; rw [eAt_no t k hn]; rfl
  rw [e0]
  by_cases hm : memB (tx k) (hist tx act it (it k) k) = true
  · rw [if_pos hm]
    have hneg : ¬ (act k = 2 ∧ tx k = t ∧ memB t (hist tx act it (it k) k) = false) := fun hc => by
      have := hc.2.2
      rw [← hc.2.1, hm] at this
      cases this
    rw [if_neg hneg]
    rfl
  · rw [if_neg hm]
    by_cases e : t = tx k
    · subst e
      rw [up_at, if_pos he, if_pos ⟨h2, rfl, by simpa using hm⟩]
      unfold WRm
      rw [if_pos he]
    · have hneg : ¬ (act k = 2 ∧ tx k = t ∧ memB t (hist tx act it (it k) k) = false) := fun hc => e hc.2.1.symm
      rw [up_ne _ _ _ _ e, if_neg hneg]
      rfl
theorem nox_write {X : ByteArray → Option Nat} {b : Nat} (hx : X (it k) = some b) (H : ∀ x, X x = none → hist tx act it x k = []) (h2 : act k = 2) : ∀ x, X x = none → hist tx act it x (k + 1) = [] := by
  intro x h
  rw [hist_yes x k h2, if_neg (fun e => by rw [e, hx] at h; cases h)]
  exact H x h
theorem flags_write (h2 : act k = 2) : okR tx act it k = true ∧ okC tx act it k = true := by
  constructor
  · simp [okR, h2]
  · simp [okC, h2]

/-! ### a read -/
theorem opn_read (h1 : act k = 1) : (fun x t => opn tx act it x (k + 1) t) = fun x t => opn tx act it x k t := by
  have hn : isEnd (act k) = false := by simp [isEnd, h1]
  funext x t
  unfold opn
  rw [eAt_no t k hn, hist_no x k (by omega)]
theorem WRm_read (h1 : act k = 1) : WRm tx act it (k + 1) = WRm tx act it k := by
  have hn : isEnd (act k) = false := by simp [isEnd, h1]
  funext t
  unfold WRm
  rw [wrs_no t k (by omega), eAt_no t k hn]
theorem RFm_read (h1 : act k = 1) (he : eAt tx act (tx k) k = 0) : RFm tx act it (k + 1) = match lastLive tx act it (it k) k with | some f => if f = tx k then RFm tx act it k else up (RFm tx act it k) (tx k) (RFm tx act it k (tx k) ++ [f]) | none => RFm tx act it k := by
  have hn : isEnd (act k) = false := by simp [isEnd, h1]
  funext t
  have e0 : RFm tx act it (k + 1) t = if eAt tx act t k = 0 then (if act k = 1 ∧ tx k = t then (match lastLive tx act it (it k) k with | some f => if f = t then rfs tx act it t k else rfs tx act it t k ++ [f] | none => rfs tx act it t k) else rfs tx act it t k) else [] := by
    unfold RFm; rw [eAt_no t k hn]; rfl
  rw [e0]
  by_cases e : t = tx k
  · subst e
    rw [if_pos he, if_pos ⟨h1, rfl⟩]
    cases lastLive tx act it (it k) k with
    | none => simp [RFm, he]
    | some f =>
      by_cases ef : f = tx k
      · simp [ef, RFm, he]
      · simp [ef, up_at, RFm, he]
  · have hneg : ¬ (act k = 1 ∧ tx k = t) := fun hc => e hc.2.symm
    rw [if_neg hneg]
    cases lastLive tx act it (it k) k with
    | none => rfl
    | some f =>
      by_cases ef : f = tx k
      · simp [ef, RFm]
      · simp [ef, up_ne _ _ _ _ e, RFm]
theorem nox_read {X : ByteArray → Option Nat} (H : ∀ x, X x = none → hist tx act it x k = []) (h1 : act k ≠ 2) : ∀ x, X x = none → hist tx act it x (k + 1) = [] := by
  intro x h
  rw [hist_no x k h1]
  exact H x h
theorem flags_read (h1 : act k = 1) : okR tx act it k = true ∧ okC tx act it k = match lastLive tx act it (it k) k with | some f => decide (f = tx k) || decide (eAt tx act f k = 3) | none => true := by
  constructor
  · simp [okR, h1]
  · unfold okC; rw [if_pos h1]; cases lastLive tx act it (it k) k <;> rfl

/-! ### an end -/
theorem eAt_ends (hn : isEnd (act k) = true) : (fun t => eAt tx act t (k + 1)) = up (fun t => eAt tx act t k) (tx k) (act k) := funext fun t => by
  rw [eAt_yes t k hn]; rfl
theorem end_ne (hn : isEnd (act k) = true) : act k ≠ 1 ∧ act k ≠ 2 ∧ act k ≠ 0 := by
  unfold isEnd at hn; simp at hn; omega
theorem opn_ends (hn : isEnd (act k) = true) : (fun x t => opn tx act it x (k + 1) t) = fun x => up (fun t => opn tx act it x k t) (tx k) false := by
  obtain ⟨h1, h2, h0⟩ := end_ne hn
  funext x t
  unfold opn
  rw [eAt_yes t k hn, hist_no x k h2]
  by_cases e : t = tx k
  · rw [if_pos e, e, up_at]; simp [h0]
  · rw [if_neg e, up_ne _ _ _ _ e]
theorem WRm_ends (hn : isEnd (act k) = true) : WRm tx act it (k + 1) = up (WRm tx act it k) (tx k) [] := by
  obtain ⟨h1, h2, h0⟩ := end_ne hn
  funext t
  unfold WRm
  rw [wrs_no t k h2, eAt_yes t k hn]
  by_cases e : t = tx k
  · rw [if_pos e, e, up_at, if_neg h0]
  · rw [if_neg e, up_ne _ _ _ _ e]
theorem RFm_ends (hn : isEnd (act k) = true) : RFm tx act it (k + 1) = up (RFm tx act it k) (tx k) [] := by
  obtain ⟨h1, h2, h0⟩ := end_ne hn
  funext t
  unfold RFm
  rw [rfs_no t k h1, eAt_yes t k hn]
  by_cases e : t = tx k
  · rw [if_pos e, e, up_at, if_neg h0]
  · rw [if_neg e, up_ne _ _ _ _ e]
theorem winv_ends {Wl : ByteArray → List ByteArray} (H : Winv tx act it k Wl) (hn : isEnd (act k) = true) (he : eAt tx act (tx k) k = 0) : Winv tx act it (k + 1) Wl := by
  obtain ⟨h1, h2, h0⟩ := end_ne hn
  refine winv_keep H h2 (fun t ht => ?_)
  rw [eAt_yes t k hn, if_neg (fun e => by rw [e, he] at ht; cases ht)]
  exact ht
theorem flags_ends (hn : isEnd (act k) = true) (he : eAt tx act (tx k) k = 0) : okC tx act it k = true ∧ okS tx act it k = true ∧ okR tx act it k = if act k = 3 then (RFm tx act it k (tx k)).all (fun f => decide (eAt tx act f k = 3)) else true := by
  obtain ⟨h1, h2, h0⟩ := end_ne hn
  refine ⟨by simp [okC, h1], by simp [okS, h1, h2], ?_⟩
  unfold okR RFm
  rw [if_pos he]
end

theorem below_drewN (w : World) (q : Nat) : Below w.heap.size w (w.drewN q) := ⟨rfl, rfl, rfl, Nat.le_refl _, fun _ _ => rfl⟩
theorem row_len {w W : World} {base : Nat} {e : TypeId} {v : Value} {n : Nat} {xs : List Value} (h : w.ownsRow base e 1 v n xs) {t : TypeId} (ht : Try.prog.underlying t = some (.slice e)) (ty : TypeId) : (Builtin.len_ #[t] ty #[v]).run Try.prog W = .ok (.int .i64 n) W := by
  rcases h.2 with ⟨rfl, rfl⟩ | ⟨g, cap, cur, rfl, _⟩
  · simp [Builtin.len_, Go.run_underlying ht, Result.andThen, goInt]
  · simp [Builtin.len_, Go.run_underlying ht, Result.andThen, goInt]
theorem row_at {w : World} {base : Nat} {e : TypeId} {v : Value} {n : Nat} {xs : List Value} (h : w.ownsRow base e 1 v n xs) (hn : 0 < n) : ∃ g cap, v = .slice (some ⟨g, 0, none⟩) n cap ∧ n ≤ cap ∧ base ≤ g ∧ g < w.heap.size ∧ ∀ i u, i < n → xs[i]? = some u → w.cell? ⟨g, i, none⟩ = some u := by
  rcases h.2 with ⟨_, h0⟩ | ⟨g, cap, cur, rfl, hb, hg, hc, _, hcs, ht⟩
  · omega
  · refine ⟨g, cap, rfl, hc, hb, getElem_lt hg, fun i u hi hu => ?_⟩
    rw [← ht, List.getElem?_take] at hu
    rw [if_pos (by omega)] at hu
    rw [cell_of_row w g i cur e _ hg]
    simpa using hu
theorem strs_at (l : List ByteArray) (i : Nat) (h : i < l.length) : (strs l)[i]? = some (.string (l.getD i ByteArray.empty)) := by
  simp [strs, List.getD_eq_getElem?_getD, h]
theorem eq_nil (w : World) (v : Option Nat) : (eqGuard BinOp.eql 64 (.tmp 39) (.const (.pointer none)) ((v.map pt).getD (.pointer none)) (.pointer none)).run Try.prog w = .ok () w ∧ (binOp BinOp.eql 64 ((v.map pt).getD (.pointer none)) (.pointer none)).run Try.prog w = .ok (.bool v.isNone) w := by
  cases v with
  | none => exact ⟨by kernel_rfl, by kernel_rfl⟩
  | some b => exact ⟨by kernel_rfl, by kernel_rfl⟩
end Go.Proofs.Qxb6600445a
