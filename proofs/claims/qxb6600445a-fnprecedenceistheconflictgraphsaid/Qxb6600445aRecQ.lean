import Derived.Test.Qxb6600445aRecP
namespace Go.Proofs.Qxb6600445a
open Go.RowKit
set_option linter.unusedVariables false

section
variable {tx : Nat → ByteArray} {act : Nat → Int} {it : Nat → ByteArray} {B nb : Nat} {w0 w : World} {k c : Nat} {X : ByteArray → Option Nat} {ob : ByteArray → Nat} {Wl : ByteArray → List ByteArray} {vW vR vP : ByteArray → Value} {t x : ByteArray} {a : Int}

theorem rel_write_old {b : Nat} {l2 : List ByteArray} (h2 : act k = 2) (he : eAt tx act (tx k) k = 0) (hx : X (it k) = some b) (hwin : Winv tx act it k Wl) (hl : (l2 = Wl (it k) ∧ (Wl (it k)).getLast? = some (tx k)) ∨ l2 = Wl (it k) ++ [tx k]) (hnox : ∀ x, X x = none → hist tx act it x k = []) (hc : c ≤ 4 * (k + 1))
    (hon : opn tx act it (it k) k (tx k) = true)
    (H : St B nb w0 w c X ob (fun t => eAt tx act t k) (fun x t => opn tx act it x k t) (up Wl (it k) l2) (RFm tx act it k) (WRm tx act it k) vW vR vP t a x) :
    Rel tx act it B w0 w (k + 1) c X ob (up Wl (it k) l2) vW vR vP := by
  have hn : isEnd (act k) = false := by simp [isEnd, h2]
  refine ⟨?_, hc, winv_push hwin h2 l2 hl, nox_write hx hnox h2, H.bel⟩
  have e1 : (fun x t => opn tx act it x (k + 1) t) = fun x t => opn tx act it x k t := by
    rw [opn_write h2 he]
    have : up (fun t => opn tx act it (it k) k t) (tx k) true = fun t => opn tx act it (it k) k t := by
      have := up_same (fun t => opn tx act it (it k) k t) (tx k)
      rw [← this]
      funext s
      simp only [up]
      split
      · exact hon.symm
      · rfl
    rw [this]
    exact up_same (fun x t => opn tx act it x k t) (it k)
  rw [eAt_keep hn, e1, RFm_write h2, WRm_write h2 he, if_pos hon]
  exact H.mem

theorem rel_write_new {b : Nat} {l2 : List ByteArray} (h2 : act k = 2) (he : eAt tx act (tx k) k = 0) (hx : X (it k) = some b) (hwin : Winv tx act it k Wl) (hl : (l2 = Wl (it k) ∧ (Wl (it k)).getLast? = some (tx k)) ∨ l2 = Wl (it k) ++ [tx k]) (hnox : ∀ x, X x = none → hist tx act it x k = []) (hc : c ≤ 4 * (k + 1))
    (hon : opn tx act it (it k) k (tx k) = false)
    (H : St B nb w0 w c X ob (fun t => eAt tx act t k) (up (fun x t => opn tx act it x k t) (it k) (up (fun t => opn tx act it (it k) k t) (tx k) true)) (up Wl (it k) l2) (RFm tx act it k) (up (WRm tx act it k) (tx k) (WRm tx act it k (tx k) ++ [it k])) vW vR vP t a x) :
    Rel tx act it B w0 w (k + 1) c X ob (up Wl (it k) l2) vW vR vP := by
  have hn : isEnd (act k) = false := by simp [isEnd, h2]
  refine ⟨?_, hc, winv_push hwin h2 l2 hl, nox_write hx hnox h2, H.bel⟩
  rw [eAt_keep hn, opn_write h2 he, RFm_write h2, WRm_write h2 he, if_neg (by rw [hon]; simp)]
  exact H.mem

theorem rel_read_old {Wl' : ByteArray → List ByteArray} (h1 : act k = 1) (he : eAt tx act (tx k) k = 0) (hwin : Winv tx act it k Wl) (hnox : ∀ x, X x = none → hist tx act it x k = []) (hc : c ≤ 4 * (k + 1))
    (hl : lastLive tx act it (it k) k = none ∨ lastLive tx act it (it k) k = some (tx k))
    (H : St B nb w0 w c X ob (fun t => eAt tx act t k) (fun x t => opn tx act it x k t) Wl (RFm tx act it k) (WRm tx act it k) vW vR vP t a x) :
    Rel tx act it B w0 w (k + 1) c X ob Wl vW vR vP := by
  have hn : isEnd (act k) = false := by simp [isEnd, h1]
  refine ⟨?_, hc, winv_keep hwin (by omega) (fun t ht => by rw [eAt_no t k hn]; exact ht), nox_read hnox (by omega), H.bel⟩
  rw [eAt_keep hn, opn_read h1, RFm_read h1 he, WRm_read h1]
  rcases hl with h | h
  · rw [h]; exact H.mem
  · rw [h]; simp only [if_pos]; exact H.mem

theorem rel_read_new {f : ByteArray} (h1 : act k = 1) (he : eAt tx act (tx k) k = 0) (hwin : Winv tx act it k Wl) (hnox : ∀ x, X x = none → hist tx act it x k = []) (hc : c ≤ 4 * (k + 1))
    (hl : lastLive tx act it (it k) k = some f) (hf : f ≠ tx k)
    (H : St B nb w0 w c X ob (fun t => eAt tx act t k) (fun x t => opn tx act it x k t) Wl (up (RFm tx act it k) (tx k) (RFm tx act it k (tx k) ++ [f])) (WRm tx act it k) vW vR vP t a x) :
    Rel tx act it B w0 w (k + 1) c X ob Wl vW vR vP := by
  have hn : isEnd (act k) = false := by simp [isEnd, h1]
  refine ⟨?_, hc, winv_keep hwin (by omega) (fun t ht => by rw [eAt_no t k hn]; exact ht), nox_read hnox (by omega), H.bel⟩
  rw [eAt_keep hn, opn_read h1, RFm_read h1 he, WRm_read h1, hl]
  simp only [if_neg hf]
  exact H.mem

theorem row_form {w : World} {base : Nat} {e : TypeId} {v : Value} {n : Nat} {xs : List Value} (h : w.ownsRow base e 1 v n xs) : ∃ ao g cap, v = .slice ao n cap ∧ (0 < n → ao = some ⟨g, 0, none⟩ ∧ n ≤ cap ∧ ∀ i u, i < n → xs[i]? = some u → w.cell? ⟨g, i, none⟩ = some u) := by
  by_cases hn : 0 < n
  · obtain ⟨g, cap, hv, hc, _, _, hx⟩ := row_at h hn
    exact ⟨_, g, cap, hv, fun _ => ⟨rfl, hc, hx⟩⟩
  · rcases h.2 with ⟨rfl, h0⟩ | ⟨g, cap, cur, rfl, _⟩
    · exact ⟨none, 0, 0, by rw [h0], fun h => absurd h hn⟩
    · exact ⟨_, g, cap, rfl, fun h => absurd h hn⟩
theorem rfm_size (ht : ∀ j, (tx j).size ≤ maxLen) (t : ByteArray) (k : Nat) : ∀ f ∈ RFm tx act it k t, f.size ≤ maxLen := by
  have rs : ∀ k, ∀ f ∈ rfs tx act it t k, f.size ≤ maxLen := fun k => by
    induction k with
    | zero => intro f h; cases h
    | succ k ih =>
      intro f h
      have h' : f ∈ (if act k = 1 ∧ tx k = t then (match lastLive tx act it (it k) k with | some f => if f = t then rfs tx act it t k else rfs tx act it t k ++ [f] | none => rfs tx act it t k) else rfs tx act it t k) := h
      split at h'
      · cases hl : lastLive tx act it (it k) k with
        | none => rw [hl] at h'; exact ih f h'
        | some y =>
          rw [hl] at h'
          simp only at h'
          split at h'
          · exact ih f h'
          · rcases List.mem_append.1 h' with h2 | h2
            · exact ih f h2
            · simp at h2
              subst h2
              unfold lastLive at hl
              have := List.mem_of_getLast? hl
              exact hist_size ht (it k) k f (List.mem_filter.1 this).1
      · exact ih f h'
  intro f h
  unfold RFm at h
  split at h
  · exact rs k f h
  · cases h
theorem step_append_run {P : Program} (w : World) {ops : Array Oper} {o : Oper} {a : Act} {K : Act → World → Prop} {Q : Exit → Act → World → Prop} {E : Prop} (hgd : o.guard = none) (s x : Operand) (t : TypeId)
    (ho : o.op = .call { callee := .builtin .append, args := #[s, x], argTypes := #[t, t] }) (v u r : Value) (hs : a.eval s = v) (hx : a.eval x = u) (w1 : World) (hr : (Builtin.append_ #[t, t] o.type #[v, u]).run P w = .ok r w1) (h : K (a.put o.dst r) w1) :
    if Region.wanted o (yielded ops a.tmps) = true then Oper.wp P o a w K Q else E := by
  have hw : Region.wanted o (yielded ops a.tmps) = true := by simp [Region.wanted, hgd]
  rw [if_pos hw]
  unfold Oper.wp execOp
  simp only [ho, resolve, invoke, builtin, Sem.run_bind, Sem.run_pure, Result.andThen_ok, List.map_toArray, List.map_cons, List.map_nil, hs, hx, hr]
  exact h
theorem wl_size (ht : ∀ j, (tx j).size ≤ maxLen) (H : Winv tx act it k Wl) (x t : ByteArray) (h : t ∈ Wl x) : t.size ≤ maxLen := by
  by_cases h4 : eAt tx act t k = 4
  · obtain ⟨i, _, hi, _⟩ := eAt_end t k (by rw [h4]; decide)
    rw [← hi]; exact ht i
  · have hw := H x (fun s => decide (s = t)) (fun s hs => by
      rw [decide_eq_false_iff_not]
      intro e
      rw [e] at hs
      exact h4 hs)
    have m1 : t ∈ (Wl x).filter (fun s => decide (s = t)) := List.mem_filter.2 ⟨h, by simp⟩
    cases hl : ((Wl x).filter (fun s => decide (s = t))).getLast? with
    | none => rw [List.getLast?_eq_none_iff] at hl; rw [hl] at m1; cases m1
    | some y =>
      rw [hl] at hw
      have hy := (List.mem_filter.1 (List.mem_of_getLast? hw.symm))
      have e : y = t := by simpa using hy.2
      rw [e] at hy
      exact hist_size ht x k t hy.1
theorem row_form2 {w : World} {base : Nat} {e : TypeId} {v : Value} {n : Nat} {xs : List Value} (h : w.ownsRow base e 1 v n xs) : (v = .slice none 0 0 ∧ n = 0) ∨ ∃ g cap, v = .slice (some ⟨g, 0, none⟩) n cap ∧ n ≤ cap := by
  rcases h.2 with h | ⟨g, cap, cur, hv, _, _, hc, _⟩
  · exact .inl h
  · exact .inr ⟨g, cap, hv, hc⟩
/-- who is open still, the first i of l being struck for t -/
def stk (O : ByteArray → ByteArray → Bool) (l : List ByteArray) (t : ByteArray) (i : Nat) : ByteArray → ByteArray → Bool := fun x s => if s = t ∧ memB x (l.take i) = true then false else O x s
theorem stk_zero (O : ByteArray → ByteArray → Bool) (l : List ByteArray) (t : ByteArray) : stk O l t 0 = O := by
  funext x s; simp [stk, memB]
theorem stk_succ (O : ByteArray → ByteArray → Bool) (l : List ByteArray) (t : ByteArray) (i : Nat) (hi : i < l.length) : stk O l t (i + 1) = up (stk O l t i) (l.getD i ByteArray.empty) (up (stk O l t i (l.getD i ByteArray.empty)) t false) := by
  have e : l.take (i + 1) = l.take i ++ [l.getD i ByteArray.empty] := by
    rw [List.take_succ_eq_append_getElem hi]
    simp [List.getD_eq_getElem?_getD, hi]
  funext x s
  unfold stk up
  rw [e]
  have em : memB x (l.take i ++ [l.getD i ByteArray.empty]) = (memB x (l.take i) || decide (l.getD i ByteArray.empty = x)) := by simp [memB]
  rw [em]
  generalize l.getD i ByteArray.empty = y
  clear em e
  by_cases h1 : s = t
  · by_cases h2 : x = y
    · simp [h1, h2]
    · have h3 : ¬ y = x := fun e => h2 e.symm
      simp [h1, h2, h3]
  · by_cases h2 : x = y
    · simp [h1, h2]
    · simp [h1, h2]

theorem rel_end (hn : isEnd (act k) = true) (he : eAt tx act (tx k) k = 0) (hwin : Winv tx act it k Wl) (hnox : ∀ x, X x = none → hist tx act it x k = []) (hc : c ≤ 4 * (k + 1))
    (H : St B nb w0 w c X ob (up (fun t => eAt tx act t k) (tx k) (act k)) (stk (fun x t => opn tx act it x k t) (WRm tx act it k (tx k)) (tx k) (WRm tx act it k (tx k)).length) Wl (up (RFm tx act it k) (tx k) []) (up (WRm tx act it k) (tx k) []) vW vR vP t a x) :
    Rel tx act it B w0 w (k + 1) c X ob Wl vW vR vP := by
  obtain ⟨h1, h2, h0⟩ := end_ne hn
  refine ⟨?_, hc, winv_ends hwin hn he, nox_read hnox h2, H.bel⟩
  have e : stk (fun x t => opn tx act it x k t) (WRm tx act it k (tx k)) (tx k) (WRm tx act it k (tx k)).length = fun x => up (fun t => opn tx act it x k t) (tx k) false := by
    funext x s
    unfold stk
    rw [List.take_length]
    by_cases e1 : s = tx k
    · subst e1
      rw [up_at]
      by_cases e2 : x ∈ WRm tx act it k (tx k)
      · simp [(memB_iff _ _).2 e2]
      · rw [if_neg (fun h => e2 ((memB_iff _ _).1 h.2))]
        cases ho : opn tx act it x k (tx k) with
        | false => exact ho
        | true =>
          rw [opn_is he] at ho
          have := hist_wrs (tx k) x k ((memB_iff _ _).1 ho)
          unfold WRm at e2
          rw [if_pos he] at e2
          exact absurd this e2
    · rw [if_neg (fun h => e1 h.1), up_ne _ _ _ _ e1]
  rw [e] at H
  rw [eAt_ends hn, opn_ends hn, RFm_ends hn, WRm_ends hn]
  exact H.mem
end
end Go.Proofs.Qxb6600445a
