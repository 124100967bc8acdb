import Derived.Test.Qxb6600445aWf
import Derived.Test.Qxb6600445aMem
namespace Go.Proofs.Qxb6600445a
set_option linter.unusedVariables false

def memB (t : ByteArray) (l : List ByteArray) : Bool := l.any fun s => decide (s = t)
theorem memB_iff (t : ByteArray) (l : List ByteArray) : memB t l = true ↔ t ∈ l := by
  unfold memB
  rw [List.any_eq_true]
  constructor
  · rintro ⟨s, hs, he⟩
    rw [decide_eq_true_eq] at he
    rw [← he]; exact hs
  · intro h
    exact ⟨t, h, by simp⟩
theorem memB_no (t : ByteArray) (l : List ByteArray) : memB t l = false ↔ t ∉ l := by
  rw [← memB_iff]; simp

section
variable (tx : Nat → ByteArray) (act : Nat → Int) (it : Nat → ByteArray)

/-- how t has ended before k: 0, or its commit or abort -/
def eAt (t : ByteArray) : Nat → Int
  | 0 => 0
  | k + 1 => if tx k = t ∧ isEnd (act k) = true then act k else eAt t k
/-- who wrote x before k -/
def hist (x : ByteArray) : Nat → List ByteArray
  | 0 => []
  | k + 1 => if act k = 2 ∧ it k = x then hist x k ++ [tx k] else hist x k
def live (k : Nat) (t : ByteArray) : Bool := decide (eAt tx act t k ≠ 4)
def lastLive (x : ByteArray) (k : Nat) : Option ByteArray := ((hist tx act it x k).filter (live tx act k)).getLast?
def opn (x : ByteArray) (k : Nat) (t : ByteArray) : Bool := memB t (hist tx act it x k) && decide (eAt tx act t k = 0)
/-- whom t read from before k -/
def rfs (t : ByteArray) : Nat → List ByteArray
  | 0 => []
  | k + 1 => if act k = 1 ∧ tx k = t then (match lastLive tx act it (it k) k with | some f => if f = t then rfs t k else rfs t k ++ [f] | none => rfs t k) else rfs t k
/-- what t wrote before k -/
def wrs (t : ByteArray) : Nat → List ByteArray
  | 0 => []
  | k + 1 => if act k = 2 ∧ tx k = t ∧ memB t (hist tx act it (it k) k) = false then wrs t k ++ [it k] else wrs t k
def okS (i : Nat) : Bool := if act i = 1 ∨ act i = 2 then (hist tx act it (it i) i).all (fun t => decide (eAt tx act t i ≠ 0) || decide (t = tx i)) else true
def okC (i : Nat) : Bool := if act i = 1 then (match lastLive tx act it (it i) i with | some f => decide (f = tx i) || decide (eAt tx act f i = 3) | none => true) else true
def okR (e : Nat) : Bool := if act e = 3 then (rfs tx act it (tx e) e).all (fun f => decide (eAt tx act f e = 3)) else true
def allTo (p : Nat → Bool) : Nat → Bool
  | 0 => true
  | k + 1 => allTo p k && p k

def RFm (k : Nat) (t : ByteArray) : List ByteArray := if eAt tx act t k = 0 then rfs tx act it t k else []
def WRm (k : Nat) (t : ByteArray) : List ByteArray := if eAt tx act t k = 0 then wrs tx act it t k else []
def Winv (k : Nat) (Wl : ByteArray → List ByteArray) : Prop := ∀ x (p : ByteArray → Bool), (∀ t, eAt tx act t k = 4 → p t = false) → ((Wl x).filter p).getLast? = ((hist tx act it x k).filter p).getLast?
end

variable {tx : Nat → ByteArray} {act : Nat → Int} {it : Nat → ByteArray}

theorem eAt_end (t : ByteArray) (k : Nat) (h : eAt tx act t k ≠ 0) : ∃ i, i < k ∧ tx i = t ∧ isEnd (act i) = true ∧ act i = eAt tx act t k := by
  induction k with
  | zero => exact absurd rfl h
  | succ k ih =>
    unfold eAt at h ⊢
    split at h
    · rename_i hc
      rw [if_pos hc]
      exact ⟨k, by omega, hc.1, hc.2, rfl⟩
    · rename_i hc
      rw [if_neg hc]
      obtain ⟨i, h1, h2⟩ := ih h
      exact ⟨i, by omega, h2⟩
theorem eAt_val (t : ByteArray) (k : Nat) : eAt tx act t k = 0 ∨ eAt tx act t k = 3 ∨ eAt tx act t k = 4 := by
  by_cases h : eAt tx act t k = 0
  · exact .inl h
  · obtain ⟨i, _, _, h3, h4⟩ := eAt_end t k h
    rw [← h4]
    unfold isEnd at h3
    simp at h3
    exact .inr h3

/-- whoever acts has not ended -/
theorem wf_open {n : Nat} (H : WF tx act n) {k : Nat} (hk : k < n) (ho : isOp (act k) = true) : eAt tx act (tx k) k = 0 := by
  apply Classical.byContradiction
  intro h
  obtain ⟨i, h1, h2, h3, _⟩ := eAt_end (tx k) k h
  have := H i k h1 hk h3 h2.symm
  rw [ho] at this; cases this

theorem eAt_no (t : ByteArray) (k : Nat) (h : isEnd (act k) = false) : eAt tx act t (k + 1) = eAt tx act t k := by
  show (if tx k = t ∧ isEnd (act k) = true then act k else eAt tx act t k) = _
  rw [if_neg (by rw [h]; simp)]
theorem eAt_yes (t : ByteArray) (k : Nat) (h : isEnd (act k) = true) : eAt tx act t (k + 1) = if t = tx k then act k else eAt tx act t k := by
  show (if tx k = t ∧ isEnd (act k) = true then act k else eAt tx act t k) = _
  by_cases e : t = tx k
  · rw [if_pos ⟨e.symm, h⟩, if_pos e]
  · rw [if_neg (fun h => e h.1.symm), if_neg e]
theorem hist_no (x : ByteArray) (k : Nat) (h : act k ≠ 2) : hist tx act it x (k + 1) = hist tx act it x k := by
  show (if act k = 2 ∧ it k = x then _ else _) = _
  rw [if_neg (fun h' => h h'.1)]
theorem hist_yes (x : ByteArray) (k : Nat) (h : act k = 2) : hist tx act it x (k + 1) = if x = it k then hist tx act it x k ++ [tx k] else hist tx act it x k := by
  show (if act k = 2 ∧ it k = x then _ else _) = _
  by_cases e : x = it k
  · rw [if_pos ⟨h, e.symm⟩, if_pos e]
  · rw [if_neg (fun h => e h.2.symm), if_neg e]
theorem rfs_no (t : ByteArray) (k : Nat) (h : act k ≠ 1) : rfs tx act it t (k + 1) = rfs tx act it t k := by
  show (if act k = 1 ∧ tx k = t then _ else _) = _
  rw [if_neg (fun h' => h h'.1)]
theorem wrs_no (t : ByteArray) (k : Nat) (h : act k ≠ 2) : wrs tx act it t (k + 1) = wrs tx act it t k := by
  show (if act k = 2 ∧ tx k = t ∧ memB t (hist tx act it (it k) k) = false then _ else _) = _
  rw [if_neg (fun h' => h h'.1)]

theorem hist_wrs (t x : ByteArray) (k : Nat) (h : t ∈ hist tx act it x k) : x ∈ wrs tx act it t k := by
  induction k with
  | zero => cases h
  | succ k ih =>
    by_cases h2 : act k = 2
    · rw [hist_yes x k h2] at h
      show x ∈ (if act k = 2 ∧ tx k = t ∧ memB t (hist tx act it (it k) k) = false then wrs tx act it t k ++ [it k] else wrs tx act it t k)
      by_cases e : x = it k
      · rw [if_pos e] at h
        by_cases hm : t ∈ hist tx act it (it k) k
        · have := ih (by rw [e]; exact hm)
          split
          · exact List.mem_append_left _ this
          · exact this
        · rcases List.mem_append.1 h with h' | h'
          · rw [e] at h'; exact absurd h' hm
          · simp at h'
            rw [if_pos ⟨h2, h'.symm, (memB_no _ _).2 hm⟩, e]
            exact List.mem_append_right _ (by simp)
      · rw [if_neg e] at h
        have := ih h
        split
        · exact List.mem_append_left _ this
        · exact this
    · rw [hist_no x k h2] at h
      rw [wrs_no t k h2]
      exact ih h
theorem wrs_hist (t x : ByteArray) (k : Nat) (h : x ∈ wrs tx act it t k) : hist tx act it x k ≠ [] := by
  induction k with
  | zero => cases h
  | succ k ih =>
    have mono : hist tx act it x k ≠ [] → hist tx act it x (k + 1) ≠ [] := fun h' => by
      show (if act k = 2 ∧ it k = x then _ else _) ≠ []
      split
      · simp
      · exact h'
    have h' : x ∈ (if act k = 2 ∧ tx k = t ∧ memB t (hist tx act it (it k) k) = false then wrs tx act it t k ++ [it k] else wrs tx act it t k) := h
    split at h'
    · rename_i hc
      rcases List.mem_append.1 h' with h'' | h''
      · exact mono (ih h'')
      · simp at h''
        rw [hist_yes x k hc.1, if_pos h'']
        simp
    · exact mono (ih h')

/-! ### the writes' list -/
theorem winv_push {k : Nat} {Wl : ByteArray → List ByteArray} (H : Winv tx act it k Wl) (h2 : act k = 2) (l' : List ByteArray)
    (hl : (l' = Wl (it k) ∧ (Wl (it k)).getLast? = some (tx k)) ∨ l' = Wl (it k) ++ [tx k]) : Winv tx act it (k + 1) (up Wl (it k) l') := by
  intro x p hp
  have hp' : ∀ t, eAt tx act t k = 4 → p t = false := fun t ht => hp t (by rw [eAt_no t k (by simp [isEnd, h2])]; exact ht)
  have H0 := H x p hp'
  rw [hist_yes x k h2]
  by_cases e : x = it k
  · rw [if_pos e]
    rw [e] at H0 ⊢
    rw [up_at, List.filter_append]
    rcases hl with ⟨rfl, hlast⟩ | rfl
    · by_cases hpt : p (tx k) = true
      · have : ((Wl (it k)).filter p).getLast? = some (tx k) := by
          obtain ⟨l0, hl0⟩ : ∃ l0, Wl (it k) = l0 ++ [tx k] := by
            rw [List.getLast?_eq_some_iff] at hlast
            exact hlast
          rw [hl0, List.filter_append]
          simp [hpt]
        rw [this]
        simp [hpt]
      · simp [hpt, H0]
    · rw [List.filter_append]
      by_cases hpt : p (tx k) = true
      · simp [hpt]
      · simp [hpt, H0]
  · rw [if_neg e, up_ne _ _ _ _ e]
    exact H0

theorem winv_keep {k : Nat} {Wl : ByteArray → List ByteArray} (H : Winv tx act it k Wl) (h2 : act k ≠ 2) (hm : ∀ t, eAt tx act t k = 4 → eAt tx act t (k + 1) = 4) : Winv tx act it (k + 1) Wl := by
  intro x p hp
  rw [hist_no x k h2]
  exact H x p (fun t ht => hp t (hm t ht))

/-- what is left when the aborted ones on top are taken off -/
theorem winv_take {k : Nat} {Wl : ByteArray → List ByteArray} (H : Winv tx act it k Wl) (x : ByteArray) (n : Nat) (hd : ∀ i, n ≤ i → i < (Wl x).length → eAt tx act ((Wl x).getD i ByteArray.empty) k = 4) :
    Winv tx act it k (up Wl x ((Wl x).take n)) := by
  intro y p hp
  by_cases e : y = x
  · subst e
    rw [up_at, ← H y p hp]
    have : (Wl y).filter p = ((Wl y).take n).filter p := by
      have e1 : (Wl y).filter p = ((Wl y).take n ++ (Wl y).drop n).filter p := by rw [List.take_append_drop]
      rw [e1, List.filter_append]
      have e2 : ((Wl y).drop n).filter p = [] := by
        rw [List.filter_eq_nil_iff]
        intro t ht
        obtain ⟨i, hi⟩ := List.mem_iff_getElem?.1 ht
        rw [List.getElem?_drop] at hi
        have hlt := (List.getElem?_eq_some_iff.1 hi).1
        have := hd (n + i) (by omega) hlt
        rw [List.getD_eq_getElem?_getD, hi] at this
        rw [hp t this]
        simp
      rw [e2, List.append_nil]
    rw [this]
  · rw [up_ne _ _ _ _ e]
    exact H y p hp
theorem last_of {k : Nat} {Wl : ByteArray → List ByteArray} (H : Winv tx act it k Wl) (x : ByteArray) (n : Nat) (hn : n ≤ (Wl x).length) (hd : ∀ i, n ≤ i → i < (Wl x).length → eAt tx act ((Wl x).getD i ByteArray.empty) k = 4)
    (ht : 0 < n → eAt tx act ((Wl x).getD (n - 1) ByteArray.empty) k ≠ 4) : lastLive tx act it x k = if n = 0 then none else some ((Wl x).getD (n - 1) ByteArray.empty) := by
  have h1 := winv_take H x n hd x (live tx act k) (fun t h => by simp [live, h])
  rw [up_at] at h1
  unfold lastLive
  rw [← h1]
  by_cases h0 : n = 0
  · subst h0; simp
  · rw [if_neg h0]
    have hlt : n - 1 < (Wl x).length := by omega
    have e1 : (Wl x).take n = (Wl x).take (n - 1) ++ [(Wl x).getD (n - 1) ByteArray.empty] := by
      have : n = (n - 1) + 1 := by omega
      rw [this, List.take_succ_eq_append_getElem hlt]
      simp [List.getD_eq_getElem?_getD, hlt]
    rw [e1, List.filter_append]
    have : live tx act k ((Wl x).getD (n - 1) ByteArray.empty) = true := by
      unfold live
      rw [decide_eq_true_eq]
      exact ht (by omega)
    rw [List.filter_cons, if_pos this]
    simp
end Go.Proofs.Qxb6600445a
