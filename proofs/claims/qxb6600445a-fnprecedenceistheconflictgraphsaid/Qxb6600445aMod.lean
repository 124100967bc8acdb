import Derived.Test.Qxb6600445aSem
namespace Go.Proofs.Qxb6600445a
set_option linter.unusedVariables false

section
variable (tx : Nat → ByteArray) (act : Nat → Int) (it : Nat → ByteArray)

def hit (t : ByteArray) (j : Nat) : Bool := isEnd (act j) && decide (tx j = t)
/-- the first end of t below n, or n -/
def endP (t : ByteArray) : Nat → Nat
  | 0 => 0
  | n + 1 => if endP t n < n then endP t n else if hit tx act t n then n else n + 1
def endA (n : Nat) (t : ByteArray) : Int := if endP tx act t n < n then act (endP tx act t n) else 0

variable (n : Nat)
def sBad (i j : Nat) : Bool := decide (act j = 2) && decide (it j = it i) && !decide (tx j = tx i) && decide (i < endP tx act (tx j) n)
def good (i j : Nat) : Bool := decide (act j = 2) && decide (it j = it i) && !(decide (endA tx act n (tx j) = 4) && decide (endP tx act (tx j) n < i))
def lastW (i : Nat) : Nat → Option Nat
  | 0 => none
  | j + 1 => if good tx act it n i j then some j else lastW i j
def mS (i : Nat) : Bool := if act i = 1 ∨ act i = 2 then allTo (fun j => !sBad tx act it n i j) i else true
def cmt (w i : Nat) : Bool := decide (endA tx act n (tx w) = 3) && decide (endP tx act (tx w) n < i)
def mC (i : Nat) : Bool := if act i = 1 then (match lastW tx act it n i i with | some w => decide (tx w = tx i) || cmt tx act n w i | none => true) else true
def mR (i : Nat) : Bool := if act i = 1 then (match lastW tx act it n i i with | some w => decide (tx w = tx i) || !(decide (endA tx act n (tx i) = 3) && !cmt tx act n w (endP tx act (tx i) n)) | none => true) else true
end

variable {tx : Nat → ByteArray} {act : Nat → Int} {it : Nat → ByteArray} {n : Nat}

theorem hit_iff (t : ByteArray) (j : Nat) : hit tx act t j = true ↔ isEnd (act j) = true ∧ tx j = t := by
  unfold hit; simp

theorem endP_spec (t : ByteArray) (n : Nat) : endP tx act t n ≤ n ∧ (∀ j, j < endP tx act t n → hit tx act t j = false) ∧ (endP tx act t n < n → hit tx act t (endP tx act t n) = true) := by
  induction n with
  | zero => exact ⟨Nat.le_refl _, fun j h => by simp [endP] at h, fun h => by omega⟩
  | succ n ih =>
    obtain ⟨h1, h2, h3⟩ := ih
    unfold endP
    split
    · rename_i hc
      exact ⟨by omega, h2, fun _ => h3 hc⟩
    · rename_i hc
      have e : endP tx act t n = n := by omega
      rw [e] at h2
      split
      · rename_i hh
        exact ⟨by omega, h2, fun _ => hh⟩
      · rename_i hh
        refine ⟨Nat.le_refl _, fun j hj => ?_, fun h => by omega⟩
        by_cases ej : j = n
        · rw [ej]; simpa using hh
        · exact h2 j (by omega)

theorem isEnd_isOp {a : Int} (h : isEnd a = true) : isOp a = true := by
  unfold isEnd at h; unfold isOp; simp at h ⊢; omega

/-- an end is the only one -/
theorem end_one (H : WF tx act n) (t : ByteArray) {i j : Nat} (hi : i < n) (hj : j < n) (h1 : hit tx act t i = true) (h2 : hit tx act t j = true) : i = j := by
  rw [hit_iff] at h1 h2
  rcases Nat.lt_trichotomy i j with h | h | h
  · have := H i j h hj h1.1 (by rw [h2.2, h1.2])
    rw [isEnd_isOp h2.1] at this; cases this
  · exact h
  · have := H j i h hi h2.1 (by rw [h2.2, h1.2])
    rw [isEnd_isOp h1.1] at this; cases this

theorem eAt_is (H : WF tx act n) (t : ByteArray) (k : Nat) (hk : k ≤ n) : eAt tx act t k = if endP tx act t n < k then act (endP tx act t n) else 0 := by
  obtain ⟨p1, p2, p3⟩ := endP_spec (tx := tx) (act := act) t n
  by_cases h0 : eAt tx act t k = 0
  · rw [h0]
    split
    · rename_i hc
      -- an end before k: then eAt is not zero
      exfalso
      have hh := p3 (by omega)
      have key : ∀ k, endP tx act t n < k → k ≤ n → eAt tx act t k ≠ 0 := by
        intro k
        induction k with
        | zero => intro h; omega
        | succ k ih =>
          intro h1 h2
          unfold eAt
          split
          · rename_i hc
            have := hc.2
            unfold isEnd at this
            simp at this
            omega
          · rename_i hc
            refine ih ?_ (by omega)
            by_cases e : endP tx act t n = k
            · exfalso
              rw [e, hit_iff] at hh
              exact hc ⟨hh.2, hh.1⟩
            · omega
      exact key k hc hk h0
    · rfl
  · obtain ⟨i, h1, h2, h3, h4⟩ := eAt_end t k h0
    have hh : hit tx act t i = true := (hit_iff t i).2 ⟨h3, h2⟩
    have hlt : endP tx act t n < n := by
      apply Classical.byContradiction
      intro h
      have := p2 i (by omega)
      rw [hh] at this; cases this
    have e := end_one H t (by omega) hlt hh (p3 hlt)
    rw [← e, if_pos h1, h4]

theorem end_ne_op (t : ByteArray) {i : Nat} (hi : i < n) (h : act i = 1 ∨ act i = 2) : endP tx act t n ≠ i := by
  intro e
  have := (endP_spec (tx := tx) (act := act) t n).2.2 (by omega)
  rw [e, hit_iff] at this
  have := this.1
  unfold isEnd at this
  simp at this
  omega

theorem hist_iff (x : ByteArray) (k : Nat) (t : ByteArray) : t ∈ hist tx act it x k ↔ ∃ j, j < k ∧ act j = 2 ∧ it j = x ∧ tx j = t := by
  induction k with
  | zero => constructor
            · intro h; cases h
            · rintro ⟨j, h, _⟩; omega
  | succ k ih =>
    have e : hist tx act it x (k + 1) = if act k = 2 ∧ it k = x then hist tx act it x k ++ [tx k] else hist tx act it x k := rfl
    rw [e]
    split
    · rename_i hc
      rw [List.mem_append, ih]
      constructor
      · rintro (⟨j, h1, h2⟩ | h)
        · exact ⟨j, by omega, h2⟩
        · simp at h
          exact ⟨k, by omega, hc.1, hc.2, h.symm⟩
      · rintro ⟨j, h1, h2, h3, h4⟩
        by_cases ej : j = k
        · right; rw [← h4, ej]; simp
        · left; exact ⟨j, by omega, h2, h3, h4⟩
    · rename_i hc
      rw [ih]
      constructor
      · rintro ⟨j, h1, h2⟩; exact ⟨j, by omega, h2⟩
      · rintro ⟨j, h1, h2, h3, h4⟩
        by_cases ej : j = k
        · rw [ej] at h2 h3; exact absurd ⟨h2, h3⟩ hc
        · exact ⟨j, by omega, h2, h3, h4⟩

theorem allTo_iff (p : Nat → Bool) (n : Nat) : allTo p n = true ↔ ∀ i, i < n → p i = true := by
  induction n with
  | zero => simp [allTo]
  | succ n ih =>
    show (allTo p n && p n) = true ↔ _
    rw [Bool.and_eq_true, ih]
    constructor
    · rintro ⟨h1, h2⟩ i hi
      by_cases e : i = n
      · rw [e]; exact h2
      · exact h1 i (by omega)
    · intro h
      exact ⟨fun i hi => h i (by omega), h n (by omega)⟩

theorem mS_okS (H : WF tx act n) {i : Nat} (hi : i < n) : mS tx act it n i = okS tx act it i := by
  unfold mS okS
  split
  · rename_i ha
    rw [Bool.eq_iff_iff, allTo_iff, List.all_eq_true]
    constructor
    · intro h t ht
      obtain ⟨j, h1, h2, h3, h4⟩ := (hist_iff _ _ _).1 ht
      have := h j h1
      unfold sBad at this
      simp only [h2, h3, h4, decide_true, Bool.true_and, Bool.not_and, Bool.not_not, Bool.or_eq_true, Bool.not_eq_true', decide_eq_false_iff_not, decide_eq_true_eq] at this
      simp only [Bool.or_eq_true, decide_eq_true_eq]
      rcases this with h5 | h5
      · exact .inr h5
      · left
        rw [eAt_is H t i (by omega)]
        have := end_ne_op (tx := tx) t hi ha
        rw [if_pos (by omega)]
        have h6 := (endP_spec (tx := tx) (act := act) t n).2.2 (by omega)
        rw [hit_iff] at h6
        have := h6.1
        unfold isEnd at this
        simp at this
        omega
    · intro h j hj
      unfold sBad
      by_cases h2 : act j = 2
      · by_cases h3 : it j = it i
        · have := h (tx j) ((hist_iff _ _ _).2 ⟨j, hj, h2, h3, rfl⟩)
          simp only [Bool.or_eq_true, decide_eq_true_eq] at this
          rcases this with h5 | h5
          · rw [eAt_is H (tx j) i (by omega)] at h5
            split at h5
            · rename_i hc
              have : ¬ i < endP tx act (tx j) n := by omega
              simp [this]
            · exact absurd rfl h5
          · simp [h5]
        · simp [h3]
      · simp [h2]
  · rfl

theorem live_good (H : WF tx act n) {i j : Nat} (hi : i < n) : good tx act it n i j = (decide (act j = 2) && decide (it j = it i) && live tx act i (tx j)) := by
  unfold good live
  congr 1
  rw [eAt_is H (tx j) i (by omega)]
  unfold endA
  by_cases h : endP tx act (tx j) n < i
  · have h' : endP tx act (tx j) n < n := by omega
    simp [h, h']
  · simp [h]

/-- the last write that stands -/
theorem lastW_live (H : WF tx act n) {i : Nat} (hi : i < n) : ∀ k, ((hist tx act it (it i) k).filter (live tx act i)).getLast? = (lastW tx act it n i k).map tx := by
  intro k
  induction k with
  | zero => rfl
  | succ k ih =>
    have e : hist tx act it (it i) (k + 1) = if act k = 2 ∧ it k = it i then hist tx act it (it i) k ++ [tx k] else hist tx act it (it i) k := rfl
    have e2 : lastW tx act it n i (k + 1) = if good tx act it n i k then some k else lastW tx act it n i k := rfl
    rw [e, e2, live_good H hi]
    by_cases hc : act k = 2 ∧ it k = it i
    · rw [if_pos hc, List.filter_append]
      by_cases hl : live tx act i (tx k) = true
      · simp [hc.1, hc.2, hl]
      · simp [hc.1, hc.2, hl, ih]
    · rw [if_neg hc]
      have : (decide (act k = 2) && decide (it k = it i)) = false := by
        cases h1 : decide (act k = 2) with
        | false => rfl
        | true =>
          cases h2 : decide (it k = it i) with
          | false => rfl
          | true => exact absurd ⟨of_decide_eq_true h1, of_decide_eq_true h2⟩ hc
      rw [this]
      simp [ih]
theorem lastLive_is (H : WF tx act n) {i : Nat} (hi : i < n) : lastLive tx act it (it i) i = (lastW tx act it n i i).map tx := lastW_live H hi i

theorem cmt_is (H : WF tx act n) (w : Nat) {i : Nat} (hi : i ≤ n) : cmt tx act n w i = decide (eAt tx act (tx w) i = 3) := by
  unfold cmt endA
  rw [eAt_is H (tx w) i hi]
  by_cases h : endP tx act (tx w) n < i
  · have h' : endP tx act (tx w) n < n := by omega
    simp [h, h']
  · simp [h]

theorem mC_okC (H : WF tx act n) {i : Nat} (hi : i < n) : mC tx act it n i = okC tx act it i := by
  unfold mC okC
  split
  · rw [lastLive_is H hi]
    cases lastW tx act it n i i with
    | none => rfl
    | some w =>
      show (decide (tx w = tx i) || cmt tx act n w i) = (decide (tx w = tx i) || decide (eAt tx act (tx w) i = 3))
      rw [cmt_is H w (by omega)]
  · rfl

theorem rfs_iff (t : ByteArray) (k : Nat) (f : ByteArray) : f ∈ rfs tx act it t k ↔ ∃ i, i < k ∧ act i = 1 ∧ tx i = t ∧ lastLive tx act it (it i) i = some f ∧ f ≠ t := by
  induction k with
  | zero => constructor
            · intro h; cases h
            · rintro ⟨j, h, _⟩; omega
  | succ k ih =>
    have e : rfs tx act it t (k + 1) = if act k = 1 ∧ tx k = t then (match lastLive tx act it (it k) k with | some f => if f = t then rfs tx act it t k else rfs tx act it t k ++ [f] | none => rfs tx act it t k) else rfs tx act it t k := rfl
    have step : (∃ i, i < k + 1 ∧ act i = 1 ∧ tx i = t ∧ lastLive tx act it (it i) i = some f ∧ f ≠ t) ↔ (∃ i, i < k ∧ act i = 1 ∧ tx i = t ∧ lastLive tx act it (it i) i = some f ∧ f ≠ t) ∨ (act k = 1 ∧ tx k = t ∧ lastLive tx act it (it k) k = some f ∧ f ≠ t) := by
      constructor
      · rintro ⟨i, h1, h2⟩
        by_cases ei : i = k
        · rw [ei] at h2; exact .inr h2
        · exact .inl ⟨i, by omega, h2⟩
      · rintro (⟨i, h1, h2⟩ | h)
        · exact ⟨i, by omega, h2⟩
        · exact ⟨k, by omega, h⟩
    rw [e, step, ← ih]
    by_cases hc : act k = 1 ∧ tx k = t
    · rw [if_pos hc]
      cases hl : lastLive tx act it (it k) k with
      | none => simp
      | some y =>
        by_cases ey : y = t
        · simp [ey]
          intro h1 h2 h3 h4
          exact absurd h3.symm h4
        · simp [ey]
          constructor
          · rintro (h | h)
            · exact .inl h
            · right; rw [h]; exact ⟨hc.1, hc.2, rfl, ey⟩
          · rintro (h | ⟨_, _, h, _⟩)
            · exact .inl h
            · exact .inr h.symm
    · rw [if_neg hc]
      constructor
      · exact .inl
      · rintro (h | h)
        · exact h
        · exact absurd ⟨h.1, h.2.1⟩ hc

theorem mR_okR (H : WF tx act n) : allTo (mR tx act it n) n = allTo (okR tx act it) n := by
  rw [Bool.eq_iff_iff, allTo_iff, allTo_iff]
  constructor
  · intro h e he
    unfold okR
    split
    · rename_i h3
      rw [List.all_eq_true]
      intro f hf
      obtain ⟨i, hi, ha, ht, hl, hne⟩ := (rfs_iff _ _ _).1 hf
      have hm := h i (by omega)
      unfold mR at hm
      rw [if_pos ha] at hm
      rw [lastLive_is H (by omega)] at hl
      cases hw : lastW tx act it n i i with
      | none => rw [hw] at hl; cases hl
      | some w =>
        rw [hw] at hl hm
        simp at hl
        -- the reader's end is e
        have hhit : hit tx act (tx i) e = true := (hit_iff _ _).2 ⟨by unfold isEnd; simp [h3], ht.symm⟩
        obtain ⟨p1, p2, p3⟩ := endP_spec (tx := tx) (act := act) (tx i) n
        have hlt : endP tx act (tx i) n < n := by
          apply Classical.byContradiction
          intro h'
          have := p2 e (by omega)
          rw [hhit] at this; cases this
        have ee := end_one H (tx i) hlt he (p3 hlt) hhit
        have hA : endA tx act n (tx i) = 3 := by unfold endA; rw [if_pos hlt, ee]; exact h3
        rw [ee] at hm
        have hne' : ¬ tx w = tx i := fun e' => hne (by rw [← hl, e', ht])
        simp [hA, hne'] at hm
        rw [cmt_is H w (by omega), hl] at hm
        exact hm
    · rfl
  · intro h i hi
    unfold mR
    split
    · rename_i ha
      cases hw : lastW tx act it n i i with
      | none => rfl
      | some w =>
        show (decide (tx w = tx i) || !(decide (endA tx act n (tx i) = 3) && !cmt tx act n w (endP tx act (tx i) n))) = true
        by_cases e1 : tx w = tx i
        · simp [e1]
        · by_cases e2 : endA tx act n (tx i) = 3
          · obtain ⟨p1, p2, p3⟩ := endP_spec (tx := tx) (act := act) (tx i) n
            have hlt : endP tx act (tx i) n < n := by
              apply Classical.byContradiction
              intro h'
              unfold endA at e2
              rw [if_neg h'] at e2
              cases e2
            have h3 : act (endP tx act (tx i) n) = 3 := by unfold endA at e2; rw [if_pos hlt] at e2; exact e2
            have hh := (hit_iff _ _).1 (p3 hlt)
            have hie : i < endP tx act (tx i) n := by
              apply Classical.byContradiction
              intro h'
              have hne := end_ne_op (tx := tx) (tx i) hi (.inl ha)
              have := H (endP tx act (tx i) n) i (by omega) hi hh.1 hh.2.symm
              unfold isOp at this
              simp [ha] at this
            have hk := h _ hlt
            unfold okR at hk
            rw [if_pos h3, List.all_eq_true] at hk
            have := hk (tx w) ((rfs_iff _ _ _).2 ⟨i, hie, ha, hh.2.symm, by rw [lastLive_is H hi, hw]; rfl, fun e' => e1 (by rw [e', hh.2])⟩)
            rw [cmt_is H w (by omega)]
            simp at this
            simp [this]
          · simp [e2]
    · rfl

theorem allTo_congr {p q : Nat → Bool} {n : Nat} (h : ∀ i, i < n → p i = q i) : allTo p n = allTo q n := by
  rw [Bool.eq_iff_iff, allTo_iff, allTo_iff]
  constructor
  · intro h' i hi; rw [← h i hi]; exact h' i hi
  · intro h' i hi; rw [h i hi]; exact h' i hi

/-- the model's three answers are the stepwise ones -/
theorem model_is (H : WF tx act n) : allTo (mR tx act it n) n = allTo (okR tx act it) n ∧ allTo (mC tx act it n) n = allTo (okC tx act it) n ∧ allTo (mS tx act it n) n = allTo (okS tx act it) n :=
  ⟨mR_okR H, allTo_congr fun i hi => mC_okC H hi, allTo_congr fun i hi => mS_okS H hi⟩
end Go.Proofs.Qxb6600445a
