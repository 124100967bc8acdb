import Derived.Test.Qxb6600445aPHelp
namespace Go.Proofs.Qxb6600445a
open Go.RowKit
set_option linter.unusedVariables false

def cnt (f : Nat → Bool) : Nat → Nat
  | 0 => 0
  | n + 1 => cnt f n + (if f n then 1 else 0)
theorem cnt_le (f : Nat → Bool) (n : Nat) : cnt f n ≤ n := by
  induction n with
  | zero => exact Nat.le_refl _
  | succ n ih => unfold cnt; split <;> omega
theorem cnt_congr {f g : Nat → Bool} {n : Nat} (h : ∀ i, i < n → f i = g i) : cnt f n = cnt g n := by
  induction n with
  | zero => rfl
  | succ n ih =>
    unfold cnt
    rw [ih (fun i hi => h i (by omega)), h n (by omega)]
theorem cnt_set {f : Nat → Bool} {n c : Nat} (hc : c < n) (hf : f c = false) : cnt (upn f c true) n = cnt f n + 1 := by
  induction n with
  | zero => omega
  | succ n ih =>
    unfold cnt
    by_cases e : c = n
    · subst e
      rw [upn_at, hf, cnt_congr (fun i hi => upn_ne f c true (by omega))]
      simp
    · rw [ih (by omega), upn_ne f c true (by omega)]
      omega
theorem cnt_unset {f : Nat → Bool} {n c : Nat} (hc : c < n) (hf : f c = true) : cnt (upn f c false) n + 1 = cnt f n := by
  induction n with
  | zero => omega
  | succ n ih =>
    unfold cnt
    by_cases e : c = n
    · subst e
      rw [upn_at, hf, cnt_congr (fun i hi => upn_ne f c false (by omega))]
      simp
    · have := ih (by omega)
      rw [upn_ne f c false (by omega)]
      omega
theorem cnt_zero {f : Nat → Bool} {n : Nat} (h : ∀ i, i < n → f i = false) : cnt f n = 0 := by
  induction n with
  | zero => rfl
  | succ n ih =>
    unfold cnt
    rw [ih (fun i hi => h i (by omega)), h n (by omega)]
    rfl

/-- the table holds just what C says -/
def Mk (m : Nat) (f : Nat → Bool) (C : Nat → Nat → Prop) : Prop := ∀ c, c < m * m → (f c = true ↔ C (c / m) (c % m))

theorem place_lt {m u v : Nat} (hu : u < m) (hv : v < m) : u * m + v < m * m := by
  have : (u + 1) * m ≤ m * m := Nat.mul_le_mul_right m hu
  rw [Nat.add_mul] at this
  omega
theorem place_div {m u v : Nat} (hv : v < m) : (u * m + v) / m = u ∧ (u * m + v) % m = v := by
  have h0 : 0 < m := by omega
  constructor
  · rw [Nat.mul_comm, Nat.mul_add_div h0, Nat.div_eq_of_lt hv, Nat.add_zero]
  · rw [Nat.mul_comm, Nat.mul_add_mod, Nat.mod_eq_of_lt hv]
theorem Mk.at {m u v : Nat} {f : Nat → Bool} {C : Nat → Nat → Prop} (H : Mk m f C) (hu : u < m) (hv : v < m) : f (u * m + v) = true ↔ C u v := by
  have := H (u * m + v) (place_lt hu hv)
  rw [(place_div hv).1, (place_div hv).2] at this
  exact this
theorem Mk.congr {m : Nat} {f : Nat → Bool} {C C' : Nat → Nat → Prop} (H : Mk m f C) (h : ∀ a b, C a b ↔ C' a b) : Mk m f C' := fun c hc => (H c hc).trans (h _ _)
theorem place_eq {m c u v : Nat} (h1 : c / m = u) (h2 : c % m = v) : c = u * m + v := by
  have := Nat.div_add_mod c m
  rw [h1, h2, Nat.mul_comm] at this
  exact this.symm
theorem Mk.set {m u v : Nat} {f : Nat → Bool} {C : Nat → Nat → Prop} (H : Mk m f C) (hu : u < m) (hv : v < m) : Mk m (upn f (u * m + v) true) (fun a b => C a b ∨ (a = u ∧ b = v)) := fun c hc => by
  by_cases e : c = u * m + v
  · subst e
    rw [upn_at, (place_div hv).1, (place_div hv).2]
    simp
  · rw [upn_ne _ _ _ e, H c hc]
    constructor
    · exact .inl
    · rintro (h | ⟨h1, h2⟩)
      · exact h
      · exact absurd (place_eq h1 h2) e
theorem Mk.unset {m u v : Nat} {f : Nat → Bool} {C : Nat → Nat → Prop} (H : Mk m f C) (hu : u < m) (hv : v < m) : Mk m (upn f (u * m + v) false) (fun a b => C a b ∧ ¬ (a = u ∧ b = v)) := fun c hc => by
  by_cases e : c = u * m + v
  · subst e
    rw [upn_at, (place_div hv).1, (place_div hv).2]
    simp
  · rw [upn_ne _ _ _ e, H c hc]
    constructor
    · exact fun h => ⟨h, fun ⟨h1, h2⟩ => e (place_eq h1 h2)⟩
    · exact fun h => h.1

section
variable {iv : Nat → Nat} {wb : Nat → Bool} {it : Nat → ByteArray}
/-- pairs (i', j') up to (i, j) -/
def cf (iv : Nat → Nat) (wb : Nat → Bool) (it : Nat → ByteArray) (j i a b : Nat) : Prop := conf iv wb it j a b ∨ (b = iv j ∧ a ≠ iv j ∧ ∃ i', i' < i ∧ it i' = it j ∧ iv i' = a ∧ (wb i' = true ∨ wb j = true))
theorem cf_zero (j a b : Nat) : conf iv wb it j a b ↔ cf iv wb it j 0 a b := by simp [cf]
theorem cf_end (j a b : Nat) : cf iv wb it j j a b ↔ conf iv wb it (j + 1) a b := (conf_succ a b).symm
theorem cf_skip {j i : Nat} (h : it i ≠ it j ∨ iv i = iv j ∨ (wb i = false ∧ wb j = false)) (a b : Nat) : cf iv wb it j i a b ↔ cf iv wb it j (i + 1) a b := by
  unfold cf
  constructor
  · rintro (h' | ⟨h1, h2, i', h3, h4⟩)
    · exact .inl h'
    · exact .inr ⟨h1, h2, i', by omega, h4⟩
  · rintro (h' | ⟨h1, h2, i', h3, h4, h5, h6⟩)
    · exact .inl h'
    · by_cases e : i' = i
      · subst e
        rcases h with h | h | ⟨ha, hb⟩
        · exact absurd h4 h
        · exact absurd (h5.symm.trans h) h2
        · rw [ha, hb] at h6; simp at h6
      · exact .inr ⟨h1, h2, i', by omega, h4, h5, h6⟩
theorem cf_add {j i : Nat} (h1 : it i = it j) (h2 : iv i ≠ iv j) (h3 : wb i = true ∨ wb j = true) (a b : Nat) : (cf iv wb it j i a b ∨ (a = iv i ∧ b = iv j)) ↔ cf iv wb it j (i + 1) a b := by
  unfold cf
  constructor
  · rintro ((h' | ⟨h1, h2, i', h3, h4⟩) | ⟨rfl, rfl⟩)
    · exact .inl h'
    · exact .inr ⟨h1, h2, i', by omega, h4⟩
    · exact .inr ⟨rfl, h2, i, by omega, h1, rfl, h3⟩
  · rintro (h' | ⟨g1, g2, i', g3, g4, g5, g6⟩)
    · exact .inl (.inl h')
    · by_cases e : i' = i
      · subst e; exact .inr ⟨g5.symm, g1⟩
      · exact .inl (.inr ⟨g1, g2, i', by omega, g4, g5, g6⟩)

/-- what is left after the rows below u and kk of row u -/
def lf (C : Nat → Nat → Prop) (S : Nat → List Nat) (u kk a b : Nat) : Prop := C a b ∧ (u < a ∨ (a = u ∧ ¬ b ∈ (S u).take kk))
theorem lf_start (C : Nat → Nat → Prop) (S : Nat → List Nat) (a b : Nat) : C a b ↔ lf C S 0 0 a b := by
  unfold lf
  constructor
  · intro h
    refine ⟨h, ?_⟩
    by_cases e : a = 0
    · exact .inr ⟨e, by simp⟩
    · exact .inl (by omega)
  · exact fun h => h.1
theorem lf_step {C : Nat → Nat → Prop} {S : Nat → List Nat} {u kk v : Nat} (hv : (S u)[kk]? = some v) (a b : Nat) : (lf C S u kk a b ∧ ¬ (a = u ∧ b = v)) ↔ lf C S u (kk + 1) a b := by
  unfold lf
  rw [List.take_add_one, hv]
  simp only [Option.toList_some, List.mem_append, List.mem_singleton]
  constructor
  · rintro ⟨⟨h1, h2 | ⟨h2, h3⟩⟩, h4⟩
    · exact ⟨h1, .inl h2⟩
    · exact ⟨h1, .inr ⟨h2, fun h => h.elim h3 (fun h => h4 ⟨h2, h⟩)⟩⟩
  · rintro ⟨h1, h2 | ⟨h2, h3⟩⟩
    · exact ⟨⟨h1, .inl h2⟩, fun h => by omega⟩
    · exact ⟨⟨h1, .inr ⟨h2, fun h => h3 (.inl h)⟩⟩, fun h => h3 (.inr h.2)⟩
theorem lf_next {C : Nat → Nat → Prop} {S : Nat → List Nat} {u kk : Nat} (hk : (S u).length ≤ kk) (hS : ∀ a b, b ∈ S a ↔ C a b) (a b : Nat) : lf C S u kk a b ↔ lf C S (u + 1) 0 a b := by
  unfold lf
  rw [List.take_of_length_le hk]
  constructor
  · rintro ⟨h1, h2 | ⟨h2, h3⟩⟩
    · refine ⟨h1, ?_⟩
      by_cases e : a = u + 1
      · exact .inr ⟨e, by simp⟩
      · exact .inl (by omega)
    · subst h2; exact absurd ((hS a b).2 h1) h3
  · rintro ⟨h1, h2 | ⟨h2, _⟩⟩
    · exact ⟨h1, .inl (by omega)⟩
    · exact ⟨h1, .inl (by omega)⟩
theorem lf_here {C : Nat → Nat → Prop} {S : Nat → List Nat} {u kk v : Nat} (hv : (S u)[kk]? = some v) (hS : ∀ a b, b ∈ S a ↔ C a b) (hn : (S u).Nodup) : lf C S u kk u v := by
  refine ⟨(hS u v).1 (List.mem_of_getElem? hv), .inr ⟨rfl, fun h => ?_⟩⟩
  obtain ⟨i, hi⟩ := List.mem_iff_getElem?.1 h
  rw [List.getElem?_take] at hi
  split at hi
  · rename_i hlt
    rw [List.getElem?_eq_some_iff] at hi hv
    obtain ⟨i1, i2⟩ := hi
    obtain ⟨j1, j2⟩ := hv
    have := (List.getElem_inj hn).1 (i2.trans j2.symm)
    omega
  · cases hi
theorem lf_none {C : Nat → Nat → Prop} {S : Nat → List Nat} {m : Nat} {f : Nat → Bool} (H : Mk m f (lf C S m 0)) : cnt f (m * m) = 0 := by
  apply cnt_zero
  intro c hc
  have h := H c hc
  have hd : c / m < m := Nat.div_lt_of_lt_mul hc
  cases hf : f c with
  | false => rfl
  | true =>
    obtain ⟨_, h1 | ⟨h1, _⟩⟩ := h.1 hf
    · omega
    · omega
end
end Go.Proofs.Qxb6600445a
