import Derived.Test.Qxb6600448aSmall
namespace Go.Proofs.Qxb6600448a
set_option linter.unusedVariables false

def nodeOf (R : Nat) (nd : Nat → Nat) : Option Nat → Nat
  | none => R
  | some i => nd i
/-- c is the root, or a step ahead of j that is its own first -/
def canonC (cn : Nat → Nat) (j : Nat) (c : Option Nat) : Prop := ∀ i, c = some i → i < j ∧ cn i = i
def upd {α : Type} (f : Nat → α) (j : Nat) (v : α) : Nat → α := fun i => if i = j then v else f i
theorem upd_at {α : Type} (f : Nat → α) (j : Nat) (v : α) : upd f j v j = v := by simp [upd]
theorem upd_ne {α : Type} (f : Nat → α) (j i : Nat) (v : α) (h : i ≠ j) : upd f j v i = f i := by simp [upd, h]

def lits (key : Nat → Int × List UInt8) (cn : Nat → Nat) (cp : Nat → Option Nat) (c : Option Nat) (j : Nat) : Nat :=
  ((List.range j).filter (fun i => decide (cn i = i ∧ cp i = c ∧ (key i).1 = 0))).length

structure Inv (key : Nat → Int × List UInt8) (j R : Nat) (nd cn : Nat → Nat) (cp : Nat → Option Nat) (N : Nat → Prop) (ch : Ch) (cnt : Nat → Nat) : Prop where
  cnle : ∀ i, i < j → cn i ≤ i ∧ cn (cn i) = cn i ∧ nd (cn i) = nd i
  cpok : ∀ i, i < j → canonC cn i (cp i)
  same : ∀ i, i < j → cp (cn i) = cp i ∧ key (cn i) = key i
  first : ∀ i i', i < j → i' < cn i → ¬ (cp i' = cp i ∧ key i' = key i)
  dom : ∀ b, N b ↔ b = R ∨ ∃ i, i < j ∧ nd i = b
  inj : ∀ i i', i < j → i' < j → nd i = nd i' → cn i = cn i'
  root : ∀ i, i < j → nd i ≠ R
  edge : ∀ c, canonC cn j c → ∀ κ t r, ch (nodeOf R nd c) κ t = some r ↔ ∃ i, i < j ∧ cp i = c ∧ key i = (κ, t) ∧ nd i = r
  count : ∀ c, canonC cn j c → cnt (nodeOf R nd c) = lits key cn cp c j

variable {key : Nat → Int × List UInt8} {j R : Nat} {nd cn : Nat → Nat} {cp : Nat → Option Nat} {N : Nat → Prop} {ch : Ch} {cnt : Nat → Nat}

theorem inv_start (key : Nat → Int × List UInt8) (R : Nat) (nd cn : Nat → Nat) (cp : Nat → Option Nat) : Inv key 0 R nd cn cp (fun b => b = R) (fun _ _ _ => none) (fun _ => 0) where
  cnle := fun i h => by omega
  cpok := fun i h => by omega
  same := fun i h => by omega
  first := fun i i' h => by omega
  dom := fun b => by simp
  inj := fun i i' h => by omega
  root := fun i h => by omega
  edge := fun c hc κ t r => by simp
  count := fun c hc => by simp [lits]

theorem lits_upd {cn' : Nat → Nat} {cp' : Nat → Option Nat} (c : Option Nat) (h1 : ∀ i, i < j → cn' i = cn i) (h2 : ∀ i, i < j → cp' i = cp i) :
    lits key cn' cp' c (j + 1) = lits key cn cp c j + if cn' j = j ∧ cp' j = c ∧ (key j).1 = 0 then 1 else 0 := by
  unfold lits
  rw [List.range_succ, List.filter_append, List.length_append]
  congr 1
  · congr 1
    apply List.filter_congr
    intro i hi
    have := List.mem_range.1 hi
    rw [h1 i this, h2 i this]
  · by_cases h : cn' j = j ∧ cp' j = c ∧ (key j).1 = 0 <;> simp [h]

theorem canon_lift {cn' : Nat → Nat} (h1 : ∀ i, i < j → cn' i = cn i) {c : Option Nat} (h : canonC cn j c) : canonC cn' (j + 1) c := fun i hi => by
  have := h i hi
  exact ⟨by omega, by rw [h1 i this.1]; exact this.2⟩

/-- the call gave a node that was there -/
theorem inv_hit (H : Inv key j R nd cn cp N ch cnt) (c : Option Nat) (hc : canonC cn j c) (r m : Nat) (hch : ch (nodeOf R nd c) (key j).1 (key j).2 = some r)
    (hm1 : ∀ i, i < m → ¬ (cp i = c ∧ key i = key j)) (hm2 : m = j ∨ m < j ∧ cp m = c ∧ key m = key j) :
    m < j ∧ Inv key (j + 1) R (upd nd j r) (upd cn j m) (upd cp j c) N ch cnt := by
  obtain ⟨i0, hi0, h1, h2, h3⟩ := (H.edge c hc _ _ _).1 hch
  have hk : key i0 = key j := h2
  obtain ⟨e1, e2, e3⟩ := H.cnle i0 hi0
  obtain ⟨s1, s2⟩ := H.same i0 hi0
  have hcm : cn i0 = m := by
    have a : ¬ cn i0 < m := fun h => hm1 (cn i0) h ⟨s1.trans h1, s2.trans hk⟩
    have b : ¬ m < cn i0 := fun h => by
      rcases hm2 with rfl | ⟨_, q1, q2⟩
      · omega
      · exact H.first i0 m hi0 h ⟨q1.trans h1.symm, q2.trans hk.symm⟩
    omega
  have hmj : m < j := by omega
  have hcmm : cn m = m := by rw [← hcm]; exact e2
  have hndm : nd m = r := by rw [← hcm, e3]; exact h3
  have hq : cp m = c ∧ key m = key j := by rw [← hcm]; exact ⟨s1.trans h1, s2.trans hk⟩
  have u1 : ∀ i, i < j → upd cn j m i = cn i := fun i h => upd_ne _ _ _ _ (by omega)
  have u2 : ∀ i, i < j → upd cp j c i = cp i := fun i h => upd_ne _ _ _ _ (by omega)
  have u3 : ∀ i, i < j → upd nd j r i = nd i := fun i h => upd_ne _ _ _ _ (by omega)
  have node_eq : ∀ x, canonC (upd cn j m) (j + 1) x → canonC cn j x ∧ nodeOf R (upd nd j r) x = nodeOf R nd x := fun x hx => by
    cases x with
    | none => exact ⟨fun i h => (by cases h), rfl⟩
    | some i =>
      obtain ⟨a, b⟩ := hx i rfl
      have hij : i ≠ j := fun e => by subst e; rw [upd_at] at b; omega
      have hlt : i < j := by omega
      rw [u1 i hlt] at b
      exact ⟨fun i' h => by cases h; exact ⟨hlt, b⟩, u3 i hlt⟩
  refine ⟨hmj, ⟨fun i hi => ?_, fun i hi => ?_, fun i hi => ?_, fun i i' hi hi' => ?_, fun b => ?_, fun i i' hi hi' => ?_, fun i hi => ?_, fun x hx κ t r' => ?_, fun x hx => ?_⟩⟩
  · by_cases e : i = j
    · subst e; rw [upd_at, upd_at, u1 m hmj, u3 m hmj]; exact ⟨by omega, hcmm, hndm⟩
    · have hlt : i < j := by omega
      have := (H.cnle i hlt)
      rw [u1 i hlt, u1 (cn i) (by omega), u3 (cn i) (by omega), u3 i hlt]; exact this
  · by_cases e : i = j
    · subst e; rw [upd_at]; intro p hp
      have := hc p hp
      exact ⟨this.1, by rw [u1 p this.1]; exact this.2⟩
    · have hlt : i < j := by omega
      rw [u2 i hlt]; intro p hp
      have := H.cpok i hlt p hp
      exact ⟨this.1, by rw [u1 p (by omega)]; exact this.2⟩
  · by_cases e : i = j
    · subst e; rw [upd_at, upd_at, u2 m hmj]; exact hq
    · have hlt : i < j := by omega
      have := H.cnle i hlt
      rw [u1 i hlt, u2 (cn i) (by omega), u2 i hlt]; exact H.same i hlt
  · by_cases e : i = j
    · subst e; rw [upd_at] at hi'
      rw [upd_at, u2 i' (by omega)]; exact hm1 i' hi'
    · have hlt : i < j := by omega
      have := H.cnle i hlt
      rw [u1 i hlt] at hi'
      rw [u2 i' (by omega), u2 i hlt]; exact H.first i i' hlt hi'
  · rw [H.dom b]
    constructor
    · rintro (h | ⟨i, hi, h⟩)
      · exact .inl h
      · exact .inr ⟨i, by omega, by rw [u3 i hi]; exact h⟩
    · rintro (h | ⟨i, hi, h⟩)
      · exact .inl h
      · by_cases e : i = j
        · subst e; rw [upd_at] at h; exact .inr ⟨m, hmj, by rw [hndm]; exact h⟩
        · exact .inr ⟨i, by omega, by rw [u3 i (by omega)] at h; exact h⟩
  · have val : ∀ z, z < j + 1 → ∃ z', z' < j ∧ upd nd j r z = nd z' ∧ upd cn j m z = cn z' := fun z hz => by
      by_cases e : z = j
      · subst e; exact ⟨m, hmj, by rw [upd_at, hndm], by rw [upd_at, hcmm]⟩
      · exact ⟨z, by omega, u3 z (by omega), u1 z (by omega)⟩
    obtain ⟨a, ha, ha1, ha2⟩ := val i hi
    obtain ⟨b, hb, hb1, hb2⟩ := val i' hi'
    rw [ha1, hb1, ha2, hb2]; exact H.inj a b ha hb
  · by_cases e : i = j
    · subst e; rw [upd_at, ← hndm]; exact H.root m hmj
    · rw [u3 i (by omega)]; exact H.root i (by omega)
  · obtain ⟨q1, q2⟩ := node_eq x hx
    rw [q2, H.edge x q1]
    constructor
    · rintro ⟨i, hi, a, b, d⟩
      exact ⟨i, by omega, by rw [u2 i hi]; exact a, b, by rw [u3 i hi]; exact d⟩
    · rintro ⟨i, hi, a, b, d⟩
      by_cases e : i = j
      · subst e
        rw [upd_at] at a d
        exact ⟨m, hmj, hq.1.trans a, hq.2.trans b, hndm.trans d⟩
      · exact ⟨i, by omega, by rw [u2 i (by omega)] at a; exact a, b, by rw [u3 i (by omega)] at d; exact d⟩
  · obtain ⟨q1, q2⟩ := node_eq x hx
    rw [q2, H.count x q1, lits_upd x u1 u2, if_neg]
    · rfl
    · rintro ⟨a, _⟩
      rw [upd_at] at a; omega

/-- the call made a new node -/
theorem inv_new (H : Inv key j R nd cn cp N ch cnt) (c : Option Nat) (hc : canonC cn j c) (r m : Nat) (hch : ch (nodeOf R nd c) (key j).1 (key j).2 = none) (hr : ¬ N r)
    (hm1 : ∀ i, i < m → ¬ (cp i = c ∧ key i = key j)) (hm2 : m = j ∨ m < j ∧ cp m = c ∧ key m = key j) :
    m = j ∧ Inv key (j + 1) R (upd nd j r) (upd cn j m) (upd cp j c) (fun x => N x ∨ x = r) (addC ch (nodeOf R nd c) (key j).1 (key j).2 r) (addN cnt (nodeOf R nd c) (key j).1 r) := by
  have none_of : ∀ i, i < j → ¬ (cp i = c ∧ key i = key j) := fun i hi h => by
    have := (H.edge c hc (key j).1 (key j).2 (nd i)).2 ⟨i, hi, h.1, h.2, rfl⟩
    rw [hch] at this; cases this
  have hmj : m = j := by
    rcases hm2 with h | ⟨h, h'⟩
    · exact h
    · exact absurd h' (none_of m h)
  refine ⟨hmj, ?_⟩
  subst hmj
  have hrR : r ≠ R := fun e => hr ((H.dom r).2 (.inl e))
  have hrn : ∀ i, i < m → nd i ≠ r := fun i hi e => hr ((H.dom r).2 (.inr ⟨i, hi, e⟩))
  have u1 : ∀ i, i < m → upd cn m m i = cn i := fun i h => upd_ne _ _ _ _ (by omega)
  have u2 : ∀ i, i < m → upd cp m c i = cp i := fun i h => upd_ne _ _ _ _ (by omega)
  have u3 : ∀ i, i < m → upd nd m r i = nd i := fun i h => upd_ne _ _ _ _ (by omega)
  have node_eq : ∀ x, canonC (upd cn m m) (m + 1) x → x = some m ∨ (canonC cn m x ∧ nodeOf R (upd nd m r) x = nodeOf R nd x) := fun x hx => by
    cases x with
    | none => exact .inr ⟨fun i h => (by cases h), rfl⟩
    | some i =>
      obtain ⟨a, b⟩ := hx i rfl
      by_cases e : i = m
      · exact .inl (by rw [e])
      · have hlt : i < m := by omega
        rw [u1 i hlt] at b
        exact .inr ⟨fun i' h => by cases h; exact ⟨hlt, b⟩, u3 i hlt⟩
  have node_ne : ∀ x, canonC cn m x → nodeOf R nd x ≠ r := fun x hx => by
    cases x with
    | none => exact hrR.symm
    | some i => exact hrn i (hx i rfl).1
  have node_inj : ∀ x y, canonC cn m x → canonC cn m y → nodeOf R nd x = nodeOf R nd y → x = y := fun x y hx hy e => by
    cases x with
    | none =>
      cases y with
      | none => rfl
      | some i => exact absurd e.symm (H.root i (hy i rfl).1)
    | some i =>
      cases y with
      | none => exact absurd e (H.root i (hx i rfl).1)
      | some i' =>
        have := H.inj i i' (hx i rfl).1 (hy i' rfl).1 e
        rw [(hx i rfl).2, (hy i' rfl).2] at this
        rw [this]
  have no_self : ∀ i, i < m + 1 → upd cp m c i ≠ some m := fun i hi e => by
    by_cases h : i = m
    · subst h; rw [upd_at] at e; have := (hc i e).1; omega
    · rw [u2 i (by omega)] at e; have := (H.cpok i (by omega) m e).1; omega
  refine ⟨fun i hi => ?_, fun i hi => ?_, fun i hi => ?_, fun i i' hi hi' => ?_, fun b => ?_, fun i i' hi hi' => ?_, fun i hi => ?_, fun x hx κ t r' => ?_, fun x hx => ?_⟩
  · by_cases e : i = m
    · subst e; rw [upd_at, upd_at]; exact ⟨Nat.le_refl _, rfl, rfl⟩
    · have hlt : i < m := by omega
      have := (H.cnle i hlt)
      rw [u1 i hlt, u1 (cn i) (by omega), u3 (cn i) (by omega), u3 i hlt]; exact this
  · by_cases e : i = m
    · subst e; rw [upd_at]; intro p hp
      have := hc p hp
      exact ⟨this.1, by rw [u1 p this.1]; exact this.2⟩
    · have hlt : i < m := by omega
      rw [u2 i hlt]; intro p hp
      have := H.cpok i hlt p hp
      exact ⟨this.1, by rw [u1 p (by omega)]; exact this.2⟩
  · by_cases e : i = m
    · subst e; rw [upd_at, upd_at]; exact ⟨rfl, rfl⟩
    · have hlt : i < m := by omega
      have := H.cnle i hlt
      rw [u1 i hlt, u2 (cn i) (by omega), u2 i hlt]; exact H.same i hlt
  · by_cases e : i = m
    · subst e; rw [upd_at] at hi'
      rw [upd_at, u2 i' (by omega)]; exact none_of i' hi'
    · have hlt : i < m := by omega
      have := H.cnle i hlt
      rw [u1 i hlt] at hi'
      rw [u2 i' (by omega), u2 i hlt]; exact H.first i i' hlt hi'
  · rw [H.dom b]
    constructor
    · rintro ((h | ⟨i, hi, h⟩) | h)
      · exact .inl h
      · exact .inr ⟨i, by omega, by rw [u3 i hi]; exact h⟩
      · exact .inr ⟨m, by omega, by rw [upd_at]; exact h.symm⟩
    · rintro (h | ⟨i, hi, h⟩)
      · exact .inl (.inl h)
      · by_cases e : i = m
        · subst e; rw [upd_at] at h; exact .inr h.symm
        · exact .inl (.inr ⟨i, by omega, by rw [u3 i (by omega)] at h; exact h⟩)
  · by_cases e : i = m
    · by_cases e' : i' = m
      · intro _; rw [e, e']
      · subst e; rw [upd_at, u3 i' (by omega)]; intro h; exact absurd h.symm (hrn i' (by omega))
    · by_cases e' : i' = m
      · subst e'; rw [upd_at, u3 i (by omega)]; intro h; exact absurd h (hrn i (by omega))
      · rw [u3 i (by omega), u3 i' (by omega), u1 i (by omega), u1 i' (by omega)]; exact H.inj i i' (by omega) (by omega)
  · by_cases e : i = m
    · subst e; rw [upd_at]; exact hrR
    · rw [u3 i (by omega)]; exact H.root i (by omega)
  · rcases node_eq x hx with rfl | ⟨q1, q2⟩
    · show addC ch (nodeOf R nd c) (key m).1 (key m).2 r (upd nd m r m) κ t = some r' ↔ _
      rw [upd_at]
      constructor
      · intro h; simp [addC] at h
      · rintro ⟨i, hi, a, _⟩
        exact absurd a (no_self i hi)
    · rw [q2]
      unfold addC
      rw [if_neg (node_ne x q1)]
      by_cases hh : nodeOf R nd x = nodeOf R nd c ∧ κ = (key m).1 ∧ t = (key m).2
      · rw [if_pos hh]
        have hxc := node_inj x c q1 hc hh.1
        subst hxc
        constructor
        · intro h
          cases h
          exact ⟨m, by omega, upd_at _ _ _, by rw [hh.2.1, hh.2.2], upd_at _ _ _⟩
        · rintro ⟨i, hi, a, b, d⟩
          by_cases e : i = m
          · subst e; rw [upd_at] at d; rw [d]
          · exfalso
            rw [u2 i (by omega)] at a
            exact none_of i (by omega) ⟨a, by rw [b, hh.2.1, hh.2.2]⟩
      · rw [if_neg hh, H.edge x q1]
        constructor
        · rintro ⟨i, hi, a, b, d⟩
          exact ⟨i, by omega, by rw [u2 i hi]; exact a, b, by rw [u3 i hi]; exact d⟩
        · rintro ⟨i, hi, a, b, d⟩
          by_cases e : i = m
          · exfalso
            subst e
            rw [upd_at] at a
            exact hh ⟨by rw [a], by rw [b], by rw [b]⟩
          · exact ⟨i, by omega, by rw [u2 i (by omega)] at a; exact a, b, by rw [u3 i (by omega)] at d; exact d⟩
  · rcases node_eq x hx with rfl | ⟨q1, q2⟩
    · show addN cnt (nodeOf R nd c) (key m).1 r (upd nd m r m) = _
      rw [upd_at]
      have : lits key (upd cn m m) (upd cp m c) (some m) (m + 1) = 0 := by
        unfold lits
        rw [List.length_eq_zero_iff, List.filter_eq_nil_iff]
        intro i hi
        have := no_self i (List.mem_range.1 hi)
        simp [this]
      rw [this]
      simp [addN]
    · rw [q2, lits_upd x u1 u2, ← H.count x q1]
      unfold addN
      rw [if_neg (node_ne x q1), upd_at, upd_at]
      by_cases hh : nodeOf R nd x = nodeOf R nd c ∧ (key m).1 = 0
      · have hxc := node_inj x c q1 hc hh.1
        subst hxc
        rw [if_pos hh, if_pos ⟨rfl, rfl, hh.2⟩]
      · rw [if_neg hh, if_neg]
        · rfl
        · rintro ⟨_, a, b⟩
          exact hh ⟨by rw [a], b⟩
end Go.Proofs.Qxb6600448a
