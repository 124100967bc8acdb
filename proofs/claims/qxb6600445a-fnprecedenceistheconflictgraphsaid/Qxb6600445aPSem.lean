import Derived.Test.Qxb6600445aPNew
namespace Go.Proofs.Qxb6600445a
open Go.RowKit
set_option linter.unusedVariables false

def conf (iv : Nat → Nat) (wb : Nat → Bool) (it : Nat → ByteArray) (k u v : Nat) : Prop :=
  ∃ i j, i < j ∧ j < k ∧ iv i = u ∧ iv j = v ∧ u ≠ v ∧ it i = it j ∧ (wb i = true ∨ wb j = true)
def mAs (iv : Nat → Nat) (it : Nat → ByteArray) (k : Nat) (x : ByteArray) (t : Nat) : Prop := ∃ i, i < k ∧ it i = x ∧ iv i = t
def mWs (iv : Nat → Nat) (wb : Nat → Bool) (it : Nat → ByteArray) (k : Nat) (x : ByteArray) (t : Nat) : Prop := ∃ i, i < k ∧ it i = x ∧ wb i = true ∧ iv i = t

structure Sm (MA MW : ByteArray → Nat → Prop) (C : Nat → Nat → Prop) (G : Gh) : Prop where
  mA : ∀ x t, t ∈ G.Al x ↔ MA x t
  mW : ∀ x t, t ∈ G.Wl x ↔ MW x t
  acc : ∀ x t, (G.A x t).isSome = true ↔ MA x t
  wo : ∀ x t, G.wo x t = true ↔ MW x t
  sub : ∀ x t, MW x t → MA x t
  d0 : ∀ x t, G.d0 x t ≤ (G.Wl x).length ∧ ∀ u, u ∈ (G.Wl x).take (G.d0 x t) → u ≠ t → C u t
  d1 : ∀ x t, G.d1 x t ≤ (G.Al x).length ∧ ∀ u, u ∈ (G.Al x).take (G.d1 x t) → u ≠ t → C u t
  dz : ∀ x t, G.A x t = none → G.d0 x t = 0 ∧ G.d1 x t = 0
  ab : ∀ x, G.X x = none → G.vW x = nilS ∧ G.vA x = nilS ∧ ∀ t, G.A x t = none
  es : ∀ u v, G.Es u v = true ↔ C u v
  sl : ∀ u v, v ∈ G.Sl u ↔ C u v
  nd : ∀ u, (G.Sl u).Nodup

section
variable {MA MW : ByteArray → Nat → Prop} {C : Nat → Nat → Prop} {G G' : Gh}

theorem Sm.congr {MA' MW' : ByteArray → Nat → Prop} {C' : Nat → Nat → Prop} (H : Sm MA MW C G) (h1 : ∀ x t, MA x t ↔ MA' x t) (h2 : ∀ x t, MW x t ↔ MW' x t) (h3 : ∀ u v, C u v ↔ C' u v) : Sm MA' MW' C' G := by
  have e1 : MA = MA' := by funext x t; exact propext (h1 x t)
  have e2 : MW = MW' := by funext x t; exact propext (h2 x t)
  have e3 : C = C' := by funext x t; exact propext (h3 x t)
  rw [← e1, ← e2, ← e3]; exact H

theorem Sm.box (H : Sm MA MW C G) (kB : Option Nat) (bx : Obj) : Sm MA MW C { G with kB := kB, bx := bx } :=
  ⟨H.mA, H.mW, H.acc, H.wo, H.sub, H.d0, H.d1, H.dz, H.ab, H.es, H.sl, H.nd⟩

theorem Sm.newItem (H : Sm MA MW C G) {x : ByteArray} (hx : G.X x = none) (b bb c : Nat) : Sm MA MW C { G with X := up G.X x (some b), Bb := up G.Bb x bb, c := c } :=
  ⟨H.mA, H.mW, H.acc, H.wo, H.sub, H.d0, H.d1, H.dz, fun y hy => H.ab y (by
    by_cases e : y = x
    · rw [e]; exact hx
    · rw [← up_ne G.X x y (some b) e]; exact hy), H.es, H.sl, H.nd⟩

theorem Sm.pushA (H : Sm MA MW C G) {x : ByteArray} {t b0 : Nat} (hX : G.X x = some b0) (hA : G.A x t = none) (b c : Nat) (v : Value) :
    Sm (fun y s => MA y s ∨ (y = x ∧ s = t)) MW C { G with A := up2 G.A x t (some b), Al := up G.Al x (G.Al x ++ [t]), vA := up G.vA x v, c := c } where
  mA := fun y s => by
    show s ∈ up G.Al x (G.Al x ++ [t]) y ↔ _
    by_cases e : y = x
    · subst e
      rw [up_at, List.mem_append, H.mA]
      simp
    · rw [up_ne _ _ _ _ e, H.mA]
      simp [e]
  mW := H.mW
  acc := fun y s => by
    show (up2 G.A x t (some b) y s).isSome = true ↔ _
    by_cases e : y = x ∧ s = t
    · rw [e.1, e.2, up2_at]; simp
    · rw [up2_ne _ _ _ _ e, H.acc]
      simp [e]
  wo := H.wo
  sub := fun y s h => .inl (H.sub y s h)
  d0 := H.d0
  d1 := fun y s => by
    have h := H.d1 y s
    show G.d1 y s ≤ (up G.Al x (G.Al x ++ [t]) y).length ∧ ∀ u, u ∈ (up G.Al x (G.Al x ++ [t]) y).take (G.d1 y s) → _
    by_cases e : y = x
    · subst e
      rw [up_at, List.take_append_of_le_length h.1]
      exact ⟨by simp; omega, h.2⟩
    · rw [up_ne _ _ _ _ e]; exact h
  dz := fun y s h => H.dz y s (by
    by_cases e : y = x ∧ s = t
    · rw [e.1, e.2]; exact hA
    · rw [← up2_ne G.A x t (some b) e]; exact h)
  ab := fun y hy => by
    have e : y ≠ x := fun e => by rw [e, hX] at hy; cases hy
    obtain ⟨a1, a2, a3⟩ := H.ab y hy
    exact ⟨a1, (up_ne _ _ _ _ e).trans a2, fun s => (up2_ne _ _ _ _ (fun h => e h.1)).trans (a3 s)⟩
  es := H.es
  sl := H.sl
  nd := H.nd

theorem Sm.add (H : Sm MA MW C G) {u t : Nat} (hA : AddTo G G' u t) : Sm MA MW (fun a b => C a b ∨ (a = u ∧ b = t)) G' := by
  rcases hA with ⟨h1, rfl⟩ | ⟨h1, val, rfl⟩
  · have hc := (H.es u t).1 h1
    refine H.congr (fun _ _ => Iff.rfl) (fun _ _ => Iff.rfl) (fun a b => ⟨.inl, fun h => ?_⟩)
    rcases h with h | ⟨rfl, rfl⟩
    · exact h
    · exact hc
  · refine ⟨H.mA, H.mW, H.acc, H.wo, H.sub, fun x s => ⟨(H.d0 x s).1, fun a h1 h2 => .inl ((H.d0 x s).2 a h1 h2)⟩, fun x s => ⟨(H.d1 x s).1, fun a h1 h2 => .inl ((H.d1 x s).2 a h1 h2)⟩, H.dz, H.ab, fun a b => ?_, fun a b => ?_, fun a => ?_⟩
    · show (G.Es a b || (a == u && b == t)) = true ↔ _
      rw [← H.es]
      simp
    · show b ∈ upn G.Sl u (G.Sl u ++ [t]) a ↔ _
      by_cases e : a = u
      · subst e
        rw [upn_at, List.mem_append, H.sl]
        simp
      · rw [upn_ne _ _ _ e, H.sl]
        simp [e]
    · show (upn G.Sl u (G.Sl u ++ [t]) a).Nodup
      by_cases e : a = u
      · subst e
        rw [upn_at]
        refine List.nodup_append.2 ⟨H.nd a, by simp, fun y hy z hz e => ?_⟩
        simp at hz
        rw [e, hz, H.sl, ← H.es, h1] at hy
        cases hy
      · rw [upn_ne _ _ _ e]; exact H.nd a

theorem Sm.setD0 (H : Sm MA MW C G) {x : ByteArray} {t ab : Nat} (hA : G.A x t = some ab) (hall : ∀ u, u ∈ G.Wl x → u ≠ t → C u t) : Sm MA MW C { G with d0 := up2 G.d0 x t (G.Wl x).length } :=
  ⟨H.mA, H.mW, H.acc, H.wo, H.sub, fun y s => by
    show up2 G.d0 x t (G.Wl x).length y s ≤ (G.Wl y).length ∧ ∀ u, u ∈ (G.Wl y).take (up2 G.d0 x t (G.Wl x).length y s) → _
    by_cases e : y = x ∧ s = t
    · rw [e.1, e.2, up2_at, List.take_of_length_le (Nat.le_refl _)]
      exact ⟨Nat.le_refl _, fun u h1 h2 => hall u h1 h2⟩
    · rw [up2_ne _ _ _ _ e]; exact H.d0 y s, H.d1, fun y s h => by
    have e : ¬ (y = x ∧ s = t) := fun e => by rw [e.1, e.2, hA] at h; cases h
    exact ⟨(up2_ne _ _ _ _ e).trans (H.dz y s h).1, (H.dz y s h).2⟩, H.ab, H.es, H.sl, H.nd⟩

theorem Sm.setD1 (H : Sm MA MW C G) {x : ByteArray} {t ab : Nat} (hA : G.A x t = some ab) (hall : ∀ u, u ∈ G.Al x → u ≠ t → C u t) : Sm MA MW C { G with d1 := up2 G.d1 x t (G.Al x).length } :=
  ⟨H.mA, H.mW, H.acc, H.wo, H.sub, H.d0, fun y s => by
    show up2 G.d1 x t (G.Al x).length y s ≤ (G.Al y).length ∧ ∀ u, u ∈ (G.Al y).take (up2 G.d1 x t (G.Al x).length y s) → _
    by_cases e : y = x ∧ s = t
    · rw [e.1, e.2, up2_at, List.take_of_length_le (Nat.le_refl _)]
      exact ⟨Nat.le_refl _, fun u h1 h2 => hall u h1 h2⟩
    · rw [up2_ne _ _ _ _ e]; exact H.d1 y s, fun y s h => by
    have e : ¬ (y = x ∧ s = t) := fun e => by rw [e.1, e.2, hA] at h; cases h
    exact ⟨(H.dz y s h).1, (up2_ne _ _ _ _ e).trans (H.dz y s h).2⟩, H.ab, H.es, H.sl, H.nd⟩

theorem Sm.pushW (H : Sm MA MW C G) {x : ByteArray} {t b0 : Nat} (hX : G.X x = some b0) (hA : MA x t) (c : Nat) (v : Value) :
    Sm MA (fun y s => MW y s ∨ (y = x ∧ s = t)) C { G with wo := up2 G.wo x t true, Wl := up G.Wl x (G.Wl x ++ [t]), vW := up G.vW x v, c := c } where
  mA := H.mA
  mW := fun y s => by
    show s ∈ up G.Wl x (G.Wl x ++ [t]) y ↔ _
    by_cases e : y = x
    · subst e
      rw [up_at, List.mem_append, H.mW]
      simp
    · rw [up_ne _ _ _ _ e, H.mW]
      simp [e]
  acc := H.acc
  wo := fun y s => by
    show up2 G.wo x t true y s = true ↔ _
    by_cases e : y = x ∧ s = t
    · rw [e.1, e.2, up2_at]; simp
    · rw [up2_ne _ _ _ _ e, H.wo]
      simp [e]
  sub := fun y s h => by
    rcases h with h | ⟨rfl, rfl⟩
    · exact H.sub y s h
    · exact hA
  d0 := fun y s => by
    have h := H.d0 y s
    show G.d0 y s ≤ (up G.Wl x (G.Wl x ++ [t]) y).length ∧ ∀ u, u ∈ (up G.Wl x (G.Wl x ++ [t]) y).take (G.d0 y s) → _
    by_cases e : y = x
    · subst e
      rw [up_at, List.take_append_of_le_length h.1]
      exact ⟨by simp; omega, h.2⟩
    · rw [up_ne _ _ _ _ e]; exact h
  d1 := H.d1
  dz := H.dz
  ab := fun y hy => by
    have e : y ≠ x := fun e => by rw [e, hX] at hy; cases hy
    obtain ⟨a1, a2, a3⟩ := H.ab y hy
    exact ⟨(up_ne _ _ _ _ e).trans a1, a2, a3⟩
  es := H.es
  sl := H.sl
  nd := H.nd
end

section
variable {iv : Nat → Nat} {wb : Nat → Bool} {it : Nat → ByteArray} {k : Nat}

theorem mAs_succ (x : ByteArray) (t : Nat) : (mAs iv it k x t ∨ (x = it k ∧ t = iv k)) ↔ mAs iv it (k + 1) x t := by
  constructor
  · rintro (⟨i, h1, h2, h3⟩ | ⟨rfl, rfl⟩)
    · exact ⟨i, by omega, h2, h3⟩
    · exact ⟨k, by omega, rfl, rfl⟩
  · rintro ⟨i, h1, h2, h3⟩
    by_cases e : i = k
    · subst e; exact .inr ⟨h2.symm, h3.symm⟩
    · exact .inl ⟨i, by omega, h2, h3⟩
theorem mWs_succ_w (hw : wb k = true) (x : ByteArray) (t : Nat) : (mWs iv wb it k x t ∨ (x = it k ∧ t = iv k)) ↔ mWs iv wb it (k + 1) x t := by
  constructor
  · rintro (⟨i, h1, h2, h3⟩ | ⟨rfl, rfl⟩)
    · exact ⟨i, by omega, h2, h3⟩
    · exact ⟨k, by omega, rfl, hw, rfl⟩
  · rintro ⟨i, h1, h2, h3, h4⟩
    by_cases e : i = k
    · subst e; exact .inr ⟨h2.symm, h4.symm⟩
    · exact .inl ⟨i, by omega, h2, h3, h4⟩
theorem mWs_succ_r (hw : wb k = false) (x : ByteArray) (t : Nat) : mWs iv wb it k x t ↔ mWs iv wb it (k + 1) x t := by
  constructor
  · rintro ⟨i, h1, h2, h3⟩
    exact ⟨i, by omega, h2, h3⟩
  · rintro ⟨i, h1, h2, h3, h4⟩
    by_cases e : i = k
    · subst e; rw [hw] at h3; cases h3
    · exact ⟨i, by omega, h2, h3, h4⟩

theorem conf_succ (a b : Nat) : conf iv wb it (k + 1) a b ↔ conf iv wb it k a b ∨ (b = iv k ∧ a ≠ iv k ∧ ∃ i, i < k ∧ it i = it k ∧ iv i = a ∧ (wb i = true ∨ wb k = true)) := by
  constructor
  · rintro ⟨i, j, h1, h2, h3, h4, h5, h6, h7⟩
    by_cases e : j = k
    · subst e
      exact .inr ⟨h4.symm, fun h => h5 (by rw [h, h4]), i, h1, h6, h3, h7⟩
    · exact .inl ⟨i, j, h1, by omega, h3, h4, h5, h6, h7⟩
  · rintro (⟨i, j, h1, h2, h3, h4, h5, h6, h7⟩ | ⟨rfl, h2, i, h3, h4, h5, h6⟩)
    · exact ⟨i, j, h1, by omega, h3, h4, h5, h6, h7⟩
    · exact ⟨i, k, h3, by omega, h5, rfl, h2, h4, h6⟩

/-- all edges into t from the list from d on have been drawn -/
def Cl (iv : Nat → Nat) (wb : Nat → Bool) (it : Nat → ByteArray) (k : Nat) (L : List Nat) (d p : Nat) (a b : Nat) : Prop := conf iv wb it k a b ∨ (b = iv k ∧ a ≠ iv k ∧ a ∈ (L.drop d).take p)

theorem Cl_zero (L : List Nat) (d a b : Nat) : conf iv wb it k a b ↔ Cl iv wb it k L d 0 a b := by simp [Cl]
theorem Cl_skip {L : List Nat} {d p u : Nat} (hu : L[d + p]? = some u) (he : u = iv k) (a b : Nat) : Cl iv wb it k L d p a b ↔ Cl iv wb it k L d (p + 1) a b := by
  unfold Cl
  rw [List.take_add_one, List.getElem?_drop, hu]
  simp only [Option.toList_some, List.mem_append, List.mem_singleton]
  constructor
  · rintro (h | ⟨h1, h2, h3⟩)
    · exact .inl h
    · exact .inr ⟨h1, h2, .inl h3⟩
  · rintro (h | ⟨h1, h2, h3 | h3⟩)
    · exact .inl h
    · exact .inr ⟨h1, h2, h3⟩
    · exact absurd (h3.trans he) h2
theorem Cl_add {L : List Nat} {d p u : Nat} (hu : L[d + p]? = some u) (he : u ≠ iv k) (a b : Nat) : (Cl iv wb it k L d p a b ∨ (a = u ∧ b = iv k)) ↔ Cl iv wb it k L d (p + 1) a b := by
  unfold Cl
  rw [List.take_add_one, List.getElem?_drop, hu]
  simp only [Option.toList_some, List.mem_append, List.mem_singleton]
  constructor
  · rintro ((h | ⟨h1, h2, h3⟩) | ⟨rfl, rfl⟩)
    · exact .inl h
    · exact .inr ⟨h1, h2, .inl h3⟩
    · exact .inr ⟨rfl, he, .inr rfl⟩
  · rintro (h | ⟨h1, h2, h3 | h3⟩)
    · exact .inl (.inl h)
    · exact .inl (.inr ⟨h1, h2, h3⟩)
    · exact .inr ⟨h3, h1⟩

theorem mem_split {L : List Nat} {d a : Nat} (h : a ∈ L) : a ∈ L.take d ∨ a ∈ L.drop d := by
  rw [← List.take_append_drop d L, List.mem_append] at h
  exact h

/-- after the loop: a list that holds those of the item that conflict -/
theorem Cl_end {L : List Nat} {d p : Nat} (hp : L.length ≤ d + p) (hd : ∀ u, u ∈ L.take d → u ≠ iv k → conf iv wb it k u (iv k)) (hL : ∀ a, a ≠ iv k → (a ∈ L ↔ ∃ i, i < k ∧ it i = it k ∧ iv i = a ∧ (wb i = true ∨ wb k = true))) (a b : Nat) :
    Cl iv wb it k L d p a b ↔ conf iv wb it (k + 1) a b := by
  rw [conf_succ]
  unfold Cl
  have hdrop : (L.drop d).take p = L.drop d := List.take_of_length_le (by simp; omega)
  rw [hdrop]
  constructor
  · rintro (h | ⟨rfl, h2, h3⟩)
    · exact .inl h
    · exact .inr ⟨rfl, h2, (hL a h2).1 (List.mem_of_mem_drop h3)⟩
  · rintro (h | ⟨rfl, h2, h3⟩)
    · exact .inl h
    · rcases mem_split (d := d) ((hL a h2).2 h3) with h | h
      · exact .inl (hd a h h2)
      · exact .inr ⟨rfl, h2, h⟩
end
end Go.Proofs.Qxb6600445a
