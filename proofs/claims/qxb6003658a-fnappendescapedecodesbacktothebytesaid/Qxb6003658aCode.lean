import Derived.Test.Qxb6003658aPre
namespace Go.Proofs.Qxb6003658a
set_option linter.unusedVariables false

/-- the reading side: looks at the second, the fifth and the sixth sign -/
def undig (z : Int) : Int := if z < 58 then z - 48 else z - 87
def unshort (z : Int) : Int := if z = 98 then 8 else if z = 102 then 12 else if z = 110 then 10 else if z = 114 then 13 else if z = 116 then 9 else z
def unesc (l : List Int) : Int := if l.getD 1 0 = 117 then 16 * undig (l.getD 4 0) + undig (l.getD 5 0) else unshort (l.getD 1 0)

theorem unesc_all : ∀ k : Fin 256, unesc (esc (k.val : Int)) = (k.val : Int) := by decide +kernel
theorem len_all : ∀ k : Fin 256, (esc (k.val : Int)).length = 2 ∧ ¬ (esc (k.val : Int)).getD 1 0 = 117 ∨ (esc (k.val : Int)).length = 6 ∧ (esc (k.val : Int)).getD 1 0 = 117 := by decide +kernel

theorem unesc_esc (c : Int) (h0 : 0 ≤ c) (h1 : c ≤ 255) : unesc (esc c) = c := by
  have := unesc_all ⟨c.toNat, by omega⟩
  have e : ((c.toNat : Nat) : Int) = c := by omega
  simpa only [e] using this
theorem len_esc (c : Int) (h0 : 0 ≤ c) (h1 : c ≤ 255) : (esc c).length = 2 ∧ ¬ (esc c).getD 1 0 = 117 ∨ (esc c).length = 6 ∧ (esc c).getD 1 0 = 117 := by
  have := len_all ⟨c.toNat, by omega⟩
  have e : ((c.toNat : Nat) : Int) = c := by omega
  simpa only [e] using this

theorem getD_take (l : List Int) (n k : Nat) (h : k < n) : (l.take n).getD k 0 = l.getD k 0 := by
  simp [List.getD_eq_getElem?_getD, h]

/-- an escape that begins another is that other -/
theorem pre_eq (c1 c2 : Int) (h0 : 0 ≤ c1) (h1 : c1 ≤ 255) (g0 : 0 ≤ c2) (g1 : c2 ≤ 255) (h : isPre (esc c1) (esc c2) = true) : c1 = c2 := by
  unfold isPre at h
  rw [beq_iff_eq] at h
  have u1 := unesc_esc c1 h0 h1
  have u2 := unesc_esc c2 g0 g1
  have l1 := len_esc c1 h0 h1
  rw [← u1, ← u2, ← h]
  unfold unesc
  have e1 : (esc c2).getD 1 0 = (esc c1).getD 1 0 := by rw [← h]; exact (getD_take _ _ _ (by omega)).symm
  have e1' : ((esc c2).take (esc c1).length).getD 1 0 = (esc c2).getD 1 0 := getD_take _ _ _ (by omega)
  rw [e1']
  split
  · have : (esc c1).length = 6 := by rcases l1 with ⟨_, b⟩ | ⟨a, _⟩; · rw [← e1] at b; contradiction
                                     · exact a
    rw [getD_take _ _ _ (by omega), getD_take _ _ _ (by omega)]
  · rfl

theorem pre_self (c : Int) : isPre (esc c) (esc c) = true := by simp [isPre]
theorem pre_ne (c1 c2 : Int) (h0 : 0 ≤ c1) (h1 : c1 ≤ 255) (g0 : 0 ≤ c2) (g1 : c2 ≤ 255) (h : ¬ c1 = c2) : isPre (esc c1) (esc c2) = false := by
  cases e : isPre (esc c1) (esc c2)
  · rfl
  · exact absurd (pre_eq c1 c2 h0 h1 g0 g1 e) h
theorem len_ge (c : Int) (h0 : 0 ≤ c) (h1 : c ≤ 255) : 2 ≤ (esc c).length ∧ (esc c).length ≤ 6 := by
  rcases len_esc c h0 h1 with ⟨h, _⟩ | ⟨h, _⟩ <;> omega
end Go.Proofs.Qxb6003658a
