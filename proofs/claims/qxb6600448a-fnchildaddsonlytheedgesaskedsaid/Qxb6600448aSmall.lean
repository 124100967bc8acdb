import Derived.Test.Qxb6600448aTree
namespace Go.Proofs.Qxb6600448a
open Go.RowKit
set_option linter.unusedVariables false

theorem ret_bool {a b : Bool} (h : a = b) : Ending.returned (.bool a) = .returned (.bool b) := by rw [h]
theorem ret_int {k : IntKind} {a b : Int} (h : a = b) : Ending.returned (.int k a) = .returned (.int k b) := by rw [h]

/-- a step -/
structure St where
  par : Int
  kind : Int
  text : ByteArray

def kd (k : Int) : Int := if k = 1 ∨ k = 2 then k else 0
theorem kd_cases (k : Int) : kd k = 0 ∨ kd k = 1 ∨ kd k = 2 := by unfold kd; split <;> omega

theorem kd_any (k : Int) (w : World) : Calls Try.prog 12 #[.int .i64 k] w fun e w' => e = .returned (.int .i64 (kd k)) ∧ w = w' := by
  unfold kd
  by_cases h1 : k = 1
  · subst h1
    go_enter Try.func12, Try.ntmps12
    go_wp2
    go_ret
    exact ⟨rfl, rfl⟩
  by_cases h2 : k = 2
  · subst h2
    go_enter Try.func12, Try.ntmps12
    go_wp2
    go_ret
    exact ⟨rfl, rfl⟩
  rw [if_neg (by omega)]
  have g1 : (k == 1) = false := beq_eq_false_iff_ne.2 h1
  have g2 : (k == 2) = false := beq_eq_false_iff_ne.2 h2
  clear h1 h2
  go_enter Try.func12, Try.ntmps12
  go_wp2
  go_ret
  exact ⟨rfl, rfl⟩

theorem zzchild (b : Nat) (κ : Int) (s : ByteArray) (w : World) (base : Nat) (N : Nat → Prop) (ch : Ch) (cnt : Nat → Nat) (hT : Tree w base N ch cnt) (hN : N b) (hbase : base ≤ w.heap.size) (hs : s.size ≤ maxLen) (hκ : κ = 0 ∨ κ = 1 ∨ κ = 2) (hc : cnt b < maxLen) :
    Calls Try.prog 24 #[.pointer (some ⟨b, 0, none⟩), .int .i64 κ, .string s] w fun e w' => ∃ r, e = .returned (.pointer (some ⟨r, 0, none⟩)) ∧ Below base w w' ∧ keepT w w' ∧
      ((ch b κ (nk κ s.data.toList) = some r ∧ Tree w' base N ch cnt) ∨
       (ch b κ (nk κ s.data.toList) = none ∧ w.heap.size ≤ r ∧ Tree w' base (fun x => N x ∨ x = r) (addC ch b κ (nk κ s.data.toList) r) (addN cnt b κ r))) := by
  have K := hid (child_any b κ s w base N ch cnt hT hN hbase hs hκ hc)
  clear hT hN hs hc
  go_enter Try.func24, Try.ntmps24
  go_wp2_with (go_at_call 30; refine (K.out).mono ?_; rintro e w' ⟨r, rfl, h⟩)
  go_ret
  exact ⟨r, rfl, h⟩

/-- the steps' key: kind and, of a literal, its text -/
def keyS (a : St) : Int × List UInt8 := (kd a.kind, nk (kd a.kind) a.text.data.toList)
def sameS (a b : St) : Bool := decide (keyS a = keyS b)

def aggS (a : St) : Value := .agg #[.int .i64 a.par, .int .i64 a.kind, .string a.text]

theorem same_any (a b : St) (w : World) : Calls Try.prog 25 #[aggS a, aggS b] w fun e w' => e = .returned (.bool (sameS a b)) ∧ Below w.heap.size w w' := by
  obtain ⟨pa, ka, ta⟩ := a
  obtain ⟨pb, kb, tb⟩ := b
  have Ka := hid (kd_any ka)
  have Kb := hid (kd_any kb)
  have hsame := hid (show sameS ⟨pa, ka, ta⟩ ⟨pb, kb, tb⟩ = decide ((kd ka, nk (kd ka) ta.data.toList) = (kd kb, nk (kd kb) tb.data.toList)) from rfl)
  have hk := kd_cases ka
  unfold aggS
  generalize kd ka = x at *
  generalize kd kb = y at *
  by_cases hxy : x = y
  · subst hxy
    by_cases hx0 : x = 0
    · subst hx0
      have HR := hid (show sameS ⟨pa, ka, ta⟩ ⟨pb, kb, tb⟩ = (ta.toList == tb.toList) by
        rw [hsame.out, ByteArray.toList_eq, ByteArray.toList_eq]
        by_cases e : ta.data = tb.data
        · simp [nk, e]
        · simp [nk, e])
      clear hsame hk
      go_enter Try.func25, Try.ntmps25
      go_wp2_with fail
      refine (Ka.out _).mono ?_
      rintro e w' ⟨rfl, rfl⟩
      go_wp2_with fail
      refine (Kb.out _).mono ?_
      rintro e w' ⟨rfl, rfl⟩
      go_wp2
      go_ret
      exact ⟨ret_bool HR.out.symm, ((Below.refl _ _).alloc (Nat.le_refl _) _).alloc (by simp) _⟩
    · have q0 : (x != 0) = true := by simpa using hx0
      have HR := hid (show sameS ⟨pa, ka, ta⟩ ⟨pb, kb, tb⟩ = true by
        rw [hsame.out]
        simp [nk, hx0])
      clear hsame hk hx0
      go_enter Try.func25, Try.ntmps25
      go_wp2_with fail
      refine (Ka.out _).mono ?_
      rintro e w' ⟨rfl, rfl⟩
      go_wp2_with fail
      refine (Kb.out _).mono ?_
      rintro e w' ⟨rfl, rfl⟩
      go_wp2
      go_ret
      exact ⟨ret_bool HR.out.symm, ((Below.refl _ _).alloc (Nat.le_refl _) _).alloc (by simp) _⟩
  · have q0 : (x != y) = true := by simpa using hxy
    have HR := hid (show sameS ⟨pa, ka, ta⟩ ⟨pb, kb, tb⟩ = false by
      rw [hsame.out]
      simp [hxy])
    clear hsame hk hxy
    go_enter Try.func25, Try.ntmps25
    go_wp2_with fail
    refine (Ka.out _).mono ?_
    rintro e w' ⟨rfl, rfl⟩
    go_wp2_with fail
    refine (Kb.out _).mono ?_
    rintro e w' ⟨rfl, rfl⟩
    go_wp2
    go_ret
    exact ⟨ret_bool HR.out.symm, ((Below.refl _ _).alloc (Nat.le_refl _) _).alloc (by simp) _⟩
end Go.Proofs.Qxb6600448a
