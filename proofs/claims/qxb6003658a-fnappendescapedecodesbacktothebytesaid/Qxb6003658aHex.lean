import Derived.Test.Qxb6003658aOwn
namespace Go.Proofs.Qxb6003658a
open Go.RowKit
set_option linter.unusedVariables false

theorem ret_int {k : IntKind} {a b : Int} (h : a = b) : Ending.returned (.int k a) = .returned (.int k b) := by rw [h]

/-- the value of a hexadecimal digit, -1 where there is none -/
def hexv (c : Int) : Int := if 48 ≤ c ∧ c ≤ 57 then c - 48 else if 97 ≤ c ∧ c ≤ 102 then c - 87 else if 65 ≤ c ∧ c ≤ 70 then c - 55 else -1

def uppers : List Int := [48, 49, 50, 51, 52, 53, 54, 55, 56, 57, 65, 66, 67, 68, 69, 70]
def hit (c : Int) (k : Nat) : Bool := digits.getD k 0 == c || uppers.getD k 0 == c

theorem hit_all : ∀ c : Fin 256, ∀ k : Fin 16, hit (c.val : Int) k.val = true → hexv (c.val : Int) = (k.val : Int) := by decide +kernel
theorem miss_all : ∀ c : Fin 256, (∀ k : Fin 16, hit (c.val : Int) k.val = false) → hexv (c.val : Int) = -1 := by decide +kernel

theorem hit_is (c : Int) (k : Nat) (h0 : 0 ≤ c) (h1 : c ≤ 255) (hk : k < 16) (h : hit c k = true) : hexv c = (k : Int) := by
  have := hit_all ⟨c.toNat, by omega⟩ ⟨k, hk⟩
  have e : ((c.toNat : Nat) : Int) = c := by omega
  simp only [e] at this
  exact this h
theorem miss_is (c : Int) (h0 : 0 ≤ c) (h1 : c ≤ 255) (h : ∀ k, k < 16 → hit c k = false) : hexv c = -1 := by
  have := miss_all ⟨c.toNat, by omega⟩
  have e : ((c.toNat : Nat) : Int) = c := by omega
  simp only [e] at this
  exact this fun k => h k.val k.isLt
theorem hexv_lt (c : Int) : -1 ≤ hexv c ∧ hexv c < 16 := by
  unfold hexv
  repeat (split; omega)
  omega

theorem up_all : ∀ k : Fin 16, ((((⟨#[48, 49, 50, 51, 52, 53, 54, 55, 56, 57, 65, 66, 67, 68, 69, 70]⟩ : ByteArray)[k.val]'k.isLt).toNat : Nat) : Int) = uppers.getD k.val 0 := by decide +kernel
theorem up_at (k : Nat) (h : k < (⟨#[48, 49, 50, 51, 52, 53, 54, 55, 56, 57, 65, 66, 67, 68, 69, 70]⟩ : ByteArray).size) : ((((⟨#[48, 49, 50, 51, 52, 53, 54, 55, 56, 57, 65, 66, 67, 68, 69, 70]⟩ : ByteArray)[k]'h).toNat : Nat) : Int) = uppers.getD k 0 := up_all ⟨k, h⟩

set_option maxHeartbeats 400000 in
theorem hdv_any (c : Int) (w : World) (h0 : 0 ≤ c) (h1 : c ≤ 255) : Calls Try.prog 16 #[.int .u8 c] w fun e w' => e = .returned (.int .i64 (hexv c)) ∧ w = w' := by
  go_enter Try.func16, Try.ntmps16
  go_wp2
  go_loop [3] (fun i => ∃ k : Nat, k ≤ 16 ∧ i = .int .i64 k ∧ ∀ j, j < k → hit c j = false) (fun i => 16 - (intOf i).toNat)
  case atStart => exact ⟨0, by omega, rfl, fun j hj => by omega⟩
  case round =>
    obtain ⟨k, hk, rfl, hm0⟩ := hrel
    have HM : Hid (∀ j, j < k → hit c j = false) := hm0
    clear hm0
    by_cases hlt : k < 16
    · have i1 : (k : Int) < 16 := by omega
      have d1 := dig_at k hlt
      have d2 := up_at k hlt
      have HH : Hid (hit c k = (digits.getD k 0 == c || uppers.getD k 0 == c)) := rfl
      have HI : Hid (hit c k = true → hexv c = (k : Int)) := hit_is c k h0 h1 hlt
      have HN : Hid (hit c k = false → ∀ j, j < k + 1 → hit c j = false) := fun e j hj => by
        by_cases h : j < k
        · exact HM.out j h
        · have : j = k := by omega
          subst this; exact e
      generalize digits.getD k 0 = z1 at *
      generalize uppers.getD k 0 = z2 at *
      by_cases e1 : z1 = c
      · have q1 : (z1 == c) = true := by simpa using e1
        have HR : Hid (hexv c = (k : Int)) := HI.out (by rw [HH.out, q1]; rfl)
        clear e1
        go_wp2
        go_ret
        exact ⟨ret_int HR.out.symm, rfl⟩
      · have q1 : (z1 == c) = false := by simpa using e1
        clear e1
        by_cases e2 : z2 = c
        · have q2 : (z2 == c) = true := by simpa using e2
          have HR : Hid (hexv c = (k : Int)) := HI.out (by rw [HH.out, q1, q2]; rfl)
          clear e2
          go_wp2
          go_ret
          exact ⟨ret_int HR.out.symm, rfl⟩
        · have q2 : (z2 == c) = false := by simpa using e2
          have HR : Hid (∀ j, j < k + 1 → hit c j = false) := HN.out (by rw [HH.out, q1, q2]; rfl)
          clear e2
          go_wp2
          go_round
          case rel => exact ⟨k + 1, by omega, by go_num, HR.out⟩
          case measure => simp [intOf]; omega
    · have HF : Hid (hexv c = -1) := miss_is c h0 h1 (fun j hj => HM.out j (by omega))
      go_wp2
      go_ret
      exact ⟨ret_int HF.out.symm, rfl⟩
end Go.Proofs.Qxb6003658a
