import Derived.Test.Qxb6003658aHex
namespace Go.Proofs.Qxb6003658a
open Go.RowKit
set_option linter.unusedVariables false

/-- the number that the first k digits spell -/
def val (l : List Int) : Nat → Int
  | 0 => 0
  | k + 1 => val l k * 16 + hexv (l.getD k 0)
/-- are the first k signs digits? -/
def okTo (l : List Int) : Nat → Bool
  | 0 => true
  | k + 1 => okTo l k && decide (0 ≤ hexv (l.getD k 0))
def hexOut (l : List Int) : Int × Bool := if okTo l 4 then (val l 4, true) else (0, false)

theorem okTo_mono (l : List Int) (k j : Nat) (h : okTo l (k + j) = true) : okTo l k = true := by
  induction j with
  | zero => exact h
  | succ j ih => exact ih (by simp [okTo] at h; exact h.1)
theorem val_bd (l : List Int) (k : Nat) (h : okTo l k = true) : 0 ≤ val l k ∧ val l k < 16 ^ k := by
  induction k with
  | zero => simp [val]
  | succ k ih =>
    simp [okTo] at h
    have := ih h.1
    have b := hexv_lt (l.getD k 0)
    have e : (16 : Int) ^ (k + 1) = 16 ^ k * 16 := by rw [Int.pow_succ]
    simp only [val, e]
    have h2 := h.2
    simp only [List.getD_eq_getElem?_getD] at b ⊢
    omega
theorem out_bad (l : List Int) (k : Nat) (hk : k < 4) (h : hexv (l.getD k 0) < 0) : hexOut l = (0, false) := by
  unfold hexOut
  rw [if_neg]
  intro e
  have : okTo l (k + 1) = true := okTo_mono l (k + 1) (3 - k) (by rw [show k + 1 + (3 - k) = 4 by omega]; exact e)
  simp only [okTo, Bool.and_eq_true, decide_eq_true_eq] at this
  omega

theorem ret_ib {k : IntKind} {a : Int} {b : Bool} {p : Int × Bool} (h : p = (a, b)) : Ending.returned (.tuple #[.int k a, .bool b]) = .returned (.tuple #[.int k p.1, .bool p.2]) := by rw [h]

theorem hexM_short (a : Option Addr) (n c : Nat) (w : World) (hn : n < 4) : Calls Try.prog 8 #[.slice a n c] w fun e w' => e = .returned (.tuple #[.int .i32 0, .bool false]) ∧ w = w' := by
  go_enter Try.func8, Try.ntmps8
  go_wp2
  go_ret2
  exact ⟨rfl, rfl⟩

set_option maxHeartbeats 800000 in
theorem hexM_long (b off n c : Nat) (l : List Int) (w : World) (hn : 4 ≤ n) (hc : ∀ j, j < 4 → w.cell? ⟨b, off + j, none⟩ = some (.int .u8 (l.getD j 0))) (hb : ∀ j, 0 ≤ l.getD j 0 ∧ l.getD j 0 ≤ 255) :
    Calls Try.prog 8 #[.slice (some ⟨b, off, none⟩) n c] w fun e w' => e = .returned (.tuple #[.int .i32 (hexOut l).1, .bool (hexOut l).2]) ∧ w = w' := by
  have HC : Hid (∀ j, j < 4 → w.cell? ⟨b, off + j, none⟩ = some (.int .u8 (l.getD j 0))) := hc
  have HB : Hid (∀ j, 0 ≤ l.getD j 0 ∧ l.getD j 0 ≤ 255) := hb
  clear hc hb
  go_enter Try.func8, Try.ntmps8
  go_wp2
  go_loop [4, 5] (fun v i => ∃ k : Nat, k ≤ 4 ∧ i = .int .i64 k ∧ v = .int .i32 (val l k) ∧ okTo l k = true) (fun _ i => 4 - (intOf i).toNat)
  case atStart => exact ⟨0, by omega, rfl, rfl, rfl⟩
  case round =>
    obtain ⟨k, hk, rfl, rfl, hok⟩ := hrel
    have vb := val_bd l k hok
    have HK : Hid (okTo l k = true) := hok
    clear hok
    by_cases hlt : k < 4
    · have p4 : (16 : Int) ^ k ≤ 4096 := by
        have : k = 0 ∨ k = 1 ∨ k = 2 ∨ k = 3 := by omega
        rcases this with rfl | rfl | rfl | rfl <;> decide
      have vb1 := vb.1
      have vb2 : val l k < 4096 := by omega
      clear vb p4
      have i1 : (k : Int) < (n : Int) := by omega
      have g := HC.out k hlt
      have bb := HB.out k
      have HV : Hid (val l (k + 1) = val l k * 16 + hexv (l.getD k 0)) := rfl
      have HO : Hid (okTo l (k + 1) = (okTo l k && decide (0 ≤ hexv (l.getD k 0)))) := rfl
      have HX : Hid (hexv (l.getD k 0) < 0 → hexOut l = (0, false)) := out_bad l k hlt
      have hv := hexv_lt (l.getD k 0)
      generalize l.getD k 0 = z at *
      have K16 := fun W => hdv_any z W bb.1 bb.2
      generalize hexv z = d at *
      have HK16 : Hid _ := K16
      clear K16
      by_cases hd : d < 0
      · have HR : Hid (hexOut l = (0, false)) := HX.out hd
        clear HX
        go_wp2_with (go_at_call 16; refine (HK16.out _).mono ?_; rintro e w' ⟨rfl, rfl⟩)
        go_ret2
        exact ⟨ret_ib HR.out, rfl⟩
      · have HR : Hid (okTo l (k + 1) = true) := by show okTo l (k + 1) = true; rw [HO.out, HK.out]; simp; omega
        clear HX
        go_wp2_with (go_at_call 16; refine (HK16.out _).mono ?_; rintro e w' ⟨rfl, rfl⟩)
        go_round
        case rel => exact ⟨k + 1, by omega, by go_num, by rw [HV.out], HR.out⟩
        case measure => simp [intOf]; omega
    · have e4 : k = 4 := by omega
      have HR : Hid (hexOut l = (val l k, true)) := by show hexOut l = (val l k, true); unfold hexOut; rw [if_pos (by rw [← e4]; exact HK.out), e4]
      clear e4
      go_wp2
      go_ret2
      exact ⟨ret_ib HR.out, rfl⟩
end Go.Proofs.Qxb6003658a
