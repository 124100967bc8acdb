import Derived.Test.Qxb6601038aRows
import Derived.WalkKit
import Derived.ProofKit
import Derived.WalkSpells
import Derived.WalkLawsBesides
import Derived.Deep.AppendLies
import Derived.Deep.RegionWith
namespace Go.Proofs.Qxb6601038a
open Go.RowKit
set_option linter.unusedVariables false

theorem ret_bool {a b : Bool} (h : a = b) : Ending.returned (.bool a) = .returned (.bool b) := by rw [h]

def isDig (d : Int) : Bool := decide (48 ≤ d ∧ d ≤ 57)

theorem ad_empty (w : World) : Calls Try.prog 6 #[.string ⟨#[]⟩] w fun e w' => e = .returned (.bool false) ∧ w = w' := by
  go_enter Try.func6, Try.ntmps6
  go_wp2
  go_ret
  exact ⟨rfl, rfl⟩

set_option maxHeartbeats 400000 in
/-- a text of one byte -/
theorem ad_inner (s : ByteArray) (d : Int) (w : World) (hs : s.size = 1) (hd : ∀ h : 0 < s.size, ((s[0]'h).toNat : Int) = d) :
    Calls Try.prog 9 #[.string s] w fun e w' => e = .returned (.bool (isDig d)) ∧ w = w' := by
  have h0 : 0 < s.size := by omega
  have hd' := hd h0
  have HD : Hid (((s[0]'h0).toNat : Int) = d) := hd'
  have hne : s.toList.isEmpty = false := by
    have : s.toList.length = 1 := by rw [ByteArray.toList_eq, Array.length_toList]; exact hs
    cases h : s.toList with
    | nil => rw [h] at this; simp at this
    | cons a b => rfl
  clear hd
  go_enter Try.func9, Try.ntmps9
  go_wp2
  go_loop [3] (fun i => ∃ k : Nat, k ≤ 1 ∧ i = .int .i64 k ∧ (k = 1 → 48 ≤ d ∧ d ≤ 57)) (fun i => 1 - (intOf i).toNat)
  case atStart => exact ⟨0, by omega, rfl, fun h => by omega⟩
  case round =>
    obtain ⟨k, hk, rfl, hm⟩ := hrel
    have HM : Hid (k = 1 → 48 ≤ d ∧ d ≤ 57) := hm
    clear hm
    by_cases hlt : k < 1
    · have hk0 : k = 0 := by omega
      subst hk0
      by_cases ha : 48 ≤ d
      · by_cases hb : d ≤ 57
        · go_wp2
          go_round
          case rel => exact ⟨1, by omega, by go_num, fun _ => ⟨ha, hb⟩⟩
          case measure => simp [intOf]
        · have HF : Hid (isDig d = false) := by show isDig d = false; simp [isDig]; omega
          go_wp2
          go_ret
          exact ⟨ret_bool HF.out.symm, rfl⟩
      · have HF : Hid (isDig d = false) := by show isDig d = false; simp [isDig]; omega
        go_wp2
        go_ret
        exact ⟨ret_bool HF.out.symm, rfl⟩
    · have HF : Hid (isDig d = true) := by
        have := HM.out (by omega)
        show isDig d = true
        simp [isDig]; omega
      go_wp2
      go_ret
      exact ⟨ret_bool HF.out.symm, rfl⟩

theorem ad_one (s : ByteArray) (d : Int) (w : World) (hs : s.size = 1) (hd : ∀ h : 0 < s.size, ((s[0]'h).toNat : Int) = d) :
    Calls Try.prog 6 #[.string s] w fun e w' => e = .returned (.bool (isDig d)) ∧ w = w' := by
  have K : Hid (Calls Try.prog 9 #[.string s] w fun e w' => e = .returned (.bool (isDig d)) ∧ w = w') := ad_inner s d w hs hd
  clear hs hd
  go_enter Try.func6, Try.ntmps6
  go_wp2_with (go_at_call 9; refine (K.out).mono ?_; rintro e w' ⟨rfl, rfl⟩)
  go_ret
  exact ⟨rfl, rfl⟩

theorem conv_one (c : Int) (w : World) : (convert 23 9 (.slice (some ⟨w.heap.size, 0, none⟩) 1 1)).run Try.prog (w.alloc (.cells #[.int .u8 c] 5)) = .ok (.string (ByteArray.empty.push (UInt8.ofNat c.toNat))) (w.alloc (.cells #[.int .u8 c] 5)) := by
  rw [run_convert_bytes_string _ 23 9 5 _ _ _ Try.underlying23 Try.underlying5 Try.underlying9]
  exact run_bytesToString (P := Try.prog) _ ⟨w.heap.size, 0, none⟩ 1 1 [c] (run_loadCells_list (P := Try.prog) (w.alloc (.cells #[.int .u8 c] 5)) ⟨w.heap.size, 0, none⟩ [.int .u8 c] (World.news_of_block (heap_alloc_new w _)))

theorem push_at (c : Int) (h0 : 0 ≤ c) (h1 : c ≤ 255) : ∀ h : 0 < (ByteArray.empty.push (UInt8.ofNat c.toNat)).size, (((ByteArray.empty.push (UInt8.ofNat c.toNat))[0]'h).toNat : Int) = c := by
  intro h
  show ((UInt8.ofNat c.toNat).toNat : Int) = c
  rw [UInt8.toNat_ofNat']
  omega

set_option maxHeartbeats 400000 in
theorem walk0 (c : Int) (w : World) (h0 : 0 ≤ c) (h1 : c ≤ 255) :
    Calls Try.prog 3 #[.int .u8 c] w fun e w' => e = .returned (.bool true) ∧ Grown w w' := by
  have hcv := conv_one c w
  have KA : Hid (∀ W, Calls Try.prog 6 #[.string (ByteArray.empty.push (UInt8.ofNat c.toNat))] W fun e w' => e = .returned (.bool (isDig c)) ∧ W = w') := fun W => ad_one _ c W rfl (push_at c h0 h1)
  generalize ByteArray.empty.push (UInt8.ofNat c.toNat) = s at *
  by_cases hd : 48 ≤ c ∧ c ≤ 57
  · have ht : isDig c = true := by simpa [isDig] using hd
    rw [ht] at KA
    clear ht
    rcases (show c = 48 ∨ c = 49 ∨ c = 50 ∨ c = 51 ∨ c = 52 ∨ c = 53 ∨ c = 54 ∨ c = 55 ∨ c = 56 ∨ c = 57 by omega) with rfl | rfl | rfl | rfl | rfl | rfl | rfl | rfl | rfl | rfl
    all_goals
      clear hd h0 h1
      go_enter Try.func3, Try.ntmps3
      go_wp2_with (first | (go_at_call_of 6 (Value.string ⟨#[]⟩); refine (ad_empty _).mono ?_; rintro e w' ⟨rfl, rfl⟩) | (go_at_call 6; refine (KA.out _).mono ?_; rintro e w' ⟨rfl, rfl⟩))
      go_ret
      exact ⟨rfl, by repeat (first | exact Grown.refl _ | apply Grown.drew | apply Grown.alloc)⟩
  · have ht : isDig c = false := by simp [isDig]; omega
    rw [ht] at KA
    clear ht
    have f : ∀ k : Int, 48 ≤ k → k ≤ 57 → (c == k) = false := fun k a b => beq_eq_false_iff_ne.2 (by omega)
    have f0 := f 48 (by omega) (by omega)
    have f1 := f 49 (by omega) (by omega)
    have f2 := f 50 (by omega) (by omega)
    have f3 := f 51 (by omega) (by omega)
    have f4 := f 52 (by omega) (by omega)
    have f5 := f 53 (by omega) (by omega)
    have f6 := f 54 (by omega) (by omega)
    have f7 := f 55 (by omega) (by omega)
    have f8 := f 56 (by omega) (by omega)
    have f9 := f 57 (by omega) (by omega)
    clear f hd
    go_enter Try.func3, Try.ntmps3
    go_wp2_with (first | (go_at_call_of 6 (Value.string ⟨#[]⟩); refine (ad_empty _).mono ?_; rintro e w' ⟨rfl, rfl⟩) | (go_at_call 6; refine (KA.out _).mono ?_; rintro e w' ⟨rfl, rfl⟩))
    go_ret
    exact ⟨rfl, by repeat (first | exact Grown.refl _ | apply Grown.drew | apply Grown.alloc)⟩
end Go.Proofs.Qxb6601038a
