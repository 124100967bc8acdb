import Derived.Test.Qxb6003658aClone
import Derived.Lib.AppendStr
import Derived.Deep.AppendLies
import Derived.Deep.RegionLaw
namespace Go.Proofs.Qxb6003658a
open Go.RowKit
set_option linter.unusedVariables false

def digits : List Int := [48, 49, 50, 51, 52, 53, 54, 55, 56, 57, 97, 98, 99, 100, 101, 102]

/-- the escape of a byte -/
def esc (c : Int) : List Int :=
  if c = 34 ∨ c = 92 then [92, c] else if c = 8 then [92, 98] else if c = 12 then [92, 102] else if c = 10 then [92, 110] else if c = 13 then [92, 114] else if c = 9 then [92, 116]
  else [92, 117, 48, 48, digits.getD (c / 16).toNat 0, digits.getD (c % 16).toNat 0]

set_option maxHeartbeats 400000 in
theorem esc_two (base : Nat) (v : Value) (n : Nat) (xs : List Value) (c : Int) (w : World) (hown : w.ownsRow base 5 1 v n xs) (hn : n ≤ 1048576) (hb : base ≤ w.heap.size) (hc : c = 34 ∨ c = 92) :
    Calls Try.prog 18 #[v, .int .u8 c] w fun e w' => ∃ v', e = .returned v' ∧ w'.ownsRow base 5 1 v' (n + 2) (xs ++ cellsOf [92, c]) ∧ w.grownBy w' v.ownBlock := by
  obtain ⟨i0, hi, hz0, hz1, hz2⟩ := info_parts info5
  rcases hc with rfl | rfl
  all_goals
    go_enter Try.func18, Try.ntmps18
    go_wp2_with (at_builtin; refine wpList_append_own _ rfl _ _ 22 rfl base 5 i0 (.int .u8 0) 1 1 Try.underlying22 hi hz0 hz1 hz2 rfl (by decide) v n xs rfl (hown.alloc _) ⟨w.heap.size, 0, none⟩ 2 2 (cellsOf [92, _]) rfl rfl (World.news_of_block (heap_alloc_new w _)) (ints_oneCell _ _) (by unfold maxLen; omega) (by omega) (by simp; omega) ?_; intro v' w1 hown1 hgrow1 _)
    go_ret
    exact ⟨v', rfl, hown1, (World.grownBy_alloc w _ _).trans hgrow1⟩

set_option maxHeartbeats 400000 in
theorem esc_str (base : Nat) (v : Value) (n : Nat) (xs : List Value) (c d : Int) (w : World) (hown : w.ownsRow base 5 1 v n xs) (hn : n ≤ 1048576) (hb : base ≤ w.heap.size)
    (hc : (c = 8 ∧ d = 98) ∨ (c = 12 ∧ d = 102) ∨ (c = 10 ∧ d = 110) ∨ (c = 13 ∧ d = 114) ∨ (c = 9 ∧ d = 116)) :
    Calls Try.prog 18 #[v, .int .u8 c] w fun e w' => ∃ v', e = .returned v' ∧ w'.ownsRow base 5 1 v' (n + 2) (xs ++ cellsOf [92, d]) ∧ w.grownBy w' v.ownBlock := by
  obtain ⟨i0, hi, hz0, hz1, hz2⟩ := info_parts info5
  rcases hc with ⟨rfl, rfl⟩ | ⟨rfl, rfl⟩ | ⟨rfl, rfl⟩ | ⟨rfl, rfl⟩ | ⟨rfl, rfl⟩
  all_goals
    go_enter Try.func18, Try.ntmps18
    go_wp2_with (at_builtin; refine Lib.wpList_append_own_string _ rfl _ _ 22 9 rfl base 5 i0 Try.underlying22 Try.underlying9 hi hz0 hz1 hz2 v n xs rfl hown _ rfl (by simp only [ByteArray.size]; unfold maxLen; simp; omega) (by simp only [ByteArray.size]; simp; omega) hb ?_; intro v' w1 hown1 hgrow1 _)
    go_ret
    exact ⟨v', rfl, hown1, hgrow1⟩

theorem and15_all : ∀ k : Fin 256, bits BinOp.and IntKind.u8 (k.val : Int) 15 = (k.val : Int) % 16 := by decide +kernel
theorem and15 (c : Int) (h0 : 0 ≤ c) (h255 : c ≤ 255) : bits BinOp.and IntKind.u8 c 15 = c % 16 := by
  have := and15_all ⟨c.toNat, by omega⟩
  have e : ((c.toNat : Nat) : Int) = c := by omega
  simp only [e] at this
  exact this

theorem dig_all : ∀ k : Fin 16, ((((⟨#[48, 49, 50, 51, 52, 53, 54, 55, 56, 57, 97, 98, 99, 100, 101, 102]⟩ : ByteArray)[k.val]'k.isLt).toNat : Nat) : Int) = digits.getD k.val 0 := by decide +kernel
theorem dig_at (k : Nat) (h : k < (⟨#[48, 49, 50, 51, 52, 53, 54, 55, 56, 57, 97, 98, 99, 100, 101, 102]⟩ : ByteArray).size) : ((((⟨#[48, 49, 50, 51, 52, 53, 54, 55, 56, 57, 97, 98, 99, 100, 101, 102]⟩ : ByteArray)[k]'h).toNat : Nat) : Int) = digits.getD k 0 := dig_all ⟨k, h⟩

set_option maxHeartbeats 400000 in
theorem esc_six (base : Nat) (v : Value) (n : Nat) (xs : List Value) (c : Int) (w : World) (hown : w.ownsRow base 5 1 v n xs) (hn : n ≤ 1048576) (hb : base ≤ w.heap.size) (h0 : 0 ≤ c) (h255 : c ≤ 255)
    (c1 : (c == 34) = false) (c2 : (c == 92) = false) (c3 : (c == 8) = false) (c4 : (c == 12) = false) (c5 : (c == 10) = false) (c6 : (c == 13) = false) (c7 : (c == 9) = false) :
    Calls Try.prog 18 #[v, .int .u8 c] w fun e w' => ∃ v', e = .returned v' ∧ w'.ownsRow base 5 1 v' (n + 6) (xs ++ cellsOf [92, 117, 48, 48, digits.getD (c / 16).toNat 0, digits.getD (c % 16).toNat 0]) ∧ w.grownBy w' v.ownBlock := by
  obtain ⟨i0, hi, hz0, hz1, hz2⟩ := info_parts info5
  have a1 : 0 ≤ c / 16 := by omega
  have a2 : c / 16 < 16 := by omega
  have a3 : 0 ≤ c % 16 := by omega
  have a4 : c % 16 < 16 := by omega
  have hand := and15 c h0 h255
  go_enter Try.func18, Try.ntmps18
  go_wp2_with fail
  go_region_law ((refine step_append_lies _ (by rfl) _ _ 22 (by rfl) base 5 i0 (.int .u8 0) 1 1 Try.underlying22 hi hz0 hz1 hz2 (by rfl) (by decide) v n xs (by rfl) (hown.drew.alloc _) ⟨w.heap.size, 0, none⟩ 6 6 (cellsOf [92, 117, 48, 48, _, _]) (by rfl) (by rfl) (World.news_of_block (heap_alloc_new w.drew _)) (ints_oneCell _ _) (by decide) (by unfold maxLen; omega) (by omega) (by simp; omega) _ rfl ?_; intro g cap w1 hown1 hgrow1 hat hlt))
  all_goals
    simp only [dig_at] at hown1
    go_wp2
    go_ret
    exact ⟨_, rfl, hown1, (World.grownBy_alloc w _ _).trans ⟨hgrow1.os, hgrow1.tape, hgrow1.output, hgrow1.size, hgrow1.block⟩⟩

theorem esc_any (base : Nat) (v : Value) (n : Nat) (xs : List Value) (c : Int) (w : World) (hown : w.ownsRow base 5 1 v n xs) (hn : n ≤ 1048576) (hb : base ≤ w.heap.size) (h0 : 0 ≤ c) (h255 : c ≤ 255) :
    Calls Try.prog 18 #[v, .int .u8 c] w fun e w' => ∃ v', e = .returned v' ∧ w'.ownsRow base 5 1 v' (n + (esc c).length) (xs ++ cellsOf (esc c)) ∧ w.grownBy w' v.ownBlock := by
  unfold esc
  split
  · exact esc_two base v n xs c w hown hn hb (by assumption)
  split
  · exact esc_str base v n xs c 98 w hown hn hb (by omega)
  split
  · exact esc_str base v n xs c 102 w hown hn hb (by omega)
  split
  · exact esc_str base v n xs c 110 w hown hn hb (by omega)
  split
  · exact esc_str base v n xs c 114 w hown hn hb (by omega)
  split
  · exact esc_str base v n xs c 116 w hown hn hb (by omega)
  · have f : ∀ k : Int, ¬ c = k → (c == k) = false := fun k h => beq_eq_false_iff_ne.2 h
    exact esc_six base v n xs c w hown hn hb h0 h255 (f _ (by omega)) (f _ (by omega)) (f _ (by omega)) (f _ (by omega)) (f _ (by omega)) (f _ (by omega)) (f _ (by omega))

/-- ZZAppendEscape -/
theorem zzesc_any (base : Nat) (v : Value) (n : Nat) (xs : List Value) (c : Int) (w : World) (hown : w.ownsRow base 5 1 v n xs) (hn : n ≤ 1048576) (hb : base ≤ w.heap.size) (h0 : 0 ≤ c) (h255 : c ≤ 255) :
    Calls Try.prog 11 #[v, .int .u8 c] w fun e w' => ∃ v', e = .returned v' ∧ w'.ownsRow base 5 1 v' (n + (esc c).length) (xs ++ cellsOf (esc c)) ∧ w.grownBy w' v.ownBlock := by
  go_enter Try.func11, Try.ntmps11
  go_wp2_with (go_at_call 18; refine (esc_any base v n xs c w hown hn hb h0 h255).mono ?_; rintro e w' ⟨v', rfl, hown1, hgrow1⟩)
  go_ret
  exact ⟨v', rfl, hown1, hgrow1⟩

end Go.Proofs.Qxb6003658a
