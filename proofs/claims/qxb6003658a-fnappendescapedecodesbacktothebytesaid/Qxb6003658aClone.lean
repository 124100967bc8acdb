import Derived.Test.Qxb6003658aRows
import Derived.WalkKit
import Derived.ProofKit
import Derived.WalkSpells
import Derived.Deep.QuietTactic
import Derived.BigQuiet
namespace Go.Proofs.Qxb6003658a
open Go.RowKit
set_option linter.unusedVariables false

theorem info5 : (Try.prog.info? 5).map (fun i => (i.zero, i.size, i.bytes)) = some (some (.int .u8 0), 1, 1) := by kernel_rfl

/-- the bytes as cells -/
def cellsOf (l : List Int) : List Value := l.map (Value.int .u8)

/-- after k rounds: the first k copied, the rest zero -/
def part (l : List Int) (k : Nat) : List Value := cellsOf (l.take k) ++ List.replicate (l.length - k) (.int .u8 0)

theorem part_zero (l : List Int) : part l 0 = List.replicate l.length (.int .u8 0) := by simp [part, cellsOf]
theorem part_all (l : List Int) : part l l.length = cellsOf l := by simp [part, cellsOf]
theorem part_succ (l : List Int) (k : Nat) (h : k < l.length) : (part l k).set k (.int .u8 (l.getD k 0)) = part l (k + 1) := by
  unfold part cellsOf
  have hr : l.length - k = (l.length - (k + 1)) + 1 := by omega
  rw [hr, List.replicate_succ, List.set_append_right _ _ (by simp; omega)]
  have : k - ((l.take k).map (Value.int .u8)).length = 0 := by simp; omega
  rw [this, List.set_cons_zero, List.take_succ_eq_append_getElem h, List.map_append, List.append_assoc]
  simp only [List.map_cons, List.map_nil, List.cons_append, List.nil_append, List.getD_eq_getElem?_getD, List.getElem?_eq_getElem h, Option.getD_some]

theorem part_at (l : List Int) (k : Nat) (h : k < l.length) : (part l k)[k]? = some (.int .u8 0) := by
  unfold part cellsOf
  rw [List.getElem?_append_right (by simp; omega), List.getElem?_replicate, if_pos (by simp; omega)]

theorem toList_madeCells (n : Nat) : (madeCells (Value.int .u8 0).cells (n * 1)).toList = List.replicate n (Value.int .u8 0) := by
  rw [Nat.mul_one]; exact toList_madeCells_one _ _

theorem nilq : ∀ (w : World) (a : Option Addr) (n c n' c' : Nat), (binOp .eql 22 (.slice a n c) (.slice none n' c')).run Try.prog w = .ok (.bool a.isNone) w :=
  fun w a n c n' c' => Lib.run_eql_slice_nil w _ _ a n c n' c' Try.underlying22

theorem clone_nil (w : World) : Calls Try.prog 7 #[.slice none 0 0] w fun e w' => e = .returned (.slice none 0 0) ∧ w' = w := by
  have q := nilq
  go_enter Try.func7, Try.ntmps7
  go_wp2
  go_ret
  exact ⟨rfl, rfl⟩

set_option maxHeartbeats 400000 in
theorem clone_some (x : Addr) (n c : Nat) (l : List Int) (w : World) (hl : l.length = n) (hn : n ≤ 1048576)
    (hc : ∀ j, j < n → w.cell? (x.add j) = some (.int .u8 (l.getD j 0))) :
    Calls Try.prog 7 #[.slice (some x) n c] w fun e w' => e = .returned (.slice (some ⟨w.heap.size, 0, none⟩) n n) ∧ w'.ownsRow w.heap.size 5 1 (.slice (some ⟨w.heap.size, 0, none⟩) n n) n (cellsOf l) ∧ Below w.heap.size w w' := by
  have q := nilq
  obtain ⟨i0, hi, hz0, hz1, hz2⟩ := info_parts info5
  go_enter Try.func7, Try.ntmps7
  go_wp2_with (at_make; refine wpList_make_full _ rfl _ _ 22 rfl w.heap.size 5 i0 (.int .u8 0) 1 Try.underlying22 hi hz0 hz1 _ _ _ _ n rfl rfl rfl rfl (by rw [hz2]; omega) (by unfold maxLen; omega) (Nat.le_refl _) ?_; intro w1 hown hgrow)
  rw [toList_madeCells] at hown
  have hb1 : Below w.heap.size w w1 := (Below.refl _ _).grown hgrow (Nat.le_refl _) (fun k h => by cases h)
  clear hgrow
  go_loopw [4] (fun i wr => ∃ k : Nat, k ≤ n ∧ i = .int .i64 k ∧ wr.ownsRow w.heap.size 5 1 (.slice (some ⟨w.heap.size, 0, none⟩) n n) n (part l k) ∧ Below w.heap.size w wr) (fun i _ => n - (intOf i).toNat)
  case atStart => exact ⟨0, Nat.zero_le _, rfl, by rw [part_zero, hl]; exact hown, hb1⟩
  case round =>
    clear hown hb1
    obtain ⟨k, hk, rfl, hown, hb⟩ := hrel
    by_cases hlt : k < n
    · have hcx : wr.cell? (x.add k) = some (.int .u8 (l.getD k 0)) := cell_later hb (hc k hlt)
      have hcd : wr.cell? ⟨w.heap.size, k, none⟩ = (part l k)[k]? := hown.cellAt k (by omega)
      have hfr := hown.frozenAt k
      have hst := (hown.stored k (.int .u8 (l.getD k 0))).1
      rw [part_succ l k (by omega)] at hst
      generalize l.getD k 0 = z at *
      have hb2 : Below w.heap.size w (wr.setCell ⟨w.heap.size, k, none⟩ (.int .u8 z)) := hb.setCell (Nat.le_refl _) _
      have hck : (part l k)[k]? = some (.int .u8 0) := part_at l k (by omega)
      rw [hck] at hcd
      clear hc
      go_wp2
      go_roundw
      case rel => exact ⟨k + 1, by omega, by go_num, hst, hb2⟩
      case measure => simp [intOf]; omega
    · have hk' : k = l.length := by omega
      go_wp2
      go_ret
      exact ⟨rfl, by rw [← part_all, ← hk']; exact hown, hb⟩
end Go.Proofs.Qxb6003658a
