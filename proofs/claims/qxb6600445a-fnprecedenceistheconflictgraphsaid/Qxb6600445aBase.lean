import Derived.Test.Qxb6600445aRows
import Derived.Test.Qxb6600445aMapF
import Derived.ProofKit
import Derived.WalkSmall
import Derived.Deep.QuietTactic
import Derived.BigQuiet
import Derived.Deep.RegionHeld3
import Derived.Deep.AppendLies
import Derived.Deep.DeepCutAuto
import Derived.Deep.LoopGhost
import Derived.Deep.RegionWith
namespace Go.Proofs.Qxb6600445a
open Go.RowKit
set_option linter.unusedVariables false

theorem hid {p : Prop} (h : p) : Hid p := h
theorem ret_bool {a b : Bool} (h : a = b) : Ending.returned (.bool a) = .returned (.bool b) := by rw [h]
theorem ret_int {k : IntKind} {a b : Int} (h : a = b) : Ending.returned (.int k a) = .returned (.int k b) := by rw [h]
def RetB (T F : Prop) (e : Ending) : Prop := (e = .returned (.bool true) ∧ T) ∨ (e = .returned (.bool false) ∧ F)

def StrsAt (w : World) (a : Option Addr) (n b off : Nat) (f : Nat → ByteArray) : Prop :=
  (0 < n → a = some ⟨b, off, none⟩) ∧ ∀ j, j < n → w.cell? ⟨b, off + j, none⟩ = some (.string (f j))
def BytesAt (w : World) (a : Option Addr) (n b off : Nat) (f : Nat → Int) : Prop :=
  (0 < n → a = some ⟨b, off, none⟩) ∧ ∀ j, j < n → w.cell? ⟨b, off + j, none⟩ = some (.int .u8 (f j))

def isEnd (a : Int) : Bool := decide (a = 3 ∨ a = 4)
def isOp (a : Int) : Bool := decide (1 ≤ a ∧ a ≤ 4)

theorem isEnd_any (a : Int) (w : World) : Calls Try.prog 29 #[.int .u8 a] w fun e w' => e = .returned (.bool (isEnd a)) ∧ w = w' := by
  by_cases h3 : a = 3
  · subst h3
    have hr : isEnd 3 = true := by decide
    rw [hr]
    go_enter Try.func29, Try.ntmps29
    go_wp2
    go_ret
    exact ⟨rfl, rfl⟩
  by_cases h4 : a = 4
  · subst h4
    have hr : isEnd 4 = true := by decide
    rw [hr]
    go_enter Try.func29, Try.ntmps29
    go_wp2
    go_ret
    exact ⟨rfl, rfl⟩
  have hr : isEnd a = false := by simp [isEnd, h3, h4]
  rw [hr]
  have g3 : (a == 3) = false := beq_eq_false_iff_ne.2 h3
  have g4 : (a == 4) = false := beq_eq_false_iff_ne.2 h4
  clear h3 h4 hr
  go_enter Try.func29, Try.ntmps29
  go_wp2
  go_ret
  exact ⟨rfl, rfl⟩

theorem isOp_any (a : Int) (w : World) : Calls Try.prog 30 #[.int .u8 a] w fun e w' => e = .returned (.bool (isOp a)) ∧ w = w' := by
  by_cases h3 : 1 ≤ a
  · by_cases h4 : a ≤ 4
    · have hr : isOp a = true := by simp [isOp, h3, h4]
      rw [hr]
      clear hr
      go_enter Try.func30, Try.ntmps30
      go_wp2
      go_ret
      exact ⟨rfl, rfl⟩
    · have hr : isOp a = false := by simp [isOp, h4]
      rw [hr]
      clear hr
      go_enter Try.func30, Try.ntmps30
      go_wp2
      go_ret
      exact ⟨rfl, rfl⟩
  · have hr : isOp a = false := by simp [isOp, h3]
    rw [hr]
    clear hr
    go_enter Try.func30, Try.ntmps30
    go_wp2
    go_ret
    exact ⟨rfl, rfl⟩

set_option maxHeartbeats 400000 in
theorem sb_any (a : Option Addr) (n c b off : Nat) (f : Nat → ByteArray) (w : World) (hn : n ≤ 4096) (hs : StrsAt w a n b off f) (ht : ∀ j, j < n → (f j).size ≤ 1048576) :
    Calls Try.prog 10 #[.slice a n c] w fun e w' => (∃ r, 0 ≤ r ∧ r ≤ 1048577 ∧ e = .returned (.int .i64 r)) ∧ w = w' := by
  have HS := hid hs
  have HT := hid ht
  clear hs ht
  go_enter Try.func10, Try.ntmps10
  go_wp2
  go_loop [3, 4] (fun z i => ∃ (k : Nat) (y : Int), k ≤ n ∧ i = .int .i64 k ∧ z = .int .i64 y ∧ 0 ≤ y ∧ y ≤ 1048576) (fun _ i => n - (intOf i).toNat)
  case atStart => exact ⟨0, 16 * (n : Int), Nat.zero_le _, rfl, rfl, by omega, by omega⟩
  case round =>
    obtain ⟨k, y, hk, rfl, rfl, hy0, hy1⟩ := hrel
    by_cases hlt : k < n
    · have ha := HS.out.1 (by omega)
      subst ha
      have i1 : (k : Int) < (n : Int) := by omega
      have c1 := HS.out.2 k hlt
      have tt := HT.out k hlt
      generalize f k = tx at *
      by_cases g2 : y + (tx.size : Int) ≤ 1048576
      · go_wp2
        go_round
        case rel => exact ⟨k + 1, _, by omega, by go_num, rfl, by omega, by omega⟩
        case measure => simp [intOf]; omega
      · go_wp2
        go_ret
        exact ⟨⟨1048577, by omega, by omega, rfl⟩, rfl⟩
    · go_wp2
      go_ret
      exact ⟨⟨y, hy0, by omega, rfl⟩, rfl⟩
end Go.Proofs.Qxb6600445a
