import Derived.Test.Qxb6600448aCloneS
namespace Go.Proofs.Qxb6600448a
open Go.RowKit
set_option linter.unusedVariables false

/-- it returns true and T holds, or false and F holds -/
def RetB (T F : Prop) (e : Ending) : Prop := (e = .returned (.bool true) ∧ T) ∨ (e = .returned (.bool false) ∧ F)

set_option maxHeartbeats 400000 in
theorem zz7 (a : Option Addr) (b off n c : Nat) (st : Nat → St) (w : World) (hn : n ≤ 9223372036854775807) (hx : 0 < n → a = some ⟨b, off, none⟩) (ht : ∀ j, (st j).text.size ≤ 9223372036854775807)
    (h0 : ∀ j, j < n → w.cell? ⟨b, off + j * 3 + 2, none⟩ = some (.string (st j).text)) :
    Calls Try.prog 7 #[.slice a n c] w fun e w' => RetB (n ≤ 1048576 ∧ ∀ j, j < n → (st j).text.size ≤ 1048576) True e ∧ w = w' := by
  have HX := hid hx
  have HT := hid ht
  have H0 := hid h0
  clear hx ht h0
  by_cases hbig : n ≤ 1048576
  · go_enter Try.func7, Try.ntmps7
    go_wp2
    go_loop [3, 4] (fun z i => ∃ (k : Nat) (y : Int), k ≤ n ∧ i = .int .i64 k ∧ z = .int .i64 y ∧ 0 ≤ y ∧ y ≤ 1048576 ∧ ∀ j, j < k → (st j).text.size ≤ 1048576) (fun _ i => n - (intOf i).toNat)
    case atStart => exact ⟨0, n, Nat.zero_le _, rfl, rfl, by omega, by omega, fun j hj => by omega⟩
    case round =>
      obtain ⟨k, y, hk, rfl, rfl, hy0, hy1, hall⟩ := hrel
      have HALL := hid hall
      clear hall
      by_cases hlt : k < n
      · have ha := HX.out (by omega)
        subst ha
        have i1 : (k : Int) < (n : Int) := by omega
        have c1 := H0.out k hlt
        have tt := HT.out k
        have HL := hid (show (st k).text.size ≤ 1048576 → ∀ j, j < k + 1 → (st j).text.size ≤ 1048576 from fun h j hj => by
          by_cases e : j < k
          · exact HALL.out j e
          · have : j = k := by omega
            subst this; exact h)
        generalize (st k).text = tx at *
        by_cases g1 : tx.size ≤ 1048576
        · by_cases g2 : y + (tx.size : Int) ≤ 1048576
          · have HR := hid (HL.out g1)
            go_wp2
            go_round
            case rel => exact ⟨k + 1, _, by omega, by go_num, rfl, by omega, by omega, HR.out⟩
            case measure => simp [intOf]; omega
          · go_wp2
            go_ret
            exact ⟨.inr ⟨rfl, trivial⟩, rfl⟩
        · go_wp2
          go_ret
          exact ⟨.inr ⟨rfl, trivial⟩, rfl⟩
      · have HF := hid (show ∀ j, j < n → (st j).text.size ≤ 1048576 from fun j hj => HALL.out j (by omega))
        go_wp2
        go_ret
        exact ⟨.inl ⟨rfl, HF.out⟩, rfl⟩
  · go_enter Try.func7, Try.ntmps7
    go_wp2
    go_ret
    exact ⟨.inr ⟨rfl, trivial⟩, rfl⟩

set_option maxHeartbeats 400000 in
theorem zz11 (a : Option Addr) (b off n c : Nat) (st : Nat → St) (w : World) (hn : n ≤ 9223372036854775807) (hx : 0 < n → a = some ⟨b, off, none⟩) (ht : ∀ j, (st j).text.size ≤ 9223372036854775807)
    (h0 : ∀ j, j < n → w.cell? ⟨b, off + j * 3 + 2, none⟩ = some (.string (st j).text)) :
    Calls Try.prog 11 #[.slice a n c] w fun e w' => RetB (n ≤ 1048576 ∧ ∀ j, j < n → (st j).text.size ≤ 1048576) True e ∧ w = w' := by
  have HX := hid hx
  have HT := hid ht
  have H0 := hid h0
  clear hx ht h0
  by_cases hbig : n ≤ 1048576
  · go_enter Try.func11, Try.ntmps11
    go_wp2
    go_loop [3, 4] (fun z i => ∃ (k : Nat) (y : Int), k ≤ n ∧ i = .int .i64 k ∧ z = .int .i64 y ∧ 0 ≤ y ∧ y ≤ 1048576 ∧ ∀ j, j < k → (st j).text.size ≤ 1048576) (fun _ i => n - (intOf i).toNat)
    case atStart => exact ⟨0, n, Nat.zero_le _, rfl, rfl, by omega, by omega, fun j hj => by omega⟩
    case round =>
      obtain ⟨k, y, hk, rfl, rfl, hy0, hy1, hall⟩ := hrel
      have HALL := hid hall
      clear hall
      by_cases hlt : k < n
      · have ha := HX.out (by omega)
        subst ha
        have i1 : (k : Int) < (n : Int) := by omega
        have c1 := H0.out k hlt
        have tt := HT.out k
        have HL := hid (show (st k).text.size ≤ 1048576 → ∀ j, j < k + 1 → (st j).text.size ≤ 1048576 from fun h j hj => by
          by_cases e : j < k
          · exact HALL.out j e
          · have : j = k := by omega
            subst this; exact h)
        generalize (st k).text = tx at *
        by_cases g1 : tx.size ≤ 1048576
        · by_cases g2 : y + (tx.size : Int) ≤ 1048576
          · have HR := hid (HL.out g1)
            go_wp2
            go_round
            case rel => exact ⟨k + 1, _, by omega, by go_num, rfl, by omega, by omega, HR.out⟩
            case measure => simp [intOf]; omega
          · go_wp2
            go_ret
            exact ⟨.inr ⟨rfl, trivial⟩, rfl⟩
        · go_wp2
          go_ret
          exact ⟨.inr ⟨rfl, trivial⟩, rfl⟩
      · have HF := hid (show ∀ j, j < n → (st j).text.size ≤ 1048576 from fun j hj => HALL.out j (by omega))
        go_wp2
        go_ret
        exact ⟨.inl ⟨rfl, HF.out⟩, rfl⟩
  · go_enter Try.func11, Try.ntmps11
    go_wp2
    go_ret
    exact ⟨.inr ⟨rfl, trivial⟩, rfl⟩

set_option maxHeartbeats 400000 in
theorem zz8 (a : Option Addr) (b off n c : Nat) (st : Nat → St) (w : World) (hn : n ≤ 1048576) (hx : 0 < n → a = some ⟨b, off, none⟩) (ht : ∀ j, j < n → (st j).text.size ≤ 1048576)
    (h0 : ∀ j, j < n → w.cell? ⟨b, off + j * 3 + 2, none⟩ = some (.string (st j).text)) :
    Calls Try.prog 8 #[.slice a n c] w fun e w' => RetB True (n ≤ 4096) e ∧ w = w' := by
  have HX := hid hx
  have HT := hid ht
  have H0 := hid h0
  clear hx ht h0
  by_cases hbig : n ≤ 4096
  · go_enter Try.func8, Try.ntmps8
    go_wp2
    go_loop [3, 4] (fun z i => ∃ (k : Nat) (y : Int), k ≤ n ∧ i = .int .i64 k ∧ z = .int .i64 y ∧ 0 ≤ y ∧ y ≤ 1048576) (fun _ i => n - (intOf i).toNat)
    case atStart => exact ⟨0, 32 * (n : Int), Nat.zero_le _, rfl, rfl, by omega, by omega⟩
    case round =>
      obtain ⟨k, y, hk, rfl, rfl, hy0, hy1⟩ := hrel
      by_cases hlt : k < n
      · have ha := HX.out (by omega)
        subst ha
        have i1 : (k : Int) < (n : Int) := by omega
        have c1 := H0.out k hlt
        have tt := HT.out k hlt
        generalize (st k).text = tx at *
        by_cases g2 : y + (tx.size : Int) ≤ 1048576
        · go_wp2
          go_round
          case rel => exact ⟨k + 1, _, by omega, by go_num, rfl, by omega, by omega⟩
          case measure => simp [intOf]; omega
        · go_wp2
          go_ret
          exact ⟨.inl ⟨rfl, trivial⟩, rfl⟩
      · go_wp2
        go_ret
        exact ⟨.inr ⟨rfl, trivial⟩, rfl⟩
  · go_enter Try.func8, Try.ntmps8
    go_wp2
    go_ret
    exact ⟨.inl ⟨rfl, trivial⟩, rfl⟩
end Go.Proofs.Qxb6600448a
