import Derived.Test.Qxb6600445aBase
namespace Go.Proofs.Qxb6600445a
open Go.RowKit
set_option linter.unusedVariables false

def Small (n : Nat) (f : Nat → ByteArray) : Prop := ∀ j, j < n → (f j).size ≤ 1048576
def Small3 (n1 n2 n3 : Nat) (f g : Nat → ByteArray) : Prop := Small n1 f ∧ Small n3 g

set_option maxRecDepth 100000 in
set_option maxHeartbeats 1000000 in
theorem zz9 (a1 a2 a3 : Option Addr) (n1 n2 n3 c1 c2 c3 b1 o1 b3 o3 : Nat) (f g : Nat → ByteArray) (w : World) (h1 : n1 ≤ 9223372036854775807) (h2 : n2 ≤ 9223372036854775807) (h3 : n3 ≤ 9223372036854775807)
    (hs1 : StrsAt w a1 n1 b1 o1 f) (hs3 : StrsAt w a3 n3 b3 o3 g) (ht1 : ∀ j, (f j).size ≤ 9223372036854775807) (ht3 : ∀ j, (g j).size ≤ 9223372036854775807) :
    Calls Try.prog 9 #[.slice a1 n1 c1, .slice a2 n2 c2, .slice a3 n3 c3] w fun e w' => RetB (Small3 n1 n2 n3 f g) True e ∧ w = w' := by
  have HS1 := hid hs1
  have HS3 := hid hs3
  have HT1 := hid ht1
  have HT3 := hid ht3
  clear hs1 hs3 ht1 ht3
  by_cases hb1 : n1 ≤ 1048576
  · go_enter Try.func9, Try.ntmps9
    go_wp2
    go_loop [7, 8] (fun z i => ∃ (k : Nat) (y : Int), k ≤ n1 ∧ i = .int .i64 k ∧ z = .int .i64 y ∧ 0 ≤ y ∧ y ≤ 1048576 ∧ Small k f) (fun _ i => n1 - (intOf i).toNat)
    case atStart => exact ⟨0, n1, Nat.zero_le _, rfl, rfl, by omega, by omega, fun j hj => by omega⟩
    case round =>
      obtain ⟨k, y, hk, rfl, rfl, hy0, hy1, hall⟩ := hrel
      have HALL := hid hall
      clear hall
      by_cases hlt : k < n1
      · have ha := HS1.out.1 (by omega)
        subst ha
        have i1 : (k : Int) < (n1 : Int) := by omega
        have cc := HS1.out.2 k hlt
        have tt := HT1.out k
        have HL := hid (show (f k).size ≤ 1048576 → Small (k + 1) f from fun h j hj => by
          by_cases e : j < k
          · exact HALL.out j e
          · have : j = k := by omega
            subst this; exact h)
        generalize f k = tx at *
        by_cases g1 : tx.size ≤ 1048576
        · by_cases g2 : y + (tx.size : Int) ≤ 1048576
          · have HR := hid (HL.out g1)
            clear HL
            go_wp2
            go_round
            case rel => exact ⟨k + 1, _, by omega, by go_num, rfl, by omega, by omega, HR.out⟩
            case measure => simp [intOf]; omega
          · clear HL
            go_wp2
            go_ret
            exact ⟨.inr ⟨rfl, trivial⟩, rfl⟩
        · clear HL
          go_wp2
          go_ret
          exact ⟨.inr ⟨rfl, trivial⟩, rfl⟩
      · have HF1 := hid (show Small n1 f from fun j hj => HALL.out j (by omega))
        clear HALL
        by_cases hb2 : n2 ≤ 1048576
        · by_cases hb2' : y + (n2 : Int) ≤ 1048576
          · by_cases hb3 : n3 ≤ 1048576
            · by_cases hb3' : y + (n2 : Int) + (n3 : Int) ≤ 1048576
              · go_wp2
                go_loop [7, 9] (fun z i => ∃ (k : Nat) (y : Int), k ≤ n3 ∧ i = .int .i64 k ∧ z = .int .i64 y ∧ 0 ≤ y ∧ y ≤ 1048576 ∧ Small k g) (fun _ i => n3 - (intOf i).toNat)
                case atStart => exact ⟨0, _, Nat.zero_le _, rfl, rfl, by omega, by omega, fun j hj => by omega⟩
                case round =>
                  obtain ⟨k3, y3, hk3, rfl, rfl, hy30, hy31, hall3⟩ := hrel
                  have HALL := hid hall3
                  clear hall3
                  by_cases hlt3 : k3 < n3
                  · have ha := HS3.out.1 (by omega)
                    subst ha
                    have i1 : (k3 : Int) < (n3 : Int) := by omega
                    have cc := HS3.out.2 k3 hlt3
                    have tt := HT3.out k3
                    have HL := hid (show (g k3).size ≤ 1048576 → Small (k3 + 1) g from fun h j hj => by
                      by_cases e : j < k3
                      · exact HALL.out j e
                      · have : j = k3 := by omega
                        subst this; exact h)
                    generalize g k3 = tx at *
                    by_cases g1 : tx.size ≤ 1048576
                    · by_cases g2 : y3 + (tx.size : Int) ≤ 1048576
                      · have HR := hid (HL.out g1)
                        clear HL
                        go_wp2
                        go_round
                        case rel => exact ⟨k3 + 1, _, by omega, by go_num, rfl, by omega, by omega, HR.out⟩
                        case measure => simp [intOf]; omega
                      · clear HL
                        go_wp2
                        go_ret
                        exact ⟨.inr ⟨rfl, trivial⟩, rfl⟩
                    · clear HL
                      go_wp2
                      go_ret
                      exact ⟨.inr ⟨rfl, trivial⟩, rfl⟩
                  · have HF3 := hid (show Small n3 g from fun j hj => HALL.out j (by omega))
                    clear HALL
                    go_wp2
                    go_ret
                    exact ⟨.inl ⟨rfl, HF1.out, HF3.out⟩, rfl⟩
              · go_wp2
                go_ret
                exact ⟨.inr ⟨rfl, trivial⟩, rfl⟩
            · go_wp2
              go_ret
              exact ⟨.inr ⟨rfl, trivial⟩, rfl⟩
          · go_wp2
            go_ret
            exact ⟨.inr ⟨rfl, trivial⟩, rfl⟩
        · go_wp2
          go_ret
          exact ⟨.inr ⟨rfl, trivial⟩, rfl⟩
  · go_enter Try.func9, Try.ntmps9
    go_wp2
    go_ret
    exact ⟨.inr ⟨rfl, trivial⟩, rfl⟩
end Go.Proofs.Qxb6600445a
