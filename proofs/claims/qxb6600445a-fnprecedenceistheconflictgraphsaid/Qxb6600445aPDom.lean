import Derived.Test.Qxb6600445aBytes
import Derived.Test.Qxb6600445aWf
import Derived.Test.Qxb6600445aOpen
namespace Go.Proofs.Qxb6600445a
open Go.RowKit
set_option linter.unusedVariables false

set_option maxRecDepth 100000 in
set_option maxHeartbeats 1000000 in
theorem zz17 (a1 a2 a4 a3 : Option Addr) (n1 n2 n4 n3 c1 c2 c4 c3 b1 o1 b3 o3 : Nat) (f g : Nat → ByteArray) (w : World) (h1 : n1 ≤ 9223372036854775807) (h2 : n2 ≤ 9223372036854775807) (h4 : n4 ≤ 9223372036854775807) (h3 : n3 ≤ 9223372036854775807)
    (hs1 : StrsAt w a1 n1 b1 o1 f) (hs3 : StrsAt w a3 n3 b3 o3 g) (ht1 : ∀ j, (f j).size ≤ 9223372036854775807) (ht3 : ∀ j, (g j).size ≤ 9223372036854775807) :
    Calls Try.prog 17 #[.slice a1 n1 c1, .slice a2 n2 c2, .slice a4 n4 c4, .slice a3 n3 c3] w fun e w' => RetB (Small3 n1 n2 n3 f g) True e ∧ w = w' := by
  have HS1 := hid hs1
  have HS3 := hid hs3
  have HT1 := hid ht1
  have HT3 := hid ht3
  clear hs1 hs3 ht1 ht3
  by_cases hb1 : n1 ≤ 1048576
  · go_enter Try.func17, Try.ntmps17
    go_wp2
    go_loop [9, 10] (fun z i => ∃ (k : Nat) (y : Int), k ≤ n1 ∧ i = .int .i64 k ∧ z = .int .i64 y ∧ 0 ≤ y ∧ y ≤ 1048576 ∧ Small k f) (fun _ i => n1 - (intOf i).toNat)
    case atStart => exact ⟨0, n1, Nat.zero_le _, rfl, rfl, by omega, by omega, fun j hj => by omega⟩
    case round =>
      obtain ⟨k, y, hk, rfl, rfl, hy0, hy1, hall⟩ := hrel
      have HALL := hid hall
      clear hall
      by_cases hlt : k < n1
      · have ha := HS1.out.1 (by omega)
        subst ha
        have i1 : (k : Int) < (n1 : Int) := by omega
        have cc := HS1.out.2 k hlt
        have tt := HT1.out k
        have HL := hid (show (f k).size ≤ 1048576 → Small (k + 1) f from fun h j hj => by
          by_cases e : j < k
          · exact HALL.out j e
          · have : j = k := by omega
            subst this; exact h)
        generalize f k = tx at *
        by_cases g1 : tx.size ≤ 1048576
        · by_cases g2 : y + (tx.size : Int) ≤ 1048576
          · have HR := hid (HL.out g1)
            clear HL
            go_wp2
            go_round
            case rel => exact ⟨k + 1, _, by omega, by go_num, rfl, by omega, by omega, HR.out⟩
            case measure => simp [intOf]; omega
          · clear HL
            go_wp2
            go_ret
            exact ⟨.inr ⟨rfl, trivial⟩, rfl⟩
        · clear HL
          go_wp2
          go_ret
          exact ⟨.inr ⟨rfl, trivial⟩, rfl⟩
      · have HF1 := hid (show Small n1 f from fun j hj => HALL.out j (by omega))
        clear HALL
        by_cases hb2 : n2 ≤ 1048576
        · by_cases hb2' : y + (n2 : Int) ≤ 1048576
          · by_cases hb4 : n4 ≤ 1048576
            · by_cases hb4' : y + (n2 : Int) + (n4 : Int) ≤ 1048576
              · by_cases hb3 : n3 ≤ 1048576
                · by_cases hb3' : y + (n2 : Int) + (n4 : Int) + (n3 : Int) ≤ 1048576
                  · go_wp2
                    go_loop [9, 11] (fun z i => ∃ (k : Nat) (y : Int), k ≤ n3 ∧ i = .int .i64 k ∧ z = .int .i64 y ∧ 0 ≤ y ∧ y ≤ 1048576 ∧ Small k g) (fun _ i => n3 - (intOf i).toNat)
                    case atStart => exact ⟨0, _, Nat.zero_le _, rfl, rfl, by omega, by omega, fun j hj => by omega⟩
                    case round =>
                      obtain ⟨k3, y3, hk3, rfl, rfl, hy30, hy31, hall3⟩ := hrel
                      have HALL := hid hall3
                      clear hall3
                      by_cases hlt3 : k3 < n3
                      · have ha := HS3.out.1 (by omega)
                        subst ha
                        have i1 : (k3 : Int) < (n3 : Int) := by omega
                        have cc := HS3.out.2 k3 hlt3
                        have tt := HT3.out k3
                        have HL := hid (show (g k3).size ≤ 1048576 → Small (k3 + 1) g from fun h j hj => by
                          by_cases e : j < k3
                          · exact HALL.out j e
                          · have : j = k3 := by omega
                            subst this; exact h)
                        generalize g k3 = tx at *
                        by_cases g1 : tx.size ≤ 1048576
                        · by_cases g2 : y3 + (tx.size : Int) ≤ 1048576
                          · have HR := hid (HL.out g1)
                            clear HL
                            go_wp2
                            go_round
                            case rel => exact ⟨k3 + 1, _, by omega, by go_num, rfl, by omega, by omega, HR.out⟩
                            case measure => simp [intOf]; omega
                          · clear HL
                            go_wp2
                            go_ret
                            exact ⟨.inr ⟨rfl, trivial⟩, rfl⟩
                        · clear HL
                          go_wp2
                          go_ret
                          exact ⟨.inr ⟨rfl, trivial⟩, rfl⟩
                      · have HF3 := hid (show Small n3 g from fun j hj => HALL.out j (by omega))
                        clear HALL
                        go_wp2
                        go_ret
                        exact ⟨.inl ⟨rfl, HF1.out, HF3.out⟩, rfl⟩
                  · go_wp2
                    go_ret
                    exact ⟨.inr ⟨rfl, trivial⟩, rfl⟩
                · go_wp2
                  go_ret
                  exact ⟨.inr ⟨rfl, trivial⟩, rfl⟩
              · go_wp2
                go_ret
                exact ⟨.inr ⟨rfl, trivial⟩, rfl⟩
            · go_wp2
              go_ret
              exact ⟨.inr ⟨rfl, trivial⟩, rfl⟩
          · go_wp2
            go_ret
            exact ⟨.inr ⟨rfl, trivial⟩, rfl⟩
        · go_wp2
          go_ret
          exact ⟨.inr ⟨rfl, trivial⟩, rfl⟩
  · go_enter Try.func17, Try.ntmps17
    go_wp2
    go_ret
    exact ⟨.inr ⟨rfl, trivial⟩, rfl⟩


/-- the domain -/
def Dom (n1 n : Nat) (tn : Nat → ByteArray) (ix : Nat → Int) : Prop := (∀ i, i < n → ix i < n1) ∧ ∀ i j, j < i → i < n1 → tn i ≠ tn j

set_option maxRecDepth 100000 in
set_option maxHeartbeats 1000000 in
theorem dom_any (a1 a2 a3 a4 : Option Addr) (n1 n2 n3 n4 c1 c2 c3 c4 b1 o1 b2 o2 b4 o4 : Nat) (tn : Nat → ByteArray) (ix : Nat → Int) (it : Nat → ByteArray) (w : World) (h1 : n1 ≤ 256) (h2 : n2 ≤ 4096) (h3 : n3 ≤ 4096) (h4 : n4 ≤ 4096)
    (hs1 : StrsAt w a1 n1 b1 o1 tn) (hs2 : WordsAt w a2 n2 b2 o2 ix) (hs4 : StrsAt w a4 n4 b4 o4 it) (hix : ∀ j, 0 ≤ ix j ∧ ix j ≤ 65535) (ht1 : Small n1 tn) (ht4 : Small n4 it) :
    Calls Try.prog 18 #[.slice a1 n1 c1, .slice a2 n2 c2, .slice a3 n3 c3, .slice a4 n4 c4] w fun e w' => RetB (n2 = n3 ∧ n4 = n2 ∧ Dom n1 n2 tn ix) True e ∧ ∃ m, w' = w.drewN m := by
  have HS1 := hid hs1
  have HS2 := hid hs2
  have HS4 := hid hs4
  have HX := hid hix
  have K1 := hid (sb_any a1 n1 c1 b1 o1 tn w (by omega) hs1 ht1)
  have K4 := hid (sb_any a4 n4 c4 b4 o4 it w (by omega) hs4 ht4)
  clear hs1 hs2 hs4 hix ht1 ht4
  by_cases g5 : n2 = n3
  rotate_left
  · have q : ¬ ((n2 : Int) = (n3 : Int)) := by omega
    have q2 : ((n2 : Int) != (n3 : Int)) = true := by simp; omega
    go_enter Try.func18, Try.ntmps18
    go_wp2
    go_ret
    exact ⟨.inr ⟨rfl, trivial⟩, 0, rfl⟩
  subst g5
  by_cases g6 : n4 = n2
  rotate_left
  · have q : ¬ ((n4 : Int) = (n2 : Int)) := by omega
    have q2 : ((n4 : Int) != (n2 : Int)) = true := by simp; omega
    go_enter Try.func18, Try.ntmps18
    go_wp2
    go_ret
    exact ⟨.inr ⟨rfl, trivial⟩, 0, rfl⟩
  subst g6
  go_enter Try.func18, Try.ntmps18
  go_wp2_with fail
  refine K1.out.mono ?_
  rintro e w' ⟨⟨r1, r10, r11, rfl⟩, rfl⟩
  go_wp2_with fail
  refine K4.out.mono ?_
  rintro e w' ⟨⟨r4, r40, r41, rfl⟩, rfl⟩
  clear K1 K4
  by_cases g4 : r1 + 2 * (n4 : Int) + (n4 : Int) + r4 ≤ 1048576
  rotate_left
  · go_wp2
    go_ret
    exact ⟨.inr ⟨rfl, trivial⟩, 0, rfl⟩
  go_wp2
  go_loop [9] (fun iv => ∃ k : Nat, k ≤ n4 ∧ iv = .int .i64 k ∧ ∀ i, i < k → ix i < n1) (fun i => n4 - (intOf i).toNat)
  case atStart => exact ⟨0, Nat.zero_le _, rfl, fun i h => by omega⟩
  case round =>
    obtain ⟨k, hk, rfl, hall⟩ := hrel
    have HALL := hid hall
    clear hall
    by_cases hlt : k < n4
    · have ha := HS2.out.1 (by omega)
      subst ha
      have i1 : (k : Int) < (n4 : Int) := by omega
      have cc := HS2.out.2 k hlt
      have tt := HX.out k
      have HL := hid (show ix k < n1 → ∀ i, i < k + 1 → ix i < n1 from fun h i hi => by
        by_cases e : i < k
        · exact HALL.out i e
        · have : i = k := by omega
          subst this; exact h)
      generalize ix k = v at *
      by_cases hv : v < (n1 : Int)
      · have HR := hid (HL.out hv)
        clear HL
        go_wp2
        go_round
        case rel => exact ⟨k + 1, by omega, by go_num, HR.out⟩
        case measure => simp [intOf]; omega
      · clear HL
        go_wp2
        go_ret
        exact ⟨.inr ⟨rfl, trivial⟩, 0, rfl⟩
    · have HF := hid (show ∀ i, i < n4 → ix i < n1 from fun i h => HALL.out i (by omega))
      clear HALL
      go_wp2
      go_loopg [10] n1 (fun g iv wr => ∃ i m, i ≤ n1 ∧ g = n1 - i ∧ iv = .int .i64 (i : Nat) ∧ wr = w.drewN m ∧ ∀ i' j, i' < i → j < i' → tn i' ≠ tn j)
      case atStart => exact ⟨0, 0, Nat.zero_le _, rfl, rfl, rfl, fun i' j h => by omega⟩
      case round =>
        obtain ⟨i, m, hi, hg, rfl, rfl, hall⟩ := hrel
        have HG := hid hg
        have HALL := hid hall
        clear hg hall
        by_cases hlt2 : i < n1
        · have ha1 := HS1.out.1 (by omega)
          subst ha1
          have i1 : (i : Int) < (n1 : Int) := by omega
          have d1 := HS1.out.2 i hlt2
          generalize hti : tn i = ti at *
          have HTI := hid hti
          clear hti
          go_wp2
          go_loopg [11] i (fun g jv wr => ∃ j m, j ≤ i ∧ g = i - j ∧ jv = .int .i64 (j : Nat) ∧ wr = w.drewN m ∧ ∀ j', j' < j → ti ≠ tn j')
          case atStart => exact ⟨0, m, Nat.zero_le _, rfl, rfl, rfl, fun j h => by omega⟩
          case round =>
            obtain ⟨j, m2, hj, hg2, rfl, rfl, hall2⟩ := hrel
            have HG2 := hid hg2
            have HALL2 := hid hall2
            clear hg2 hall2
            by_cases hjlt : j < i
            · have j1 : (j : Int) < (i : Int) := by omega
              have e1 := HS1.out.2 j (by omega)
              have HST := hid (show ti ≠ tn j → ∀ j', j' < j + 1 → ti ≠ tn j' from fun h j' h1 => by
                by_cases e : j' < j
                · exact HALL2.out j' e
                · have : j' = j := by omega
                  subst this; exact h)
              generalize tn j = tj at *
              by_cases hs : ti = tj
              · have q := sEq_t hs
                clear hs HST
                go_wp2
                go_quiet (fail)
                go_wp2
                go_ret
                exact ⟨.inr ⟨rfl, trivial⟩, _, World.drewN_drewN _ _ _⟩
              · have q := sEq_f hs
                have HST2 := hid (HST.out hs)
                clear hs HST
                go_wp2
                go_quiet (fail)
                go_wp2
                go_roundg (i - (j + 1))
                case measure => have := HG2.out; omega
                case rel => exact ⟨j + 1, _, by omega, rfl, by go_num, rfl, HST2.out⟩
            · have HN := hid (show ∀ i' j, i' < i + 1 → j < i' → tn i' ≠ tn j from fun i' j' h1 h2 => by
                by_cases e : i' < i
                · exact HALL.out i' j' e h2
                · have : i' = i := by omega
                  subst this
                  rw [HTI.out]
                  exact HALL2.out j' (by omega))
              clear HALL2
              go_wp2
              go_roundg (n1 - (i + 1))
              case measure => have := HG.out; omega
              case rel => exact ⟨i + 1, m2, by omega, rfl, by go_num, rfl, HN.out⟩
        · have HD := hid (show ∀ i j, j < i → i < n1 → tn i ≠ tn j from fun i' j h1 h2 => HALL.out i' j (by omega) h1)
          clear HALL
          go_wp2
          go_ret
          exact ⟨.inl ⟨rfl, (by first | rfl | trivial), (by first | rfl | trivial), HF.out, HD.out⟩, _, rfl⟩
end Go.Proofs.Qxb6600445a
