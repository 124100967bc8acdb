import Derived.Test.Qxb6003658aShort
import Derived.Test.Qxb6003658aPcWalk
namespace Go.Proofs.Qxb6003658a
open Go.RowKit
set_option linter.unusedVariables false

theorem short_all : ∀ k : Fin 256, hse (k.val : Int) = true → (esc (k.val : Int)).length = 2 ∧ (esc (k.val : Int)).getD 0 0 = 92 ∧ ¬ (esc (k.val : Int)).getD 1 0 = 47 ∧ jsu ((esc (k.val : Int)).getD 1 0) = ((k.val : Int), true) := by decide +kernel
theorem long_all : ∀ k : Fin 256, hse (k.val : Int) = false → (esc (k.val : Int)).length = 6 ∧ (esc (k.val : Int)).getD 0 0 = 92 ∧ (esc (k.val : Int)).getD 1 0 = 117 ∧ (∀ j : Fin 4, ¬ (65 ≤ (esc (k.val : Int)).getD (2 + j.val) 0 ∧ (esc (k.val : Int)).getD (2 + j.val) 0 ≤ 70)) ∧ hexOut ((esc (k.val : Int)).drop 2) = ((k.val : Int), true) := by decide +kernel
theorem bd_all : ∀ k : Fin 256, ∀ j : Fin 6, 0 ≤ (esc (k.val : Int)).getD j.val 0 ∧ (esc (k.val : Int)).getD j.val 0 ≤ 255 := by decide +kernel

theorem short_is (c : Int) (h0 : 0 ≤ c) (h1 : c ≤ 255) (h : hse c = true) : (esc c).length = 2 ∧ (esc c).getD 0 0 = 92 ∧ ¬ (esc c).getD 1 0 = 47 ∧ jsu ((esc c).getD 1 0) = (c, true) := by
  have := short_all ⟨c.toNat, by omega⟩
  have e : ((c.toNat : Nat) : Int) = c := by omega
  simp only [e] at this
  exact this h
theorem long_is (c : Int) (h0 : 0 ≤ c) (h1 : c ≤ 255) (h : hse c = false) : (esc c).length = 6 ∧ (esc c).getD 0 0 = 92 ∧ (esc c).getD 1 0 = 117 ∧ (∀ j : Fin 4, ¬ (65 ≤ (esc c).getD (2 + j.val) 0 ∧ (esc c).getD (2 + j.val) 0 ≤ 70)) ∧ hexOut ((esc c).drop 2) = (c, true) := by
  have := long_all ⟨c.toNat, by omega⟩
  have e : ((c.toNat : Nat) : Int) = c := by omega
  simp only [e] at this
  exact this h
theorem bd_is (c : Int) (h0 : 0 ≤ c) (h1 : c ≤ 255) (j : Nat) : 0 ≤ (esc c).getD j 0 ∧ (esc c).getD j 0 ≤ 255 := by
  by_cases hj : j < 6
  · have := bd_all ⟨c.toNat, by omega⟩ ⟨j, hj⟩
    have e : ((c.toNat : Nat) : Int) = c := by omega
    simp only [e] at this
    exact this
  · have := len_ge c h0 h1
    rw [List.getD_eq_getElem?_getD, List.getElem?_eq_none (by omega)]
    simp
theorem getD_drop (l : List Int) (n j : Nat) : (l.drop n).getD j 0 = l.getD (n + j) 0 := by
  simp [List.getD_eq_getElem?_getD]

theorem zz10 (a : Option Addr) (n c : Nat) (a1 : Int) (w : World) (hn : n ≤ 9223372036854775807) :
    Calls Try.prog 10 #[.slice a n c, .int .u8 a1] w fun e w' => e = .returned (.bool (decide (n ≤ 1048576))) ∧ w = w' := by
  by_cases h : n ≤ 1048576
  · have hd : decide (n ≤ 1048576) = true := by simpa using h
    rw [hd]
    go_enter Try.func10, Try.ntmps10
    go_wp2
    go_ret
    exact ⟨rfl, rfl⟩
  · have hd : decide (n ≤ 1048576) = false := by simpa using h
    rw [hd]
    go_enter Try.func10, Try.ntmps10
    go_wp2
    go_ret
    exact ⟨rfl, rfl⟩

theorem dc_big (a : Option Addr) (n c : Nat) (c1 : Int) (w : World) (hn : n ≤ 9223372036854775807) (hbig : 1048576 < n) :
    Calls Try.prog 4 #[.slice a n c, .int .u8 c1] w fun e w' => e = .returned (.bool true) ∧ Below w.heap.size w w' := by
  have hd : decide (n ≤ 1048576) = false := by simp; omega
  go_enter Try.func4, Try.ntmps4
  go_wp2_with (go_at_call 10; refine (zz10 _ _ _ _ _ hn).mono ?_; rintro e w' ⟨rfl, rfl⟩; rw [hd])
  go_ret
  exact ⟨rfl, Below.refl _ _⟩

set_option maxHeartbeats 1600000 in
theorem dc_core (a : Option Addr) (n c : Nat) (l : List Int) (c1 : Int) (w : World) (hs : Src w a n l) (hn : n ≤ 1048576) (h0 : 0 ≤ c1) (h1 : c1 ≤ 255) :
    Calls Try.prog 4 #[.slice a n c, .int .u8 c1] w fun e w' => e = .returned (.bool true) ∧ Below w.heap.size w w' := by
  have hd : decide (n ≤ 1048576) = true := by simpa using hn
  have HS : Hid (Src w a n l) := hs
  clear hs
  obtain ⟨m1, hm1⟩ : ∃ m, (esc c1).length = m := ⟨_, rfl⟩
  have lm1 := len_ge c1 h0 h1
  rw [hm1] at lm1
  have HM1 : Hid ((esc c1).length = m1) := hm1
  clear hm1
  go_enter Try.func4, Try.ntmps4
  go_wp2_with (go_at_call 10; refine (zz10 _ _ _ _ _ (by omega)).mono ?_; rintro e w' ⟨rfl, rfl⟩; rw [hd])
  refine (clone_any a n c l w HS.out hn).mono ?_
  rintro e wA ⟨ab, cb, rfl, oA, gA⟩
  go_wp2_with fail
  refine (clone_any ab n cb l wA (by obtain ⟨a', c', e', s'⟩ := own_src oA; cases e'; exact s') hn).mono ?_
  rintro e wB ⟨aB, cB, rfl, oB, gB⟩
  go_wp2_with fail
  have oA' := keepN oA gB
  refine (zzesc w.heap.size ab n cb l c1 wB oA' hn (by have := gA.size; have := gB.size; omega) h0 h1 m1 HM1.out).mono ?_
  rintro e wE ⟨go, co, rfl, oE, gE⟩
  have la := own_lt oA
  have zB := gB.size
  have zA := gA.size
  have bel : Below w.heap.size w wE := ((below_of_grown gA).trans ((below_of_grown gB).mono zA)).grown gE (by omega) (fun k hk => (la k hk).1)
  have fB := keepO oB gE (fun k hk => (la k hk).2)
  have fE := own_cells oE
  have hcap := own_cap oE
  clear la zA zB oA oA' oB oE gA gB gE
  have HB : Hid (wE.ownsRow wA.heap.size 5 1 (.slice aB n cB) n (cellsOf l)) := fB
  have FE : Hid (∀ j, j < n + m1 → wE.cell? ⟨go, j, none⟩ = some (.int .u8 ((l ++ esc c1).getD j 0))) := fE.2
  have HL : Hid (l.length = n) := by have := fE.1; have h2 := HM1.out; rw [List.length_append, h2] at this; show l.length = n; omega
  have FT : Hid (∀ j, j < m1 → wE.cell? ⟨go, n + j, none⟩ = some (.int .u8 ((esc c1).getD j 0))) := fun j hj => by
    have := FE.out (n + j) (by omega)
    rw [getD_right l (esc c1) n j HL.out] at this
    exact this
  clear fB fE
  go_wp2
  go_loopw [8] (fun i wr => ∃ k : Nat, k ≤ n ∧ i = .int .i64 k ∧ ∃ m, wr = wE.drewN m) (fun i _ => n - (intOf i).toNat)
  case atStart => exact ⟨0, Nat.zero_le _, rfl, 0, rfl⟩
  case round =>
    obtain ⟨k, hk, rfl, m, rfl⟩ := hrel
    by_cases hlt : k < n
    · obtain ⟨gb, rfl⟩ := own_some HB.out (by omega)
      have hl := HL.out
      have q1 := (own_cells HB.out).2 k hlt
      have q2 := FE.out k (by omega)
      rw [getD_left l (esc c1) k (by omega)] at q2
      clear hl
      generalize l.getD k 0 = z at *
      have i1 : (k : Int) < (n : Int) := by omega
      have i2 : (k : Int) < (n : Int) + (m1 : Int) := by omega
      go_wp2
      go_quiet (fail)
      go_wp2
      go_roundw
      case rel => exact ⟨k + 1, by omega, by go_num, _, rfl⟩
      case measure => simp [intOf]; omega
    · have t0 := FT.out 0 (by omega)
      have t1 := FT.out 1 (by omega)
      simp only [Nat.add_zero] at t0
      have hne : ¬ co = n := by omega
      have KS := hid (hse_any c1 (wE.drewN m) h0 h1)
      cases hS : hse c1 with
      | true =>
        obtain ⟨s1, s2, s3, s4⟩ := short_is c1 h0 h1 hS
        rw [hS] at KS
        rw [s2] at t0
        have hm2 : m1 = 2 := by have := HM1.out; omega
        subst hm2
        have q47 : ((esc c1).getD 1 0 == 47) = false := by simpa using s3
        have J := hid (jsu_any ((esc c1).getD 1 0) (wE.drewN m))
        rw [s4] at J
        clear hS s1 s2 s3 s4
        generalize (esc c1).getD 1 0 = x at *
        go_wp2_with (first | (go_at_call 12; refine (KS.out).mono ?_; rintro e w' ⟨rfl, rfl⟩) | (go_at_call 13; refine (J.out).mono ?_; rintro e w' ⟨rfl, rfl⟩))
        go_ret
        exact ⟨rfl, below_dN bel _⟩
      | false =>
        obtain ⟨s1, s2, s3, s4, s5⟩ := long_is c1 h0 h1 hS
        rw [hS] at KS
        rw [s2] at t0
        rw [s3] at t1
        have hm2 : m1 = 6 := by have := HM1.out; omega
        subst hm2
        have J := hid (zzhex_long go (n + 2) 4 (co - n - 2) ((esc c1).drop 2) (wE.drewN m) (by omega) (by omega) (fun j hj => by rw [getD_drop, Nat.add_assoc]; simpa using FT.out (2 + j) (by omega)) (fun j => by rw [getD_drop]; exact bd_is c1 h0 h1 _))
        rw [s5] at J
        have S4 := hid s4
        clear hS s1 s2 s3 s4 s5
        go_wp2_with (go_at_call 12; refine (KS.out).mono ?_; rintro e w' ⟨rfl, rfl⟩)
        go_loop [12] (fun i => ∃ k2 : Nat, 2 ≤ k2 ∧ k2 ≤ 6 ∧ i = .int .i64 k2) (fun i => 6 - (intOf i).toNat)
        case atStart => exact ⟨2, by omega, by omega, rfl⟩
        case round =>
          obtain ⟨k2, hk2, hk6, rfl⟩ := hrel
          by_cases hlt2 : k2 < 6
          · have i1 : (k2 : Int) < 6 := by omega
            have i0 : (0 : Int) ≤ (k2 : Int) := by omega
            have y1 := FT.out k2 (by omega)
            have y2 : ¬ (65 ≤ (esc c1).getD k2 0 ∧ (esc c1).getD k2 0 ≤ 70) := by
              have := S4.out ⟨k2 - 2, by omega⟩
              rw [show 2 + (k2 - 2) = k2 by omega] at this
              exact this
            generalize (esc c1).getD k2 0 = y at *
            by_cases hy : 65 ≤ y
            · have hy7 : 70 < y := by omega
              clear y2
              go_wp2
              go_round
              case rel => exact ⟨k2 + 1, by omega, by omega, by go_num⟩
              case measure => simp [intOf]; omega
            · clear y2
              go_wp2
              go_round
              case rel => exact ⟨k2 + 1, by omega, by omega, by go_num⟩
              case measure => simp [intOf]; omega
          · have hne2 : ¬ co - n = 2 := by omega
            go_wp2_with fail
            refine (J.out).mono ?_
            rintro e w' ⟨rfl, rfl⟩
            go_wp2
            go_ret
            exact ⟨rfl, below_dN bel _⟩
end Go.Proofs.Qxb6003658a
