import Derived.Test.Qxb6003658aOwn
namespace Go.Proofs.Qxb6003658a
open Go.RowKit
set_option linter.unusedVariables false

theorem pc_big (a : Option Addr) (n c : Nat) (c1 c2 : Int) (w : World) (hn : n ≤ 9223372036854775807) (hbig : 1048576 < n) :
    Calls Try.prog 5 #[.slice a n c, .int .u8 c1, .int .u8 c2] w fun e w' => e = .returned (.bool true) ∧ Below w.heap.size w w' := by
  have hd : decide (n ≤ 1048576) = false := by simp; omega
  go_enter Try.func5, Try.ntmps5
  go_wp2_with (go_at_call 14; refine (zz14 _ _ _ _ _ _ hn).mono ?_; rintro e w' ⟨rfl, rfl⟩; rw [hd])
  go_ret
  exact ⟨rfl, Below.refl _ _⟩

theorem below_dN {B : Nat} {a w : World} (h : Below B a w) (m : Nat) : Below B a (w.drewN m) := ⟨h.os, h.tape, h.output, h.size, h.block⟩

theorem getD_left (l e : List Int) (k : Nat) (h : k < l.length) : (l ++ e).getD k 0 = l.getD k 0 := by
  simp only [List.getD_eq_getElem?_getD, List.getElem?_append_left h]
theorem getD_right (l e : List Int) (n k : Nat) (h : l.length = n) : (l ++ e).getD (n + k) 0 = e.getD k 0 := by
  subst h
  simp only [List.getD_eq_getElem?_getD]
  rw [List.getElem?_append_right (by omega), Nat.add_sub_cancel_left]

set_option maxHeartbeats 1000000 in
theorem pc_core (a : Option Addr) (n c : Nat) (l : List Int) (c1 c2 : Int) (w : World) (hs : Src w a n l) (hn : n ≤ 1048576) (h0 : 0 ≤ c1) (h1 : c1 ≤ 255) (g0 : 0 ≤ c2) (g1 : c2 ≤ 255) :
    Calls Try.prog 5 #[.slice a n c, .int .u8 c1, .int .u8 c2] w fun e w' => e = .returned (.bool true) ∧ Below w.heap.size w w' := by
  have hd : decide (n ≤ 1048576) = true := by simpa using hn
  have HS : Hid (Src w a n l) := hs
  clear hs
  obtain ⟨m1, hm1⟩ : ∃ m, (esc c1).length = m := ⟨_, rfl⟩
  obtain ⟨m2, hm2⟩ : ∃ m, (esc c2).length = m := ⟨_, rfl⟩
  have lm1 := len_ge c1 h0 h1
  have lm2 := len_ge c2 g0 g1
  rw [hm1] at lm1
  rw [hm2] at lm2
  have HM1 : Hid ((esc c1).length = m1) := hm1
  have HM2 : Hid ((esc c2).length = m2) := hm2
  clear hm1 hm2
  go_enter Try.func5, Try.ntmps5
  go_wp2_with (go_at_call 14; refine (zz14 _ _ _ _ _ _ (by omega)).mono ?_; rintro e w' ⟨rfl, rfl⟩; rw [hd])
  refine (clone_any a n c l w HS.out hn).mono ?_
  rintro e wA ⟨ab, cb, rfl, oA, gA⟩
  go_wp2_with fail
  refine (clone_any ab n cb l wA (by obtain ⟨a', c', e', s'⟩ := own_src oA; cases e'; exact s') hn).mono ?_
  rintro e wB ⟨aB, cB, rfl, oB, gB⟩
  go_wp2_with fail
  refine (zzesc wB.heap.size none 0 0 [] c1 wB (World.ownsRow_nil _ _ _ _) (by omega) (Nat.le_refl _) h0 h1 m1 HM1.out).mono ?_
  rintro e wC ⟨ge1, ce1, rfl, oC, gC⟩
  go_wp2_with fail
  refine (zzesc wC.heap.size none 0 0 [] c2 wC (World.ownsRow_nil _ _ _ _) (by omega) (Nat.le_refl _) g0 g1 m2 HM2.out).mono ?_
  rintro e wD ⟨ge2, ce2, rfl, oD, gD⟩
  go_wp2_with fail
  have oA' := keepN (keepN (keepN oA gB) gC) gD
  refine (zzesc w.heap.size ab n cb l c1 wD oA' hn (by have := gA.size; have := gB.size; have := gC.size; have := gD.size; omega) h0 h1 m1 HM1.out).mono ?_
  rintro e wE ⟨go, co, rfl, oE, gE⟩
  have la := own_lt oA
  have zB := gB.size
  have zC := gC.size
  have zD := gD.size
  have zA := gA.size
  have bel : Below w.heap.size w wE := ((((below_of_grown gA).trans ((below_of_grown gB).mono zA)).trans ((below_of_grown gC).mono (by omega))).trans ((below_of_grown gD).mono (by omega))).grown gE (by omega) (fun k hk => (la k hk).1)
  have fB := keepO (keepN (keepN oB gC) gD) gE (fun k hk => (la k hk).2)
  have f1 := own_cells (keepO (keepN oC gD) gE (fun k hk => by have := (la k hk).2; omega))
  have f2 := own_cells (keepO oD gE (fun k hk => by have := (la k hk).2; omega))
  have fE := own_cells oE
  clear la zA zB zC zD oA oA' oB oC oD oE gA gB gC gD gE
  simp only [List.nil_append, Nat.zero_add] at f1 f2
  have HB : Hid (wE.ownsRow wA.heap.size 5 1 (.slice aB n cB) n (cellsOf l)) := fB
  have F1 : Hid (∀ j, j < m1 → wE.cell? ⟨ge1, j, none⟩ = some (.int .u8 ((esc c1).getD j 0))) := f1.2
  have F2 : Hid (∀ j, j < m2 → wE.cell? ⟨ge2, j, none⟩ = some (.int .u8 ((esc c2).getD j 0))) := f2.2
  have FE : Hid (∀ j, j < n + m1 → wE.cell? ⟨go, j, none⟩ = some (.int .u8 ((l ++ esc c1).getD j 0))) := fE.2
  have HL : Hid (l.length = n) := by have := fE.1; have h2 := HM1.out; rw [List.length_append, h2] at this; show l.length = n; omega
  clear fB f1 f2 fE
  go_wp2
  go_loopw [11] (fun i wr => ∃ k : Nat, k ≤ n ∧ i = .int .i64 k ∧ ∃ m, wr = wE.drewN m) (fun i _ => n - (intOf i).toNat)
  case atStart => exact ⟨0, Nat.zero_le _, rfl, 0, rfl⟩
  case round =>
    obtain ⟨k, hk, rfl, m, rfl⟩ := hrel
    by_cases hlt : k < n
    · obtain ⟨gb, rfl⟩ := own_some HB.out (by omega)
      have hl := HL.out
      have q1 := (own_cells HB.out).2 k hlt
      have q2 := FE.out k (by omega)
      rw [getD_left l (esc c1) k (by omega)] at q2
      clear hl
      generalize l.getD k 0 = z at *
      have i1 : (k : Int) < (n : Int) := by omega
      have i2 : (k : Int) < (n : Int) + (m1 : Int) := by omega
      go_wp2
      go_quiet (fail)
      go_wp2
      go_roundw
      case rel => exact ⟨k + 1, by omega, by go_num, _, rfl⟩
      case measure => simp [intOf]; omega
    · go_wp2
      go_loopw [12] (fun i wr => ∃ k : Nat, k ≤ m1 ∧ i = .int .i64 k ∧ ∃ m, wr = wE.drewN m) (fun i _ => m1 - (intOf i).toNat)
      case atStart => exact ⟨0, Nat.zero_le _, rfl, _, rfl⟩
      case round =>
        obtain ⟨k2, hk2, rfl, m', rfl⟩ := hrel
        by_cases hlt2 : k2 < m1
        · have hl := HL.out
          have q1 := F1.out k2 hlt2
          have q2 := FE.out (n + k2) (by omega)
          rw [getD_right l (esc c1) n k2 hl] at q2
          clear hl
          generalize (esc c1).getD k2 0 = z at *
          have i1 : (k2 : Int) < (m1 : Int) := by omega
          have i2 : (n : Int) + (k2 : Int) < (n : Int) + (m1 : Int) := by omega
          go_wp2
          go_quiet (fail)
          go_wp2
          go_roundw
          case rel => exact ⟨k2 + 1, by omega, by go_num, _, rfl⟩
          case measure => simp [intOf]; omega
        · have P12 := fun W => pre_any ge1 0 m1 ce1 ge2 0 m2 ce2 (esc c1) (esc c2) W HM1.out HM2.out (by omega) (by omega)
          have P21 := fun W => pre_any ge2 0 m2 ce2 ge1 0 m1 ce1 (esc c2) (esc c1) W HM2.out HM1.out (by omega) (by omega)
          have H12 : Hid _ := P12
          have H21 : Hid _ := P21
          clear P12 P21
          have cc1 : ∀ M, ∀ j, j < m1 → (wE.drewN M).cell? ⟨ge1, 0 + j, none⟩ = some (.int .u8 ((esc c1).getD j 0)) := fun M j hj => by rw [Nat.zero_add]; simpa using F1.out j hj
          have cc2 : ∀ M, ∀ j, j < m2 → (wE.drewN M).cell? ⟨ge2, 0 + j, none⟩ = some (.int .u8 ((esc c2).getD j 0)) := fun M j hj => by rw [Nat.zero_add]; simpa using F2.out j hj
          have C1 : Hid _ := cc1
          have C2 : Hid _ := cc2
          clear cc1 cc2
          by_cases hcc : c1 = c2
          · have hq : (c1 == c2) = true := by simpa using hcc
            have hp : isPre (esc c1) (esc c2) = true := by rw [hcc]; exact pre_self c2
            have hmm : (m1 : Int) = (m2 : Int) := by have a := HM1.out; have b := HM2.out; rw [hcc, b] at a; omega
            have hme : ((m1 : Int) == (m2 : Int)) = true := by simpa using hmm
            have HP : Hid (isPre (esc c1) (esc c2) = true) := hp
            clear hp hcc hmm
            go_wp2_with fail
            refine (H12.out _ (C1.out _) (C2.out _)).mono ?_
            rintro e w' ⟨rfl, M, rfl⟩
            rw [HP.out]
            go_wp2
            go_ret
            exact ⟨rfl, below_dN bel _⟩
          · have hq : (c1 == c2) = false := by simpa using hcc
            have p1 := pre_ne c1 c2 h0 h1 g0 g1 hcc
            have p2 := pre_ne c2 c1 g0 g1 h0 h1 (fun e => hcc e.symm)
            have HP1 : Hid (isPre (esc c1) (esc c2) = false) := p1
            have HP2 : Hid (isPre (esc c2) (esc c1) = false) := p2
            clear p1 p2 hcc
            go_wp2_with fail
            refine (H12.out _ (C1.out _) (C2.out _)).mono ?_
            rintro e w' ⟨rfl, M, rfl⟩
            rw [HP1.out, World.drewN_drewN]
            go_wp2_with fail
            refine (H21.out _ (C2.out _) (C1.out _)).mono ?_
            rintro e w' ⟨rfl, M', rfl⟩
            rw [HP2.out, World.drewN_drewN]
            go_wp2
            go_ret
            exact ⟨rfl, below_dN bel _⟩
end Go.Proofs.Qxb6003658a
