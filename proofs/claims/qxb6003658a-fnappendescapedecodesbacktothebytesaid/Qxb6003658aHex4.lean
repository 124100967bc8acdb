import Derived.Test.Qxb6003658aHexM
namespace Go.Proofs.Qxb6003658a
open Go.RowKit
set_option linter.unusedVariables false

theorem hid {p : Prop} (h : p) : Hid p := h

theorem hex4_short (a : Option Addr) (n c : Nat) (w : World) (hn : n < 4) : Calls Try.prog 17 #[.slice a n c] w fun e w' => e = .returned (.tuple #[.int .i32 0, .bool false]) ∧ w = w' := by
  go_enter Try.func17, Try.ntmps17
  go_wp2
  go_ret2
  exact ⟨rfl, rfl⟩

theorem or4 (r d : Int) (h0 : 0 ≤ r) (h1 : r < 4096) (d0 : 0 ≤ d) (d1 : d < 16) : bits BinOp.or IntKind.i32 (r * 16) d = r * 16 + d :=
  bits_join .i32 31 (by decide) wraps_i32 4 (r * 16) d (by omega) (by omega) (by omega) d0 d1 (by omega)
theorem hexv_a (z : Int) (h : 48 ≤ z) (g : z ≤ 57) : hexv z = z - 48 := by unfold hexv; rw [if_pos ⟨h, g⟩]
theorem hexv_b (z : Int) (h : 97 ≤ z) (g : z ≤ 102) : hexv z = z - 87 := by unfold hexv; rw [if_neg (by omega), if_pos ⟨h, g⟩]
theorem hexv_c (z : Int) (h : 65 ≤ z) (g : z ≤ 70) : hexv z = z - 55 := by unfold hexv; rw [if_neg (by omega), if_neg (by omega), if_pos ⟨h, g⟩]
theorem hexv_d (z : Int) (h : ¬ (48 ≤ z ∧ z ≤ 57) ∧ ¬ (97 ≤ z ∧ z ≤ 102) ∧ ¬ (65 ≤ z ∧ z ≤ 70)) : hexv z < 0 := by unfold hexv; rw [if_neg h.1, if_neg h.2.1, if_neg h.2.2]; omega

set_option maxHeartbeats 800000 in
theorem hex4_long (b off n c : Nat) (l : List Int) (w : World) (hn : 4 ≤ n) (hnc : n ≤ c) (hc : ∀ j, j < 4 → w.cell? ⟨b, off + j, none⟩ = some (.int .u8 (l.getD j 0))) (hb : ∀ j, 0 ≤ l.getD j 0 ∧ l.getD j 0 ≤ 255) :
    Calls Try.prog 17 #[.slice (some ⟨b, off, none⟩) n c] w fun e w' => e = .returned (.tuple #[.int .i32 (hexOut l).1, .bool (hexOut l).2]) ∧ w = w' := by
  have HC : Hid (∀ j, j < 4 → w.cell? ⟨b, off + j, none⟩ = some (.int .u8 (l.getD j 0))) := hc
  have HB : Hid (∀ j, 0 ≤ l.getD j 0 ∧ l.getD j 0 ≤ 255) := hb
  clear hc hb
  go_enter Try.func17, Try.ntmps17
  go_wp2
  go_loop [4, 13] (fun v i => ∃ k : Nat, k ≤ 4 ∧ i = .int .i64 k ∧ v = .int .i32 (val l k) ∧ okTo l k = true) (fun _ i => 4 - (intOf i).toNat)
  case atStart => exact ⟨0, by omega, rfl, rfl, rfl⟩
  case round =>
    obtain ⟨k, hk, rfl, rfl, hok⟩ := hrel
    have vb := val_bd l k hok
    have HK : Hid (okTo l k = true) := hok
    clear hok
    by_cases hlt : k < 4
    · have p4 : (16 : Int) ^ k ≤ 4096 := by
        have : k = 0 ∨ k = 1 ∨ k = 2 ∨ k = 3 := by omega
        rcases this with rfl | rfl | rfl | rfl <;> decide
      have vb1 := vb.1
      have vb2 : val l k < 4096 := by omega
      clear vb p4
      have i1 : (k : Int) < 4 := by omega
      have g := HC.out k hlt
      have bb := HB.out k
      have HV : Hid (val l (k + 1) = val l k * 16 + hexv (l.getD k 0)) := rfl
      have HO : Hid (okTo l (k + 1) = (okTo l k && decide (0 ≤ hexv (l.getD k 0)))) := rfl
      have HX : Hid (hexv (l.getD k 0) < 0 → hexOut l = (0, false)) := out_bad l k hlt
      generalize l.getD k 0 = z at *
      generalize hr : val l k = r at *
      have Hr : Hid (val l k = r) := hr
      clear hr
      rcases (show (48 ≤ z ∧ z ≤ 57) ∨ (97 ≤ z ∧ z ≤ 102) ∨ (65 ≤ z ∧ z ≤ 70) ∨ ¬ (48 ≤ z ∧ z ≤ 57) ∧ ¬ (97 ≤ z ∧ z ≤ 102) ∧ ¬ (65 ≤ z ∧ z ≤ 70) by omega) with ⟨za, zb⟩ | ⟨za, zb⟩ | ⟨za, zb⟩ | hz
      · have hd : Hid (hexv z = z - 48) := hexv_a z (by omega) (by omega)
        go_wp2
        go_round
        case rel => exact ⟨k + 1, by omega, by go_num, by rw [HV.out, hd.out, or4 r _ vb1 vb2 (by omega) (by omega)], by rw [HO.out, HK.out, hd.out]; simp; omega⟩
        case measure => simp [intOf]; omega
      · have hd : Hid (hexv z = z - 87) := hexv_b z (by omega) (by omega)
        go_wp2
        go_round
        case rel => exact ⟨k + 1, by omega, by go_num, by rw [HV.out, hd.out, or4 r _ vb1 vb2 (by omega) (by omega)], by rw [HO.out, HK.out, hd.out]; simp; omega⟩
        case measure => simp [intOf]; omega
      · have hd : Hid (hexv z = z - 55) := hexv_c z (by omega) (by omega)
        go_wp2
        go_round
        case rel => exact ⟨k + 1, by omega, by go_num, by rw [HV.out, hd.out, or4 r _ vb1 vb2 (by omega) (by omega)], by rw [HO.out, HK.out, hd.out]; simp; omega⟩
        case measure => simp [intOf]; omega
      · have hR : Hid (hexOut l = (0, false)) := HX.out (hexv_d z hz)
        go_wp2
        all_goals
          go_ret2
          exact ⟨ret_ib hR.out, rfl⟩
    · have e4 : k = 4 := by omega
      have HR : Hid (hexOut l = (val l k, true)) := by show hexOut l = (val l k, true); unfold hexOut; rw [if_pos (by rw [← e4]; exact HK.out), e4]
      clear e4
      go_wp2
      go_ret2
      exact ⟨ret_ib HR.out, rfl⟩

theorem zzhex_short (a : Option Addr) (n c : Nat) (w : World) (hn : n < 4) : Calls Try.prog 9 #[.slice a n c] w fun e w' => e = .returned (.tuple #[.int .i32 0, .bool false]) ∧ w = w' := by
  go_enter Try.func9, Try.ntmps9
  go_wp2_with (go_at_call 17; refine (hex4_short a n c _ hn).mono ?_; rintro e w' ⟨rfl, rfl⟩)
  go_ret2
  exact ⟨rfl, rfl⟩
theorem zzhex_long (b off n c : Nat) (l : List Int) (w : World) (hn : 4 ≤ n) (hnc : n ≤ c) (hc : ∀ j, j < 4 → w.cell? ⟨b, off + j, none⟩ = some (.int .u8 (l.getD j 0))) (hb : ∀ j, 0 ≤ l.getD j 0 ∧ l.getD j 0 ≤ 255) :
    Calls Try.prog 9 #[.slice (some ⟨b, off, none⟩) n c] w fun e w' => e = .returned (.tuple #[.int .i32 (hexOut l).1, .bool (hexOut l).2]) ∧ w = w' := by
  have K := hex4_long b off n c l w hn hnc hc hb
  have HK := hid K
  clear K hc hb
  go_enter Try.func9, Try.ntmps9
  go_wp2_with (go_at_call 17; refine (HK.out).mono ?_; rintro e w' ⟨rfl, rfl⟩)
  go_ret2
  exact ⟨rfl, rfl⟩
end Go.Proofs.Qxb6003658a
