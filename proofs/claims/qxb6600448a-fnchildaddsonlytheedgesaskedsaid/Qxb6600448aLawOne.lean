import Derived.Test.Qxb6600448aScript
import Derived.Test.Qxb6600448aBig
import Derived.LaidEqlPtr
namespace Go.Proofs.Qxb6600448a
open Go.RowKit
set_option linter.unusedVariables false

theorem info51 : (Try.prog.info? 51).map (fun i => (i.zero, i.size, i.bytes)) = some (some (.agg #[.map none, .pointer none, .pointer none, .slice none 0 0]), 4, 48) := by kernel_rfl

theorem ptr_eq {w : World} {base : Nat} {N : Nat → Prop} {ch : Ch} {cnt : Nat → Nat} (h : Tree w base N ch cnt) {x y : Nat} (hx : N x) (hy : N y) (m : Nat) :
    (binOp .eql 25 (.pointer (some ⟨x, 0, none⟩)) (.pointer (some ⟨y, 0, none⟩))).run Try.prog (w.drewN m) = .ok (.bool (decide (x = y))) (w.drewN m) := by
  obtain ⟨i0, hi, hz0, hz1, hz2⟩ := info_parts info51
  by_cases e : x = y
  · subst e
    simp only [decide_true]
    exact run_eql_ptr_same _ _ Try.underlying25 hi
  · rw [decide_eq_false e]
    obtain ⟨mp, h1, _, _⟩ := h
    exact run_eql_ptr_other (w.drewN m) Try.underlying25 hi (by rw [hz1]; decide) (fun e' => e (by cases e'; rfl)) (h1 x hx).1 (h1 y hy).1

set_option maxRecDepth 100000 in
set_option maxHeartbeats 1600000 in
theorem law_one (a : Option Addr) (b off n c : Nat) (st : Nat → St) (w : World) (hn : n ≤ 9223372036854775807) (ht : ∀ j, (st j).text.size ≤ maxLen) (hs : Steps w a n c b off st) :
    Calls Try.prog 3 #[.slice a n c] w fun e w' => e = .returned (.bool true) ∧ Below w.heap.size w w' := by
  have HS := hid hs
  have HT := hid ht
  clear hs ht
  have HT2 := hid (show ∀ j, (st j).text.size ≤ 9223372036854775807 from fun j => by have := HT.out j; unfold maxLen at this; omega)
  go_enter Try.func3, Try.ntmps3
  go_wp2_with fail
  refine (zz7 a b off n c st w hn HS.out.2.1 HT2.out (fun j hj => (HS.out.2.2 j hj).2.2)).mono ?_
  rintro e w' ⟨hr, rfl⟩
  rcases hr with ⟨rfl, hn1, ht1⟩ | ⟨rfl, _⟩
  · have HT1 := hid ht1
    clear ht1
    go_wp2_with fail
    refine (zz8 a b off n c st w hn1 HS.out.2.1 HT1.out (fun j hj => (HS.out.2.2 j hj).2.2)).mono ?_
    rintro e w' ⟨hr, rfl⟩
    rcases hr with ⟨rfl, _⟩ | ⟨rfl, hn2⟩
    · go_wp2
      go_ret
      exact ⟨rfl, Below.refl _ _⟩
    · go_wp2_with fail
      refine (cloneS a b off n c st w hn2 HS.out).mono ?_
      rintro e wA ⟨a', c', bs, rfl, hA1, hA2, hA3, hbA⟩
      have HA1 := hid hA1
      have HA2 := hid hA2
      have HA3 := hid hA3
      have HBA := hid hbA
      clear hA1 hA2 hA3 hbA
      go_wp2_with fail
      refine (script_go a' n c' bs st wA hn2 HA1.out HA2.out HA3.out HT.out).mono ?_
      rintro e wS ⟨Bc, Bp, nd, cn, cp, N, ch, cnt, rfl, hR⟩
      have HR := hid hR
      have HBS := hid (show Below w.heap.size w wS from HBA.out.trans (hR.bel.mono HBA.out.size))
      clear hR
      go_wp2
      have CN := hid (show ∀ j, j < n → wS.cell? ⟨wA.heap.size + 1, j, none⟩ = some (.pointer (some ⟨nd j, 0, none⟩)) from fun j hj => by
        have := HR.out.rn.cell hj
        rw [if_pos hj] at this
        exact this)
      have CC := hid (show ∀ j, j < n → wS.cell? ⟨Bc, j, none⟩ = some (.int .i64 (cn j : Int)) from fun j hj => by
        have := HR.out.rc.cell hj
        rw [if_pos hj] at this
        exact this)
      generalize wA.heap.size + 1 = Bn at *
      go_loopw [7] (fun iv wr => ∃ j m, j ≤ n ∧ iv = .int .i64 (j : Nat) ∧ wr = wS.drewN m) (fun iv _ => n - (intOf iv).toNat)
      case atStart => exact ⟨0, 0, Nat.zero_le _, rfl, rfl⟩
      case round =>
        obtain ⟨j, m, hj, rfl, rfl⟩ := hrel
        by_cases hlt : j < n
        · have i1 : (j : Int) < (n : Int) := by omega
          have c1 := CN.out j hlt
          have hNj := (HR.out.inv.dom (nd j)).2 (.inr ⟨j, hlt, rfl⟩)
          have hNr := (HR.out.inv.dom wA.heap.size).2 (.inl rfl)
          have hq : ∀ m, (binOp .eql 25 (.pointer (some ⟨nd j, 0, none⟩)) (.pointer (some ⟨wA.heap.size, 0, none⟩))).run Try.prog (wS.drewN m) = .ok (.bool false) (wS.drewN m) := fun m => by
            rw [ptr_eq HR.out.tree hNj hNr m, decide_eq_false (HR.out.inv.root j hlt)]
          clear hNr
          go_wp2
          go_loopw [8] (fun iv wr => ∃ k m, k ≤ j ∧ iv = .int .i64 (k : Nat) ∧ wr = wS.drewN m) (fun iv _ => j - (intOf iv).toNat)
          case atStart => exact ⟨0, m, Nat.zero_le _, rfl, rfl⟩
          case round =>
            obtain ⟨k, m2, hk, rfl, rfl⟩ := hrel
            by_cases hkj : k < j
            · have i2 : (k : Int) < (n : Int) := by omega
              have c2 := CN.out k (by omega)
              have c3 := CC.out j hlt
              have c4 := CC.out k (by omega)
              have heq : nd j = nd k ↔ cn j = cn k := ⟨HR.out.inv.inj j k hlt (by omega), fun h => by
                rw [← (HR.out.inv.cnle j hlt).2.2, ← (HR.out.inv.cnle k (by omega)).2.2, h]⟩
              have hNk := (HR.out.inv.dom (nd k)).2 (.inr ⟨k, by omega, rfl⟩)
              have hq2 : ∀ m, (binOp .eql 25 (.pointer (some ⟨nd j, 0, none⟩)) (.pointer (some ⟨nd k, 0, none⟩))).run Try.prog (wS.drewN m) = .ok (.bool ((cn j : Int) == (cn k : Int))) (wS.drewN m) := fun m => by
                rw [ptr_eq HR.out.tree hNj hNk m]
                congr 2
                by_cases e : cn j = cn k
                · rw [decide_eq_true (heq.2 e)]; simp [e]
                · rw [decide_eq_false (fun h => e (heq.1 h))]; simp; omega
              clear heq hNk hq
              by_cases e : cn j = cn k
              · have e2 : ((cn j : Int) == (cn k : Int)) = true := by simp [e]
                clear e
                go_wp2
                go_quiet (fail)
                go_wp2
                go_roundw
                case rel => exact ⟨k + 1, _, by omega, by go_num, rfl⟩
                case measure => simp [intOf]; omega
              · have e2 : ((cn j : Int) == (cn k : Int)) = false := by simp; omega
                clear e
                go_wp2
                go_quiet (fail)
                go_wp2
                go_roundw
                case rel => exact ⟨k + 1, _, by omega, by go_num, rfl⟩
                case measure => simp [intOf]; omega
            · go_wp2
              go_roundw
              case rel => exact ⟨j + 1, m2, by omega, by go_num, rfl⟩
              case measure => simp [intOf]; omega
        · go_wp2
          go_ret
          exact ⟨rfl, below_drewN HBS.out _⟩
  · go_wp2
    go_ret
    exact ⟨rfl, Below.refl _ _⟩
end Go.Proofs.Qxb6600448a
